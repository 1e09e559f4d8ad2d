import JvmDerived
import JvmDerived.Pilot.@@N@@Statement
import JvmDerived.Pilot.@@N@@Code
set_option linter.unusedVariables false
set_option linter.unusedSimpArgs false
namespace Jvm.RoadKit
open Sem ClassFile Op Lib Jvm.Stand Jvm.Free Jvm.LawKit
section New
variable {p : Program} {l : Launch} {e : Env} {R : Room} {s : State} {m : MethodId} {args : Array Value} {below : List Frame} {meth : Method} {c : Code} {T : State} {locs : List Loc} {cells slots : Nat}
theorem retI (X : Stand p l e R s m args below meth c T locs cells slots) (hx : p.tables.exec = Jvm.exec) {pc : Nat} {Ls : Array Slot} {z : Int32} {rest : List Value} (hret : meth.sig.returnType = some .int) (hd : decode c.code pc = .ok (.ireturn, 1)) {fs : List Frame}
    (hl : ∀ (f : JFrame) (acts : List Action), f.method = m → f.locked = none → f.entered = [] → (doReturn e (T.setTop f) acts (some (.int z))).1 = T.setFrames fs) : Steps p.tables e below (T.setTop (mkF m pc Ls (.int z :: rest))) (T.setFrames fs) := by
  have hm' : T.vm.method? m = some meth := X.method'
  have hn : narrow .int (.int z) = .int z := rfl
  show Steps p.tables e below (T.setTop { method := m, pc := pc, locals := Ls, stack := _ :: rest, locked := none }) _
  jvm_step X.here [X.here.top, hx, hd, hm', hret, hn]
  first | (intro acts; rw [hl _ acts rfl rfl rfl]) | rw [hl _ _ rfl rfl rfl]
  exact Steps.refl _
end New
end Jvm.RoadKit
@@BLOCK:NumsL.lean.txt@@
namespace Jvm.Pilot.@@N@@
open Jvm Jvm.ClassFile Sem Op Lib Jvm.Free Jvm.Stand Jvm.LawKit Jvm.RoadKit Bundle Jvm.Pilot.@@N@@.Jvm.D
abbrev oR0 : Room := { frames := 1, cells := 1, slots := 16, locals := 12 }
abbrev oR1 : Room := { frames := 2, cells := 1, slots := 16, locals := 25 }
abbrev oR2 : Room := { frames := 0, cells := 0, slots := 0, locals := 0 }
abbrev oR3 : Room := { frames := 1, cells := 0, slots := 0, locals := 13 }
abbrev oR4 : Room := { frames := 1, cells := 0, slots := 0, locals := 14 }
abbrev oR5 : Room := { frames := 2, cells := 0, slots := 0, locals := 29 }
abbrev oR6 : Room := { frames := 1, cells := 1, slots := 34, locals := 18 }
abbrev oR7 : Room := { frames := 3, cells := 1, slots := 34, locals := 48 }
abbrev oR8 : Room := { frames := 1, cells := 0, slots := 0, locals := 18 }
abbrev oR9 : Room := { frames := 2, cells := 0, slots := 0, locals := 33 }
abbrev oR10 : Room := { frames := 3, cells := 0, slots := 0, locals := 47 }
abbrev oR11 : Room := { frames := 4, cells := 1, slots := 34, locals := 62 }
abbrev oR12 : Room := { frames := 4, cells := 0, slots := 0, locals := 61 }
abbrev oR13 : Room := { frames := 5, cells := 1, slots := 34, locals := 76 }
abbrev oR14 : Room := { frames := 5, cells := 1, slots := 34, locals := 77 }
abbrev oR15 : Room := { frames := 2, cells := 1, slots := 34, locals := 34 }
abbrev oR16 : Room := { frames := 1, cells := 0, slots := 0, locals := 12 }
abbrev oR17 : Room := { frames := 3, cells := 1, slots := 34, locals := 49 }
abbrev oR18 : Room := { frames := 4, cells := 1, slots := 34, locals := 65 }
abbrev oR19 : Room := { frames := 5, cells := 2, slots := 38, locals := 79 }
abbrev oR20 : Room := { frames := 6, cells := 11, slots := 180, locals := 91 }
abbrev oS (p : Program) (e : Env) (b : List Frame) (T : State) (f : JFrame) (t : State) : Prop := Steps p.tables e b (T.setTop f) t
theorem ow {a0 : Array Value} {Z : State} (hw : ∀ d ∈ tables_1, d.before a0 Z = true) (i : Nat) {c : Jvm.Cond} (h : tables_1[i]? = some c) : c.before a0 Z = true := hw _ (List.mem_of_getElem? h)
theorem own_decl {args : Array Value} {s : State} {y : MethodName} {bytes : ByteArray} {ml : Nat} {rt : Option FieldType} (h1 : (Jvm.Cond.instanceMethod y).before args s = true) (h2 : (Jvm.Cond.code y bytes ml rt).before args s = true) : (Jvm.Cond.declares y).before args s = true := by
  obtain ⟨m, meth, q1, q2, q3, -⟩ := Cond.instanceMethod_spec h1
  obtain ⟨meth', c, r1, -, -, -, -, -, -, r2⟩ := Cond.code_spec q1 h2
  cases q2.symm.trans r1
  simp [Cond.before, Cond.holds, Cond.value, q1, q2, q3, r2]
theorem own_same {args : Array Value} {s : State} {y z : MethodName} {C : String} (h1 : (Jvm.Cond.instanceMethod y).before args s = true) (h2 : (Jvm.Cond.selects C z z).before args s = true) (hc : z.cls = y.cls) (hx : y.cls ≠ "java/lang/invoke/MethodHandle" ∧ y.cls ≠ "java/lang/invoke/VarHandle") : (Jvm.Cond.sameMethod y.cls y.cls y.name y.desc).before args s = true := by
  obtain ⟨m, meth, q1, -⟩ := Cond.instanceMethod_spec h1
  obtain ⟨c, r, m', -, -, r3, -, mk, r5, r6⟩ := Cond.selects_spec h2
  have f := State.methodFound?_of_named q1 hx
  have c1 := findClass_of_methodNamed q1
  have c2 := findClass_of_methodNamed r3
  rw [hc, c1] at c2
  have e : m.cls = m'.cls := Option.some.inj c2
  rw [← e] at r5
  have q1' : s.methodNamed? ⟨y.cls, y.name, y.desc⟩ = some m := q1
  simp [Cond.before, Cond.holds, Cond.value, c1, f, q1', r5, r6]
theorem own_nf {args : Array Value} {s : State} {y z : MethodName} {C : String} (h2 : (Jvm.Cond.selects C z z).before args s = true) (hc : z.cls = y.cls) : NotFace s y := fun r0 h0 => by
  obtain ⟨c, r, m', -, -, r3, -, mk, r5, r6⟩ := Cond.selects_spec h2
  have c1 := findClass_of_methodNamed h0
  have c2 := findClass_of_methodNamed r3
  rw [hc, c1] at c2
  have e : r0.cls = m'.cls := Option.some.inj c2
  exact ⟨mk, by rw [e]; exact r5, r6⟩
theorem own_eqi {args : Array Value} {first s : State} {o : Option Outcome} {idx : List Nat} {t : Term} {k : Int32} (h : (Jvm.Cond.eq t (.int k)).value args first o s idx = some true) : t.eval args first o idx s = some (.int k) := by
  simp only [Cond.value, Term.eval] at h
  cases ht : t.eval args first o idx s with
  | none => simp [ht] at h
  | some x => cases x <;> simp [ht] at h ⊢; exact h
theorem own_eql {args : Array Value} {first s : State} {o : Option Outcome} {idx : List Nat} {t : Term} {k : Int64} (h : (Jvm.Cond.eq t (.long k)).value args first o s idx = some true) : t.eval args first o idx s = some (.long k) := by
  simp only [Cond.value, Term.eval] at h
  cases ht : t.eval args first o idx s with
  | none => simp [ht] at h
  | some x => cases x <;> simp [ht] at h ⊢; exact h
theorem own_eqr {args : Array Value} {first s : State} {o : Option Outcome} {idx : List Nat} {t u : Term} {a : Addr} (hu : u.eval args first o idx s = some (.ref a)) (h : (Jvm.Cond.eq t u).value args first o s idx = some true) : t.eval args first o idx s = some (.ref a) := by
  simp only [Cond.value, hu] at h
  cases ht : t.eval args first o idx s with
  | none => simp [ht] at h
  | some x => cases x <;> simp [ht] at h ⊢; exact h
theorem own_fld {args : Array Value} {s : State} {t : Term} {x : Addr} {C n d : String} {v : Value} (ht : t.eval args s none [] s = some (.ref x)) (h : (Term.field t C n d).eval args s none [] s = some v) : Fld s s.heap x C n d v := Fld.start ((fld_at ht).symm.trans h)
theorem own_exa_ns {Z : State} {h : Heap} {a : Addr} {C : String} (F : Exa Z h a C) : ∀ c : Cell, h[a]? = some c → c.vm.isStatics = false := fun c hc => by
  obtain ⟨cell, k, h1, -, -, h4, -⟩ := F
  cases h1.symm.trans hc
  exact h4
theorem own_sta_keep {Z : State} {h h' : Heap} {C n d : String} {v : Value} {ws : List Addr} (F : Sta Z h C n d v) (K : Keep h h' ws) (hn : ∀ x ∈ ws, ∀ c : Cell, h[x]? = some c → c.vm.isStatics = false) : Sta Z h' C n d v := by
  obtain ⟨cf, i, k, f, st, cell, h1, h2, h3, h4, h5, h6, h7⟩ := F
  refine ⟨cf, i, k, f, st, cell, h1, h2, h3, h4, K.2.1 st cell h5 (fun q => ?_), h6, h7⟩
  rw [hn st q cell h5] at h6
  cases h6
theorem own_len {args : Array Value} {s : State} {t : Term} {a : Addr} {c : Cell} {ty : FieldType} {k : Int32} (ev : t.eval args s none [] s = some (.ref a)) (A : Arr s s.heap a c ty) (h : (Jvm.Cond.eq (.length t) (.int k)).value args s none s [] = some true) : c.slots.size < 2 ^ 31 ∧ c.slots.size.toInt32 = k := by
  have e := own_eqi h
  have q := A.fin (Vm.Alike.refl _)
  by_cases hl : c.slots.size < 2 ^ 31
  · rw [len_f ev q hl] at e
    exact ⟨hl, Value.int.inj (Option.some.inj e)⟩
  · simp [Term.eval, ev, q, hl] at e
theorem own_elem {args : Array Value} {s : State} {t : Term} {a : Addr} {c : Cell} {j v : Int32} (ev : t.eval args s none [] s = some (.ref a)) (hc : s.heap[a]? = some c) (h : (Jvm.Cond.eq (.elem t (.int j)) (.int v)).value args s none s [] = some true) : c.slots[j.toNatClampNeg]? = some (.int v) :=
  (elem_in (own_eqi h) ev (Term.int_eval j) hc).2
theorem own_fun {Z : State} {h : Heap} {a : Addr} {C n d : String} {v w : Value} (F : Fld Z h a C n d v) (G : Fld Z h a C n d w) : v = w := by
  apply Classical.byContradiction
  intro q
  exact F.ne G q rfl
theorem own_safe_null {Z : State} {EL : List (String × Nat)} {vm : Vm} {h : Heap} {a : Addr} (hal : Z.vm.Alike vm) (E : Exa Z h a "java/lang/String") (F : Fld Z h a "java/lang/String" "value" "[B" .null) : Safe Z EL vm h a := fun B => by
  obtain ⟨cell, k, e1, e2, e3, -, -⟩ := E
  obtain ⟨p, -, u, a', -, q, -, G, rfl | rfl⟩ := B
  · obtain ⟨cS, ⟨⟨s1, s2, s3, ⟨cv, kv, iv, s4, s4'⟩, -, s6, s7, s8, s9, -⟩, hfS, hcS⟩, -⟩ := G
    obtain ⟨kv', z4⟩ := ff_back (U := Wst Z vm h) hal s4
    have F2 : Fld Z h q.sa "java/lang/String" "value" "[B" (.ref q.sd) := ⟨q.sC, cv, kv', iv, q.fSV, s1, z4, s6, s2, s3, by rw [← hal.assignable]; exact s4', s8⟩
    have := own_fun F F2
    cases this
  · cases (show h[q.sd]? = some q.SA from G.hd).symm.trans e1
    obtain ⟨cS, -, -, f, -⟩ := G
    have f : vm.findClass "[B" = some q.SA.cls := f
    rw [hal.findClass] at f
    obtain ⟨k1, q1, q2⟩ := Vm.findClass_spec f
    obtain ⟨k2, q3, q4⟩ := Vm.findClass_spec e2
    cases q1.symm.trans q3
    exact absurd (q2.symm.trans q4) (by decide)
def own_B (Z : State) (h : Heap) (d : Addr) (n : Int32) : Prop := ∃ (k : ClassId) (vs : List Value), Arv Z h d k .byte n vs (.int (0 : Int32)) ∧ n.toNatClampNeg ≤ vs.length
def own_ix (j n : Int32) : Prop := ¬ j < 0 ∧ j.toNatClampNeg < n.toNatClampNeg
def own_cp (sp dp nn z z' : Int32) : Prop := ¬ sp < 0 ∧ ¬ dp < 0 ∧ ¬ nn < 0 ∧ sp.toNatClampNeg + nn.toNatClampNeg ≤ z.toNatClampNeg ∧ dp.toNatClampNeg + nn.toNatClampNeg ≤ z'.toNatClampNeg
section own_B
variable {Z : State} {h h' : Heap} {a d : Addr} {n j : Int32} {ws : List Addr} {sl : Nat} {v : Value} {C : String}
theorem own_B.lt (F : own_B Z h d n) : d < h.size := by obtain ⟨k, vs, A, -⟩ := F; exact A.lt
theorem own_B.ext (F : own_B Z h d n) (E : Ext h h') : own_B Z h' d n := by obtain ⟨k, vs, A, l⟩ := F; exact ⟨k, vs, A.ext E, l⟩
theorem own_B.other (F : own_B Z h d n) (W : Wr h h' a sl v) (q : d ≠ a) : own_B Z h' d n := by obtain ⟨k, vs, A, l⟩ := F; exact ⟨k, vs, A.other W q, l⟩
theorem own_B.keep (F : own_B Z h d n) (K : Keep h h' ws) (q : d ∉ ws) : own_B Z h' d n := by obtain ⟨k, vs, A, l⟩ := F; exact ⟨k, vs, A.keep K q, l⟩
theorem own_B.of {k : ClassId} {vs : List Value} (A : Arv Z h d k .byte n vs (.int (0 : Int32))) : own_B Z h d n := ⟨k, vs ++ List.replicate n.toNatClampNeg (.int (0 : Int32)), A.pad (pad_rep vs _ _), by rw [List.length_append, List.length_replicate]; omega⟩
theorem own_B.new {k : ClassId} (A : Arr Z h d (newA k .byte n) .byte) (q : ¬ n < 0) : own_B Z h d n := own_B.of (Arv.new A q)
theorem own_B.neE {m : Nat} {a0 : Array Value} (F : own_B Z h d n) (E : Exa Z h a C) (w : (Cond.instantiable C m).before a0 Z = true) : a ≠ d := by obtain ⟨k, vs, A, -⟩ := F; exact Exa.neArv E A w
theorem own_B.at (F : own_B Z h d n) (ix : own_ix j n) : ∃ cl, Arr Z h d cl .byte ∧ ¬ (j < 0 ∨ cl.slots.size ≤ j.toNatClampNeg) ∧ ∀ (h' : Heap) (x : Int32), Wr h h' d j.toNatClampNeg (.int (nar .byte x)) → own_B Z h' d n := by
  obtain ⟨k, vs, ⟨cl, Ar, q1, S, q3, H, G⟩, l⟩ := F
  obtain ⟨i1, i2⟩ := ix
  refine ⟨cl, Ar, fun q => ?_, fun h' x W => ⟨k, vs.set j.toNatClampNeg (.int (nar .byte x)), Arv.set Ar q1 S q3 H G (fits_nar_byte _) W _ rfl (by omega), by rw [List.length_set]; exact l⟩⟩
  rcases q with q | q
  · exact i1 q
  · omega
theorem own_fint {v : Value} (h : fits .byte v = true) : ∃ x : Int32, v = .int x := by
  cases v <;> first | exact ⟨_, rfl⟩ | (simp [fits] at h)
theorem own_B.get (F : own_B Z h d n) (ix : own_ix j n) : ∃ cl, Arr Z h d cl .byte ∧ ¬ (j < 0 ∨ cl.slots.size ≤ j.toNatClampNeg) ∧ ∃ x : Int32, cl.slots[j.toNatClampNeg]? = some (.int x) := by
  obtain ⟨k, vs, ⟨cl, Ar, q1, S, q3, H, G⟩, l⟩ := F
  obtain ⟨i1, i2⟩ := ix
  have hj : j.toNatClampNeg < cl.slots.size := by omega
  obtain ⟨x, hx⟩ := own_fint (G _ hj)
  refine ⟨cl, Ar, fun q => ?_, x, by rw [H _ hj, hx]⟩
  rcases q with q | q
  · exact i1 q
  · omega
theorem own_B.cp {k : ClassId} {vd us : List Value} {i j : Nat} (A : Arv Z h d k .byte n (vd.take i ++ us ++ vd.drop (i + j)) (.int (0 : Int32))) (h1 : i + j ≤ vd.length) (h2 : n.toNatClampNeg ≤ vd.length) : own_B Z h d n := own_B.of A
theorem own_B.ns (F : own_B Z h d n) : ∀ c : Cell, h[d]? = some c → c.vm.isStatics = false := fun c hc => by
  obtain ⟨k, vs, ⟨cl, A, -⟩, -⟩ := F
  cases A.1.symm.trans hc
  exact A.plain
end own_B
theorem own_shr0 (x : Int32) : x >>> ((0 : Int32) &&& 31) = x := by
  rw [show ((0 : Int32) &&& 31) = 0 from by decide]
  exact Int32.shiftRight_zero
theorem own_shl0 (x : Int32) : x <<< ((0 : Int32) &&& 31) = x := by
  rw [show ((0 : Int32) &&& 31) = 0 from by decide]
  exact Int32.shiftLeft_zero
def own_i5 (i : Int32) : Prop := 1 ≤ i.toInt ∧ i.toInt < 100000
def own_sz (i : Int32) : Int32 := if i < 10 then 1 else if i < 100 then 2 else if i < 1000 then 3 else if i < 10000 then 4 else 5
theorem own_lt32 {a b : Int32} : a < b ↔ a.toInt < b.toInt := Int32.lt_iff_toInt_lt
theorem own_pos {i : Int32} (h : own_i5 i) : ¬ i < 0 := by
  rw [own_lt32]; show ¬ i.toInt < 0; have := h.1; omega
theorem own_n0 {i : Int32} (h : own_i5 i) : (-i).toInt = -i.toInt := Jvm.Kit.i32_neg (by have := h.1; have := h.2; omega)
theorem own_nl {i p : Int32} (h : own_i5 i) (hp : 0 < p.toInt) : (-p) < (-i) ↔ i < p := by
  have e : (-p).toInt = -p.toInt := Jvm.Kit.i32_neg (by omega)
  rw [own_lt32, own_lt32, own_n0 h, e]
  omega
theorem own_d100 {x : Int32} (h : -100000 < x.toInt) (h2 : x.toInt ≤ 0) : (x / (100 : Int32)).toInt = -((-x.toInt) / 100) ∧ (((x / (100 : Int32)) * (100 : Int32)) - x).toInt = (-x.toInt) % 100 := by
  have o : (100 : Int32).toInt = 100 := rfl
  have e : (x / (100 : Int32)).toInt = x.toInt.tdiv (100 : Int32).toInt := Jvm.Kit.i32_div (by rw [o]; omega)
  rw [o] at e
  have e2 : x.toInt.tdiv 100 = -((-x.toInt) / 100) := by
    have q : x.toInt = -(-x.toInt) := by omega
    conv => lhs; rw [q]
    rw [Int.neg_tdiv, Int.tdiv_eq_ediv_of_nonneg (by omega)]
  rw [e2] at e
  have m : ((x / (100 : Int32)) * (100 : Int32)).toInt = (x / (100 : Int32)).toInt * (100 : Int32).toInt := Jvm.Kit.i32_mul (by rw [e, o]; omega) (by rw [e, o]; omega)
  have s : (((x / (100 : Int32)) * (100 : Int32)) - x).toInt = ((x / (100 : Int32)) * (100 : Int32)).toInt - x.toInt := Jvm.Kit.i32_sub (by rw [m, e, o]; omega) (by rw [m, e, o]; omega)
  refine ⟨e, ?_⟩
  rw [s, m, e, o]
  omega
theorem own_ixI {j n : Int32} (h : 0 ≤ j.toInt) (h2 : j.toInt < n.toInt) : own_ix j n := by
  constructor
  · rw [own_lt32]; show ¬ j.toInt < 0; omega
  · show j.toInt.toNat < n.toInt.toNat; omega
def own_fit (i idx L : Int32) : Prop := own_i5 i ∧ (own_sz i).toInt ≤ idx.toInt ∧ idx.toInt ≤ L.toInt ∧ L.toInt ≤ 1000
theorem own_dec {x : Int32} {a b : Int} (h : a ≤ x.toInt ∧ x.toInt ≤ b) (ha : -1000 ≤ a) (hb : b ≤ 1000) : (a - 1 ≤ (x + (-1 : Int32)).toInt ∧ (x + (-1 : Int32)).toInt ≤ b - 1) := by
  have o : (-1 : Int32).toInt = -1 := rfl
  have e : (x + (-1 : Int32)).toInt = x.toInt + (-1 : Int32).toInt := Jvm.Kit.i32_add (by rw [o]; omega) (by rw [o]; omega)
  rw [e, o]
  omega
theorem own_sub0 (x : Int32) : x - (0 : Int32) = x := by
  apply Int32.toInt_inj.mp
  have o : (0 : Int32).toInt = 0 := rfl
  have h1 := x.toInt_lt; have h2 := x.le_toInt
  rw [Jvm.Kit.i32_sub (by rw [o]; omega) (by rw [o]; omega), o]
  omega
theorem own_ixd {x n : Int32} {a s : Int} (h : a - 1 ≤ x.toInt ∧ x.toInt ≤ n.toInt - s - 1) (ha : 1 ≤ a) (hs : 0 ≤ s) : own_ix x n := own_ixI (by omega) (by omega)
theorem own_dcs {x n : Int32} {a s : Int} (h : a ≤ x.toInt ∧ x.toInt ≤ n.toInt - s) (ha : 0 ≤ a) (hs : 0 ≤ s) (h3 : n.toInt ≤ 1000) : a - 1 ≤ (x + (-1 : Int32)).toInt ∧ (x + (-1 : Int32)).toInt ≤ n.toInt - (s + 1) := by
  have q := own_dec h (by omega) (by omega)
  exact ⟨q.1, by omega⟩
theorem own_ixe {x n : Int32} {a s : Int} (h : a ≤ x.toInt ∧ x.toInt ≤ n.toInt - s) (ha : 0 ≤ a) (hs : 1 ≤ s) : own_ix x n := own_ixI (by omega) (by omega)
theorem own_ixs1 {idx L : Int32} (hk : (1 : Int) ≤ idx.toInt) (h2 : idx.toInt ≤ L.toInt) (h3 : L.toInt ≤ 1000) : own_ix (idx + (-1 : Int32)) L := by
  have c0 : (1 : Int) ≤ idx.toInt ∧ idx.toInt ≤ L.toInt - 0 := ⟨hk, by omega⟩
  have c1 := own_dcs c0 (by decide) (by decide) h3
  exact own_ixe c1 (by decide) (by decide)
theorem own_ixs2 {idx L : Int32} (hk : (2 : Int) ≤ idx.toInt) (h2 : idx.toInt ≤ L.toInt) (h3 : L.toInt ≤ 1000) : own_ix (idx + (-1 : Int32)) L ∧ own_ix ((idx + (-1 : Int32)) + (-1 : Int32)) L := by
  have c0 : (2 : Int) ≤ idx.toInt ∧ idx.toInt ≤ L.toInt - 0 := ⟨hk, by omega⟩
  have c1 := own_dcs c0 (by decide) (by decide) h3
  have c2 := own_dcs c1 (by decide) (by decide) h3
  exact ⟨own_ixe c1 (by decide) (by decide), own_ixe c2 (by decide) (by decide)⟩
theorem own_ixs3 {idx L : Int32} (hk : (3 : Int) ≤ idx.toInt) (h2 : idx.toInt ≤ L.toInt) (h3 : L.toInt ≤ 1000) : own_ix (idx + (-1 : Int32)) L ∧ own_ix ((idx + (-1 : Int32)) + (-1 : Int32)) L ∧ own_ix (((idx + (-1 : Int32)) + (-1 : Int32)) + (-1 : Int32)) L := by
  have c0 : (3 : Int) ≤ idx.toInt ∧ idx.toInt ≤ L.toInt - 0 := ⟨hk, by omega⟩
  have c1 := own_dcs c0 (by decide) (by decide) h3
  have c2 := own_dcs c1 (by decide) (by decide) h3
  have c3 := own_dcs c2 (by decide) (by decide) h3
  exact ⟨own_ixe c1 (by decide) (by decide), own_ixe c2 (by decide) (by decide), own_ixe c3 (by decide) (by decide)⟩
theorem own_ixs4 {idx L : Int32} (hk : (4 : Int) ≤ idx.toInt) (h2 : idx.toInt ≤ L.toInt) (h3 : L.toInt ≤ 1000) : own_ix (idx + (-1 : Int32)) L ∧ own_ix ((idx + (-1 : Int32)) + (-1 : Int32)) L ∧ own_ix (((idx + (-1 : Int32)) + (-1 : Int32)) + (-1 : Int32)) L ∧ own_ix ((((idx + (-1 : Int32)) + (-1 : Int32)) + (-1 : Int32)) + (-1 : Int32)) L := by
  have c0 : (4 : Int) ≤ idx.toInt ∧ idx.toInt ≤ L.toInt - 0 := ⟨hk, by omega⟩
  have c1 := own_dcs c0 (by decide) (by decide) h3
  have c2 := own_dcs c1 (by decide) (by decide) h3
  have c3 := own_dcs c2 (by decide) (by decide) h3
  have c4 := own_dcs c3 (by decide) (by decide) h3
  exact ⟨own_ixe c1 (by decide) (by decide), own_ixe c2 (by decide) (by decide), own_ixe c3 (by decide) (by decide), own_ixe c4 (by decide) (by decide)⟩
theorem own_ixs5 {idx L : Int32} (hk : (5 : Int) ≤ idx.toInt) (h2 : idx.toInt ≤ L.toInt) (h3 : L.toInt ≤ 1000) : own_ix (idx + (-1 : Int32)) L ∧ own_ix ((idx + (-1 : Int32)) + (-1 : Int32)) L ∧ own_ix (((idx + (-1 : Int32)) + (-1 : Int32)) + (-1 : Int32)) L ∧ own_ix ((((idx + (-1 : Int32)) + (-1 : Int32)) + (-1 : Int32)) + (-1 : Int32)) L ∧ own_ix (((((idx + (-1 : Int32)) + (-1 : Int32)) + (-1 : Int32)) + (-1 : Int32)) + (-1 : Int32)) L := by
  have c0 : (5 : Int) ≤ idx.toInt ∧ idx.toInt ≤ L.toInt - 0 := ⟨hk, by omega⟩
  have c1 := own_dcs c0 (by decide) (by decide) h3
  have c2 := own_dcs c1 (by decide) (by decide) h3
  have c3 := own_dcs c2 (by decide) (by decide) h3
  have c4 := own_dcs c3 (by decide) (by decide) h3
  have c5 := own_dcs c4 (by decide) (by decide) h3
  exact ⟨own_ixe c1 (by decide) (by decide), own_ixe c2 (by decide) (by decide), own_ixe c3 (by decide) (by decide), own_ixe c4 (by decide) (by decide), own_ixe c5 (by decide) (by decide)⟩
theorem own_gk1 {i : Int32} (hi : own_i5 i) (z1 : i < (10 : Int32)) : (-100 : Int32) < (-i) ∧ own_ix (-(-i)) (100 : Int32) ∧ ¬ (-i) < (-9 : Int32) := by
  have e0 := own_n0 hi
  obtain ⟨hlo, hhi⟩ := hi
  rw [own_lt32] at z1
  have y1 : i.toInt < 10 := z1
  have en : (-(-i)).toInt = -((-i)).toInt := Jvm.Kit.i32_neg (by rw [e0]; omega)
  rw [e0] at en
  exact ⟨by rw [own_lt32, e0]; show (-100 : Int) < _; omega, own_ixI (by rw [en]; omega) (by rw [en]; show _ < (100 : Int); omega), by rw [own_lt32, e0]; show ¬ _ < (-9 : Int); omega⟩
theorem own_gk2 {i : Int32} (hi : own_i5 i) (z1 : ¬ i < (10 : Int32)) (z2 : i < (100 : Int32)) : (-100 : Int32) < (-i) ∧ own_ix (-(-i)) (100 : Int32) ∧ (-i) < (-9 : Int32) := by
  have e0 := own_n0 hi
  obtain ⟨hlo, hhi⟩ := hi
  rw [own_lt32] at z1 z2
  have y1 : ¬ i.toInt < 10 := z1
  have y2 : i.toInt < 100 := z2
  have en : (-(-i)).toInt = -((-i)).toInt := Jvm.Kit.i32_neg (by rw [e0]; omega)
  rw [e0] at en
  exact ⟨by rw [own_lt32, e0]; show (-100 : Int) < _; omega, own_ixI (by rw [en]; omega) (by rw [en]; show _ < (100 : Int); omega), by rw [own_lt32, e0]; show _ < (-9 : Int); omega⟩
theorem own_gk3 {i : Int32} (hi : own_i5 i) (z1 : ¬ i < (10 : Int32)) (z2 : ¬ i < (100 : Int32)) (z3 : i < (1000 : Int32)) : ¬ (-100 : Int32) < (-i) ∧ (-100 : Int32) < ((-i) / (100 : Int32)) ∧ own_ix ((((-i) / (100 : Int32)) * (100 : Int32)) - (-i)) (100 : Int32) ∧ own_ix (-((-i) / (100 : Int32))) (100 : Int32) ∧ ¬ ((-i) / (100 : Int32)) < (-9 : Int32) := by
  have e0 := own_n0 hi
  obtain ⟨hlo, hhi⟩ := hi
  rw [own_lt32] at z1 z2 z3
  have y1 : ¬ i.toInt < 10 := z1
  have y2 : ¬ i.toInt < 100 := z2
  have y3 : i.toInt < 1000 := z3
  have d1 := own_d100 (x := (-i)) (by rw [e0]; omega) (by rw [e0]; omega)
  rw [e0] at d1
  have en : (-((-i) / (100 : Int32))).toInt = -(((-i) / (100 : Int32))).toInt := Jvm.Kit.i32_neg (by rw [d1.1]; omega)
  rw [d1.1] at en
  exact ⟨by rw [own_lt32, e0]; show ¬ (-100 : Int) < _; omega, by rw [own_lt32, d1.1]; show (-100 : Int) < _; omega, own_ixI (by rw [d1.2]; omega) (by rw [d1.2]; show _ < (100 : Int); omega), own_ixI (by rw [en]; omega) (by rw [en]; show _ < (100 : Int); omega), by rw [own_lt32, d1.1]; show ¬ _ < (-9 : Int); omega⟩
theorem own_gk4 {i : Int32} (hi : own_i5 i) (z1 : ¬ i < (10 : Int32)) (z2 : ¬ i < (100 : Int32)) (z3 : ¬ i < (1000 : Int32)) (z4 : i < (10000 : Int32)) : ¬ (-100 : Int32) < (-i) ∧ (-100 : Int32) < ((-i) / (100 : Int32)) ∧ own_ix ((((-i) / (100 : Int32)) * (100 : Int32)) - (-i)) (100 : Int32) ∧ own_ix (-((-i) / (100 : Int32))) (100 : Int32) ∧ ((-i) / (100 : Int32)) < (-9 : Int32) := by
  have e0 := own_n0 hi
  obtain ⟨hlo, hhi⟩ := hi
  rw [own_lt32] at z1 z2 z3 z4
  have y1 : ¬ i.toInt < 10 := z1
  have y2 : ¬ i.toInt < 100 := z2
  have y3 : ¬ i.toInt < 1000 := z3
  have y4 : i.toInt < 10000 := z4
  have d1 := own_d100 (x := (-i)) (by rw [e0]; omega) (by rw [e0]; omega)
  rw [e0] at d1
  have en : (-((-i) / (100 : Int32))).toInt = -(((-i) / (100 : Int32))).toInt := Jvm.Kit.i32_neg (by rw [d1.1]; omega)
  rw [d1.1] at en
  exact ⟨by rw [own_lt32, e0]; show ¬ (-100 : Int) < _; omega, by rw [own_lt32, d1.1]; show (-100 : Int) < _; omega, own_ixI (by rw [d1.2]; omega) (by rw [d1.2]; show _ < (100 : Int); omega), own_ixI (by rw [en]; omega) (by rw [en]; show _ < (100 : Int); omega), by rw [own_lt32, d1.1]; show _ < (-9 : Int); omega⟩
theorem own_gk5 {i : Int32} (hi : own_i5 i) (z1 : ¬ i < (10 : Int32)) (z2 : ¬ i < (100 : Int32)) (z3 : ¬ i < (1000 : Int32)) (z4 : ¬ i < (10000 : Int32)) : ¬ (-100 : Int32) < (-i) ∧ ¬ (-100 : Int32) < ((-i) / (100 : Int32)) ∧ (-100 : Int32) < (((-i) / (100 : Int32)) / (100 : Int32)) ∧ own_ix ((((-i) / (100 : Int32)) * (100 : Int32)) - (-i)) (100 : Int32) ∧ own_ix (((((-i) / (100 : Int32)) / (100 : Int32)) * (100 : Int32)) - ((-i) / (100 : Int32))) (100 : Int32) ∧ own_ix (-(((-i) / (100 : Int32)) / (100 : Int32))) (100 : Int32) ∧ ¬ (((-i) / (100 : Int32)) / (100 : Int32)) < (-9 : Int32) := by
  have e0 := own_n0 hi
  obtain ⟨hlo, hhi⟩ := hi
  rw [own_lt32] at z1 z2 z3 z4
  have y1 : ¬ i.toInt < 10 := z1
  have y2 : ¬ i.toInt < 100 := z2
  have y3 : ¬ i.toInt < 1000 := z3
  have y4 : ¬ i.toInt < 10000 := z4
  have d1 := own_d100 (x := (-i)) (by rw [e0]; omega) (by rw [e0]; omega)
  rw [e0] at d1
  have d2 := own_d100 (x := ((-i) / (100 : Int32))) (by rw [d1.1]; omega) (by rw [d1.1]; omega)
  rw [d1.1] at d2
  have en : (-(((-i) / (100 : Int32)) / (100 : Int32))).toInt = -((((-i) / (100 : Int32)) / (100 : Int32))).toInt := Jvm.Kit.i32_neg (by rw [d2.1]; omega)
  rw [d2.1] at en
  exact ⟨by rw [own_lt32, e0]; show ¬ (-100 : Int) < _; omega, by rw [own_lt32, d1.1]; show ¬ (-100 : Int) < _; omega, by rw [own_lt32, d2.1]; show (-100 : Int) < _; omega, own_ixI (by rw [d1.2]; omega) (by rw [d1.2]; show _ < (100 : Int); omega), own_ixI (by rw [d2.2]; omega) (by rw [d2.2]; show _ < (100 : Int); omega), own_ixI (by rw [en]; omega) (by rw [en]; show _ < (100 : Int); omega), by rw [own_lt32, d2.1]; show ¬ _ < (-9 : Int); omega⟩
theorem own_abscode : jdk_29_method_64_code = Jvm.Free.Fl.Abs.absDCode := by decide +kernel
theorem own_absBack {l : Launch} {R : Room} {p : Program} {e : Env} {below : List Frame} {s : State} {sargs : Array Value} {len W : Nat} {h : Heap} {n0 : Nat} (a : UInt64) (hn : Jvm.Free.Fl.NoNaN64 a) (hcode : (Cond.code (⟨"java/lang/Math", "abs", "(D)D"⟩ : MethodName) jdk_29_method_64_code 2 (some .double)).before sargs s = true) (hfr : 1 ≤ R.frames) (hlo : W + 13 ≤ R.locals) :
    Back l R p e below s sargs (⟨"java/lang/Math", "abs", "(D)D"⟩ : MethodName) len W (fun A a' => a' = #[.double a] ∧ A.U.heap = h ∧ A.cells + 0 ≤ R.cells ∧ A.slots + 0 ≤ R.slots) (fun A _ v B => ∃ L, (v = some (.double (a &&& 0x7fffffffffffffff)) ∧ Fr n0 L ∧ B.U.heap = h) ∧ B.locs = A.locs ++ L ∧ B.cells = A.cells + 0 ∧ B.slots = A.slots + 0) := by
  intro m meth c A g ig mk a' X hg hsize hdg hW hnamed hp
  rw [own_abscode] at hcode
  obtain ⟨v, B, X', ⟨hv, hB⟩, st⟩ := Jvm.Free.Fl.Abs.absD_pays (l := l) (R := R) (p := p) (e := e) (below := below) (s := s) (sargs := sargs) (len := len) (W := W) a hcode hfr hlo m meth c A g ig mk a' X hg hsize hdg hW hnamed ⟨hp.2.2.1, hp.2.2.2, hp.1, hn⟩
  subst hB
  exact ⟨v, B, X', ⟨[], ⟨hv, Fr.nil n0, hp.2.1⟩, (List.append_nil _).symm, rfl, rfl⟩, st⟩
theorem own_szr (i : Int32) : 1 ≤ (own_sz i).toInt ∧ (own_sz i).toInt ≤ 5 ∧ (i.toInt < 10000 → (own_sz i).toInt ≤ 4) := by
  unfold own_sz
  by_cases h1 : i < 10
  · rw [if_pos h1]; exact ⟨by decide, by decide, fun _ => by decide⟩
  · rw [if_neg h1]
    by_cases h2 : i < 100
    · rw [if_pos h2]; exact ⟨by decide, by decide, fun _ => by decide⟩
    · rw [if_neg h2]
      by_cases h3 : i < 1000
      · rw [if_pos h3]; exact ⟨by decide, by decide, fun _ => by decide⟩
      · rw [if_neg h3]
        by_cases h4 : i < 10000
        · rw [if_pos h4]; exact ⟨by decide, by decide, fun _ => by decide⟩
        · rw [if_neg h4]
          refine ⟨by decide, by decide, fun q => absurd (own_lt32.mpr q) h4⟩
theorem own_addr {x y z : Int32} {a b c d : Int} (h : x + y = z) (hx : a ≤ x.toInt ∧ x.toInt ≤ b) (hy : c ≤ y.toInt ∧ y.toInt ≤ d) (h1 : -1000 ≤ a + c) (h2 : b + d ≤ 1000) : z.toInt = x.toInt + y.toInt ∧ a + c ≤ z.toInt ∧ z.toInt ≤ b + d := by
  have e : (x + y).toInt = x.toInt + y.toInt := Jvm.Kit.i32_add (by omega) (by omega)
  rw [h] at e
  exact ⟨e, by omega, by omega⟩
theorem own_subr {x c : Int32} (hx : 0 ≤ x.toInt ∧ x.toInt ≤ 100) (hc : 0 ≤ c.toInt ∧ c.toInt ≤ 100) : (x - c).toInt = x.toInt - c.toInt := Jvm.Kit.i32_sub (by omega) (by omega)
theorem own_cpI {sp dp nn z z' : Int32} (h1 : 0 ≤ sp.toInt) (h2 : 0 ≤ dp.toInt) (h3 : 0 ≤ nn.toInt) (h4 : sp.toInt + nn.toInt ≤ z.toInt) (h5 : dp.toInt + nn.toInt ≤ z'.toInt) : own_cp sp dp nn z z' := by
  refine ⟨?_, ?_, ?_, ?_, ?_⟩
  · rw [own_lt32]; show ¬ sp.toInt < 0; omega
  · rw [own_lt32]; show ¬ dp.toInt < 0; omega
  · rw [own_lt32]; show ¬ nn.toInt < 0; omega
  · show sp.toInt.toNat + nn.toInt.toNat ≤ z.toInt.toNat; omega
  · show dp.toInt.toNat + nn.toInt.toNat ≤ z'.toInt.toNat; omega
theorem own_kr {wd hg k2 k3 k4 k5 : Int32} (hh : hg.toInt < 10000) (hk2 : ((10 : Int32) + (own_sz wd)) = k2) (hk3 : (k2 + (3 : Int32)) = k3) (hk4 : (k3 + (own_sz hg)) = k4) (hk5 : (k4 + (6 : Int32)) = k5) :
    k2.toInt = 10 + (own_sz wd).toInt ∧ k3.toInt = k2.toInt + 3 ∧ k4.toInt = k3.toInt + (own_sz hg).toInt ∧ k5.toInt = k4.toInt + 6 ∧ 11 ≤ k2.toInt ∧ k2.toInt ≤ 15 ∧ 15 ≤ k4.toInt ∧ k4.toInt ≤ 22 := by
  obtain ⟨s1, s2, -⟩ := own_szr wd
  obtain ⟨t1, -, t2⟩ := own_szr hg
  have t2 := t2 hh
  obtain ⟨e2, a2, b2⟩ := own_addr (a := 10) (b := 10) hk2 ⟨by decide, by decide⟩ ⟨s1, s2⟩ (by decide) (by decide)
  obtain ⟨e3, a3, b3⟩ := own_addr (c := 3) (d := 3) hk3 ⟨a2, b2⟩ ⟨by decide, by decide⟩ (by decide) (by decide)
  obtain ⟨e4, a4, b4⟩ := own_addr hk4 ⟨a3, b3⟩ ⟨t1, t2⟩ (by decide) (by decide)
  obtain ⟨e5, a5, b5⟩ := own_addr (c := 6) (d := 6) hk5 ⟨a4, b4⟩ ⟨by decide, by decide⟩ (by decide) (by decide)
  have o10 : (10 : Int32).toInt = 10 := rfl
  have o3 : (3 : Int32).toInt = 3 := rfl
  have o6 : (6 : Int32).toInt = 6 := rfl
  rw [o10] at e2; rw [o3] at e3; rw [o6] at e5
  exact ⟨e2, e3, e4, e5, by omega, by omega, by omega, by omega⟩
theorem own_no {x c : Int32} (hx : 0 ≤ x.toInt ∧ x.toInt ≤ 100) (hc : 0 ≤ c.toInt ∧ c.toInt ≤ 100) (h : x.toInt ≤ c.toInt) : ¬ 0 < (x - c) := by
  rw [own_lt32, own_subr hx hc]; show ¬ (0 : Int) < _; omega
theorem own_gt {x c : Int32} (hx : 0 ≤ x.toInt ∧ x.toInt ≤ 100) (hc : 0 ≤ c.toInt ∧ c.toInt ≤ 100) : 0 < (x - c) ↔ c.toInt < x.toInt := by
  rw [own_lt32, own_subr hx hc]; show (0 : Int) < _ ↔ _; omega
theorem own_lt18 {x : Int32} (hx : 0 ≤ x.toInt ∧ x.toInt ≤ 33) : (x - (16 : Int32)) < (18 : Int32) := by
  rw [own_lt32, own_subr ⟨hx.1, by omega⟩ ⟨by decide, by decide⟩]; show x.toInt - 16 < (18 : Int); omega
def own_tz (k5 : Int32) : Prop := ¬ k5 < 0 ∧ k5 < (34 : Int32) ∧ k5.toNatClampNeg ≤ 34 ∧ own_cp (0 : Int32) (0 : Int32) k5 (34 : Int32) k5 ∧ ¬ k5 = (34 : Int32)
theorem own_tzI {k5 : Int32} (h : 0 ≤ k5.toInt ∧ k5.toInt ≤ 33) : own_tz k5 := by
  refine ⟨?_, ?_, ?_, own_cpI (by decide) (by decide) h.1 ?_ ?_, fun q => ?_⟩
  · rw [own_lt32]; show ¬ k5.toInt < 0; omega
  · rw [own_lt32]; show k5.toInt < 34; omega
  · show k5.toInt.toNat ≤ 34; omega
  · show (0 : Int) + k5.toInt ≤ 34; omega
  · show (0 : Int) + k5.toInt ≤ k5.toInt; omega
  · rw [q] at h; exact absurd h (by decide)
theorem own_V {n : Nat} (s : Bool) (h1 : 1 ≤ n) (hn : n ≤ 2 ^ 53) : ∃ V, FP.Core.fits FP.Core.b64 V ∧ V ≠ .nan ∧ 2 * FP.Core.zval FP.Core.b64 V = FP.Core.signed s n * (FP.Core.one64 : Int) := by
  obtain ⟨c, q, hf, h⟩ := FP.Core.natFit FP.Core.good_b64 FP.Core.wide_b64 s (n := n) hn
  have hw : FP.Core.Whole (FP.Core.signed s n) (.fin s c q) := by
    show FP.Core.signed s (c * 2 ^ q.toNat) = FP.Core.signed s n * ((2 ^ (-q).toNat : Nat) : Int)
    rw [show (0 - q).toNat = (-q).toNat by omega, show (q - 0).toNat = q.toNat by omega, Nat.mul_one] at h
    rw [← h]
    cases s
    · show ((n * 2 ^ (-q).toNat : Nat) : Int) = (n : Int) * _
      rw [Int.natCast_mul]
    · show -((n * 2 ^ (-q).toNat : Nat) : Int) = -(n : Int) * _
      rw [Int.natCast_mul, Int.neg_mul]
  have z := FP.Core.whole_zval FP.Core.good_b64 hf hw
  rw [FP.Core.pow_qmin64] at z
  obtain ⟨f1, f2, f3, f4⟩ := hf
  have hq : q ≠ FP.Core.b64.qmin := fun e => by
    have e2 : q = -1074 := e.trans FP.Core.qmin_b64
    rw [e2] at h
    have h5 : n * 2 ^ 1074 = c * 1 * 2 ^ 0 := h
    have h6 : 2 ^ 1074 ≤ n * 2 ^ 1074 := Nat.le_mul_of_pos_left _ h1
    have h7 : c < 2 ^ 53 := f1
    have h8 : 2 ^ 1074 < 2 ^ 53 := by omega
    exact absurd h8 (by decide +kernel)
  have f5 : FP.Core.b64.tails ≤ c := f4.resolve_left hq
  refine ⟨.fin s c (q - 1), ⟨f1, by omega, by omega, Or.inr f5⟩, (fun e => by cases e), ?_⟩
  rw [← z]
  show 2 * FP.Core.signed s (c * 2 ^ (q - 1 - FP.Core.b64.qmin).toNat) = FP.Core.signed s (c * 2 ^ (q - FP.Core.b64.qmin).toNat)
  rw [show (q - FP.Core.b64.qmin).toNat = (q - 1 - FP.Core.b64.qmin).toNat + 1 by omega, Nat.pow_succ, ← Nat.mul_assoc]
  generalize c * 2 ^ (q - 1 - FP.Core.b64.qmin).toNat = m
  cases s
  · show 2 * (m : Int) = ((m * 2 : Nat) : Int); omega
  · show 2 * -(m : Int) = -((m * 2 : Nat) : Int); omega
theorem own_stepZ {i j : Int} {a b : UInt64} (ha : FP.Core.DInt i a) (fa : FP.Core.DFin a) (fb : FP.Core.DFin b) (hb : 2 * FP.Core.zval FP.Core.b64 (FP.Core.val64 b) = j * (FP.Core.one64 : Int)) (h1 : 2 * i + j ≠ 0) (h2 : (2 * i + j).natAbs ≤ 2 ^ 53) :
    2 * FP.Core.zval FP.Core.b64 (FP.Core.val64 (FP.Core.dadd a b)) = (2 * i + j) * (FP.Core.one64 : Int) := by
  obtain ⟨V, v1, v2, v3⟩ := own_V (n := (2 * i + j).natAbs) (decide (2 * i + j < 0)) (by omega) h2
  have sg : FP.Core.signed (decide (2 * i + j < 0)) (2 * i + j).natAbs = 2 * i + j := by
    unfold FP.Core.signed
    by_cases h : 2 * i + j < 0
    · simp [h]; omega
    · simp [h]; omega
  rw [sg] at v3
  have za := FP.Core.DInt_zval ha
  rw [← v3, FP.Core.val64_dadd]
  have hs : 2 * (FP.Core.zval FP.Core.b64 (FP.Core.val64 a) + FP.Core.zval FP.Core.b64 (FP.Core.val64 b)) = 2 * FP.Core.zval FP.Core.b64 V := by
    rw [v3, Int.mul_add, hb, za, Int.add_mul, Int.mul_assoc]
  have l1 := FP.Core.sum_le FP.Core.good_b64 fa fb (FP.Core.val64_fits a) (FP.Core.val64_fits b) v1 v2 (by omega)
  have l2 := FP.Core.sum_ge FP.Core.good_b64 fa fb (FP.Core.val64_fits a) (FP.Core.val64_fits b) v1 v2 (by omega)
  omega
theorem own_hv : 2 * FP.Core.zval FP.Core.b64 (FP.Core.val64 (4602678819172646912 : UInt64)) = 1 * (FP.Core.one64 : Int) := by decide +kernel
theorem own_hn : 2 * FP.Core.zval FP.Core.b64 (FP.Core.val64 (13826050856027422720 : UInt64)) = -1 * (FP.Core.one64 : Int) := by decide +kernel
theorem own_dfA (v : Int32) {b : UInt64} (hb : b.toNat % 2 ^ 63 < 1056 * 2 ^ 52) : FP.Core.DFin (FP.Core.dadd (FP.Core.i2d v) b) := FP.Core.fin_of_lt (FP.Core.dadd_mag (FP.Core.i2d_mag v) hb (by decide)) (by decide)
theorem own_cmpZ {a b : UInt64} (ha : FP.Core.DFin a) (hb : FP.Core.DFin b) : FP.Core.dcmp a b = some (compare (FP.Core.zval FP.Core.b64 (FP.Core.val64 a)) (FP.Core.zval FP.Core.b64 (FP.Core.val64 b))) := FP.Core.dcmp_zval ha.ne_nan hb.ne_nan
theorem own_eq0 {a b : UInt64} (ha : FP.Core.DFin a) (hb : FP.Core.DFin b) : cmpValue (FP.dcmp a b) .l = 0 ↔ FP.Core.zval FP.Core.b64 (FP.Core.val64 a) = FP.Core.zval FP.Core.b64 (FP.Core.val64 b) := by
  rw [show FP.dcmp a b = some (compare _ _) from own_cmpZ ha hb]
  generalize FP.Core.zval FP.Core.b64 (FP.Core.val64 a) = u
  generalize FP.Core.zval FP.Core.b64 (FP.Core.val64 b) = v
  rcases hc : compare u v with _ | _ | _
  · have := (FP.Core.compare_lt_iff u v).mp hc
    exact ⟨fun h => absurd h (by decide), fun h => by omega⟩
  · have := (FP.Core.compare_eq_iff u v).mp hc
    exact ⟨fun _ => this, fun _ => by decide⟩
  · have := (FP.Core.compare_gt_iff u v).mp hc
    exact ⟨fun h => absurd h (by decide), fun h => by omega⟩
theorem own_gt0 {a : UInt64} (ha : FP.Core.DFin a) (h : 0 < FP.Core.zval FP.Core.b64 (FP.Core.val64 a)) : 0 < cmpValue (FP.dcmp a (0 : UInt64)) .l := by
  have f0 : FP.Core.DFin (0 : UInt64) := ⟨_, _, _, FP.Core.val64_zero⟩
  rw [show FP.dcmp a (0 : UInt64) = some (compare _ _) from own_cmpZ ha f0, FP.Core.zval64_zero, (FP.Core.compare_gt_iff _ _).mpr h]
  decide
theorem own_fiD {a : UInt64} (h : FP.Core.DFin a) : ¬ 0 < cmpValue (FP.dcmp (a &&& (9223372036854775807 : UInt64)) (9218868437227405311 : UInt64)) .g := by
  rcases (FP.Core.le_max h.notNaN).mpr h with e | e
  · rw [show FP.dcmp (a &&& (9223372036854775807 : UInt64)) (9218868437227405311 : UInt64) = some .lt from e]; decide
  · rw [show FP.dcmp (a &&& (9223372036854775807 : UInt64)) (9218868437227405311 : UInt64) = some .eq from e]; decide
theorem own_nnD {a : UInt64} (h : FP.Core.DFin a) : Jvm.Free.Fl.NoNaN64 a := Jvm.Free.Fl.val64_no.mpr h.ne_nan
def own_al (w1 v1 : Int32) (ox1 oy1 cw1 ch1 : UInt64) (w2 v2 : Int32) (ox2 oy2 cw2 ch2 : UInt64) : Int32 := if w1 = w2 ∧ v1 = v2 ∧ (cmpValue (FP.dcmp ox1 ox2) .l) = 0 ∧ (cmpValue (FP.dcmp oy1 oy2) .l) = 0 ∧ (cmpValue (FP.dcmp cw1 cw2) .l) = 0 ∧ (cmpValue (FP.dcmp ch1 ch2) .l) = 0 then 1 else 0
theorem own_al0 {w1 v1 : Int32} {ox1 oy1 cw1 ch1 : UInt64} {w2 v2 : Int32} {ox2 oy2 cw2 ch2 : UInt64} (h : ¬ w1 = w2 ∨ ¬ v1 = v2 ∨ ¬ (cmpValue (FP.dcmp ox1 ox2) .l) = 0 ∨ ¬ (cmpValue (FP.dcmp oy1 oy2) .l) = 0 ∨ ¬ (cmpValue (FP.dcmp cw1 cw2) .l) = 0 ∨ ¬ (cmpValue (FP.dcmp ch1 ch2) .l) = 0) : own_al w1 v1 ox1 oy1 cw1 ch1 w2 v2 ox2 oy2 cw2 ch2 = 0 := if_neg (fun ⟨q1, q2, q3, q4, q5, q6⟩ => by
  rcases h with h | h | h | h | h | h
  · exact h q1
  · exact h q2
  · exact h q3
  · exact h q4
  · exact h q5
  · exact h q6)
theorem own_alS {w1 v1 : Int32} {ox1 oy1 cw1 ch1 : UInt64} (h1 : FP.Core.DFin ox1) (h2 : FP.Core.DFin oy1) (h3 : FP.Core.DFin cw1) (h4 : FP.Core.DFin ch1) : own_al w1 v1 ox1 oy1 cw1 ch1 w1 v1 ox1 oy1 cw1 ch1 = 1 := if_pos ⟨rfl, rfl, (own_eq0 h1 h1).mpr rfl, (own_eq0 h2 h2).mpr rfl, (own_eq0 h3 h3).mpr rfl, (own_eq0 h4 h4).mpr rfl⟩
def own_gok (wd hg : Int32) (ox oy cw ch : UInt64) : Prop := own_i5 wd ∧ own_i5 hg ∧ ¬ wd < (1 : Int32) ∧ ¬ hg < (1 : Int32) ∧ ¬ (2147483647 : Int64) < ((wd.toInt64) * (hg.toInt64)) ∧
  Jvm.Free.Fl.NoNaN64 ox ∧ ¬ 0 < (cmpValue (FP.dcmp (ox &&& (9223372036854775807 : UInt64)) (9218868437227405311 : UInt64)) .g) ∧ Jvm.Free.Fl.NoNaN64 oy ∧ ¬ 0 < (cmpValue (FP.dcmp (oy &&& (9223372036854775807 : UInt64)) (9218868437227405311 : UInt64)) .g) ∧
  Jvm.Free.Fl.NoNaN64 cw ∧ ¬ 0 < (cmpValue (FP.dcmp (cw &&& (9223372036854775807 : UInt64)) (9218868437227405311 : UInt64)) .g) ∧ Jvm.Free.Fl.NoNaN64 ch ∧ ¬ 0 < (cmpValue (FP.dcmp (ch &&& (9223372036854775807 : UInt64)) (9218868437227405311 : UInt64)) .g) ∧
  0 < (cmpValue (FP.dcmp cw (0 : UInt64)) .l) ∧ 0 < (cmpValue (FP.dcmp ch (0 : UInt64)) .l) ∧ hg.toInt < 10000
theorem own_gokI {wd hg : Int32} {ox oy cw ch : UInt64} (h1 : 1 ≤ wd.toInt ∧ wd.toInt ≤ 32769) (h2 : 1 ≤ hg.toInt ∧ hg.toInt ≤ 4097) (fx : FP.Core.DFin ox) (fy : FP.Core.DFin oy) (fc : FP.Core.DFin cw ∧ 0 < FP.Core.zval FP.Core.b64 (FP.Core.val64 cw)) (fh : FP.Core.DFin ch ∧ 0 < FP.Core.zval FP.Core.b64 (FP.Core.val64 ch)) : own_gok wd hg ox oy cw ch := by
  have o1 : (1 : Int32).toInt = 1 := rfl
  refine ⟨⟨h1.1, by omega⟩, ⟨h2.1, by omega⟩, fun q => ?_, fun q => ?_, fun q => ?_, own_nnD fx, own_fiD fx, own_nnD fy, own_fiD fy, own_nnD fc.1, own_fiD fc.1, own_nnD fh.1, own_fiD fh.1, own_gt0 fc.1 fc.2, own_gt0 fh.1 fh.2, by omega⟩
  · rw [Int32.lt_iff_toInt_lt] at q; omega
  · rw [Int32.lt_iff_toInt_lt] at q; omega
  · have m1 : wd.toInt * hg.toInt ≤ 32769 * 4097 := Int.mul_le_mul h1.2 h2.2 (by omega) (by decide)
    have m2 : 0 ≤ wd.toInt * hg.toInt := Int.mul_nonneg (by omega) (by omega)
    have e1 := Jvm.Kit.i64_of_i32 wd
    have e2 := Jvm.Kit.i64_of_i32 hg
    have e3 : (wd.toInt64 * hg.toInt64).toInt = wd.toInt64.toInt * hg.toInt64.toInt := Jvm.Kit.i64_mul (by rw [e1, e2]; omega) (by rw [e1, e2]; omega)
    rw [e1, e2] at e3
    rw [Int64.lt_iff_toInt_lt, e3] at q
    have e4 : (2147483647 : Int64).toInt = 2147483647 := rfl
    omega
theorem own_k7 (p6 : Int32) : (p6 &&& (255 : Int32)) % (7 : Int32) = 0 ∨ (p6 &&& (255 : Int32)) % (7 : Int32) = 1 ∨ (p6 &&& (255 : Int32)) % (7 : Int32) = 2 ∨ (p6 &&& (255 : Int32)) % (7 : Int32) = 3 ∨ (p6 &&& (255 : Int32)) % (7 : Int32) = 4 ∨ (p6 &&& (255 : Int32)) % (7 : Int32) = 5 ∨ (p6 &&& (255 : Int32)) % (7 : Int32) = 6 := by
  have e : (p6 &&& (255 : Int32)).toInt = p6.toInt % 2 ^ 8 := Jvm.Kit.i32_mask p6 255 (k := 8) (by decide) (by decide)
  have r : ((p6 &&& (255 : Int32)) % (7 : Int32)).toInt = (p6 &&& (255 : Int32)).toInt % (7 : Int32).toInt := Jvm.Kit.i32_rem_nonneg (by rw [e]; omega)
  have t : (7 : Int32).toInt = 7 := rfl
  rw [t] at r
  simp only [← Int32.toInt_inj]
  generalize ((p6 &&& (255 : Int32)) % (7 : Int32)).toInt = z at *
  have q : z = 0 ∨ z = 1 ∨ z = 2 ∨ z = 3 ∨ z = 4 ∨ z = 5 ∨ z = 6 := by omega
  rcases q with rfl | rfl | rfl | rfl | rfl | rfl | rfl <;> decide
theorem own_m1 {p m : Int32} {B : Int} (k : Nat) (hk : k ≤ 16) (hm : m.toBitVec.toNat = 2 ^ k - 1) (hB : (2 : Int) ^ k = B) : 1 ≤ ((p &&& m) + (1 : Int32)).toInt ∧ ((p &&& m) + (1 : Int32)).toInt ≤ B := by
  subst hB
  have e := Jvm.Kit.i32_mask p m (k := k) (by omega) hm
  have o1 : (1 : Int32).toInt = 1 := rfl
  have p1 : (0 : Int) < 2 ^ k := by have := Nat.two_pow_pos k; exact_mod_cast this
  have p2 : (2 : Int) ^ k ≤ 2 ^ 16 := by have := Nat.pow_le_pow_right (n := 2) (by decide) hk; exact_mod_cast this
  have r1 := Int.emod_nonneg p.toInt (Int.ne_of_gt p1)
  have r2 := Int.emod_lt_of_pos p.toInt p1
  rw [← e] at r1 r2
  have e2 : ((p &&& m) + (1 : Int32)).toInt = (p &&& m).toInt + (1 : Int32).toInt := Jvm.Kit.i32_add (by omega) (by omega)
  omega
theorem own_p1 {x : Int32} (h : 1 ≤ x.toInt ∧ x.toInt ≤ 65536) : (x + (1 : Int32)).toInt = x.toInt + 1 := by
  have o1 : (1 : Int32).toInt = 1 := rfl
  rw [Jvm.Kit.i32_add (by omega) (by omega), o1]
theorem own_step {v : Int32} {s : UInt64} (hs : s = (4602678819172646912 : UInt64) ∨ s = (13826050856027422720 : UInt64)) : FP.Core.DFin (FP.dadd (FP.i2d v) s) ∧ FP.Core.zval FP.Core.b64 (FP.Core.val64 (FP.i2d v)) ≠ FP.Core.zval FP.Core.b64 (FP.Core.val64 (FP.dadd (FP.i2d v) s)) := by
  have hi : FP.Core.DInt v.toInt (FP.i2d v) := FP.Core.i2d_int v
  have fi : FP.Core.DFin (FP.i2d v) := FP.Core.i2d_fin v
  have z := FP.Core.DInt_zval hi
  have b1 := v.toInt_lt
  have b2 := v.le_toInt
  have op : (0 : Int) < (FP.Core.one64 : Int) := by have := FP.Core.one64_pos; omega
  have hm : s.toNat % 2 ^ 63 < 1056 * 2 ^ 52 := by rcases hs with rfl | rfl <;> decide
  have fs : FP.Core.DFin s := FP.Core.fin_of_lt hm (by decide)
  refine ⟨own_dfA v hm, fun q => ?_⟩
  have key : ∀ j : Int, (j = 1 ∨ j = -1) → 2 * FP.Core.zval FP.Core.b64 (FP.Core.val64 s) = j * (FP.Core.one64 : Int) → False := fun j hj hz => by
    have e : 2 * FP.Core.zval FP.Core.b64 (FP.Core.val64 (FP.dadd (FP.i2d v) s)) = (2 * v.toInt + j) * (FP.Core.one64 : Int) := own_stepZ hi fi fs hz (by omega) (by omega)
    rw [← q, z, Int.add_mul, Int.mul_assoc] at e
    rcases hj with rfl | rfl <;> omega
  rcases hs with rfl | rfl
  · exact key 1 (Or.inl rfl) own_hv
  · exact key (-1) (Or.inr rfl) own_hn
theorem own_inc {c : Int32} (hc : 1 ≤ c.toInt ∧ c.toInt ≤ 65536) : (FP.Core.DFin (FP.i2d c) ∧ 0 < FP.Core.zval FP.Core.b64 (FP.Core.val64 (FP.i2d c))) ∧ (FP.Core.DFin (FP.dadd (FP.i2d c) (4607182418800017408 : UInt64)) ∧ 0 < FP.Core.zval FP.Core.b64 (FP.Core.val64 (FP.dadd (FP.i2d c) (4607182418800017408 : UInt64)))) ∧ FP.Core.zval FP.Core.b64 (FP.Core.val64 (FP.i2d c)) ≠ FP.Core.zval FP.Core.b64 (FP.Core.val64 (FP.dadd (FP.i2d c) (4607182418800017408 : UInt64))) := by
  have hi : FP.Core.DInt c.toInt (FP.i2d c) := FP.Core.i2d_int c
  have hj : FP.Core.DInt (c.toInt + 1) (FP.dadd (FP.i2d c) (4607182418800017408 : UInt64)) := FP.Core.dadd_int hi FP.Core.dint_one (by omega)
  have z := FP.Core.DInt_zval hi
  have z2 := FP.Core.DInt_zval hj
  have op : (0 : Int) < (FP.Core.one64 : Int) := by have := FP.Core.one64_pos; omega
  refine ⟨⟨FP.Core.i2d_fin c, ?_⟩, ⟨own_dfA c (by decide), ?_⟩, ?_⟩
  · rw [z]; exact Int.mul_pos (by omega) op
  · rw [z2]; exact Int.mul_pos (by omega) op
  · rw [z, z2, Int.add_mul]; omega
theorem own_law {p3 p4 cv dv p6 wd hg kd w9 v9 ex9 : Int32} {ox oy cw ch stp x9 y9 c9 d9 : UInt64} (hwd : 1 ≤ wd.toInt ∧ wd.toInt ≤ 32768) (hhg : 1 ≤ hg.toInt ∧ hg.toInt ≤ 4096) (hcv : 1 ≤ cv.toInt ∧ cv.toInt ≤ 65536) (hdv : 1 ≤ dv.toInt ∧ dv.toInt ≤ 65536)
    (h_ox : FP.i2d p3 = ox) (h_oy : FP.i2d p4 = oy) (h_cw : FP.i2d cv = cw) (h_ch : FP.i2d dv = ch) (h_kd : (p6 &&& (255 : Int32)) % (7 : Int32) = kd) (h_st : stp = (4602678819172646912 : UInt64) ∨ stp = (13826050856027422720 : UInt64))
    (h_w9 : w9 = (if kd = (1 : Int32) then (wd + (1 : Int32)) else wd)) (h_v9 : v9 = (if kd = (2 : Int32) then (hg + (1 : Int32)) else hg)) (h_x9 : x9 = (if kd = (3 : Int32) then (FP.dadd ox stp) else ox)) (h_y9 : y9 = (if kd = (4 : Int32) then (FP.dadd oy stp) else oy))
    (h_c9 : c9 = (if kd = (5 : Int32) then (FP.dadd cw (4607182418800017408 : UInt64)) else cw)) (h_d9 : d9 = (if kd = (6 : Int32) then (FP.dadd ch (4607182418800017408 : UInt64)) else ch)) (h_ex : ex9 = (if kd = 0 then (1 : Int32) else (0 : Int32))) :
    own_gok wd hg ox oy cw ch ∧ own_gok w9 v9 x9 y9 c9 d9 ∧ (Jvm.Free.Fl.NoNaN64 (FP.dadd ox stp) ∧ Jvm.Free.Fl.NoNaN64 (FP.dadd oy stp) ∧ Jvm.Free.Fl.NoNaN64 (FP.dadd cw (4607182418800017408 : UInt64)) ∧ Jvm.Free.Fl.NoNaN64 (FP.dadd ch (4607182418800017408 : UInt64))) ∧
    own_al wd hg ox oy cw ch w9 v9 x9 y9 c9 d9 = ex9 ∧ own_al w9 v9 x9 y9 c9 d9 wd hg ox oy cw ch = ex9 ∧ ¬ own_al wd hg ox oy cw ch wd hg ox oy cw ch = 0 := by
  subst h_ox h_oy h_cw h_ch
  have fx : FP.Core.DFin (FP.i2d p3) := FP.Core.i2d_fin p3
  have fy : FP.Core.DFin (FP.i2d p4) := FP.Core.i2d_fin p4
  obtain ⟨fx9, nx⟩ := own_step (v := p3) h_st
  obtain ⟨fy9, ny⟩ := own_step (v := p4) h_st
  obtain ⟨fc, fc9, nc⟩ := own_inc hcv
  obtain ⟨fd, fd9, nd⟩ := own_inc hdv
  have ew := own_p1 (x := wd) ⟨hwd.1, by omega⟩
  have eh := own_p1 (x := hg) ⟨hhg.1, by omega⟩
  have nw : ¬ wd = wd + (1 : Int32) := fun q => by have := congrArg Int32.toInt q; omega
  have nh : ¬ hg = hg + (1 : Int32) := fun q => by have := congrArg Int32.toInt q; omega
  have s1 : own_al wd hg (FP.i2d p3) (FP.i2d p4) (FP.i2d cv) (FP.i2d dv) wd hg (FP.i2d p3) (FP.i2d p4) (FP.i2d cv) (FP.i2d dv) = 1 := own_alS fx fy fc.1 fd.1
  have w1 : 1 ≤ wd.toInt ∧ wd.toInt ≤ 32769 := ⟨hwd.1, by omega⟩
  have g1 : 1 ≤ hg.toInt ∧ hg.toInt ≤ 4097 := ⟨hhg.1, by omega⟩
  have ne : ∀ {a b : UInt64}, FP.Core.DFin a → FP.Core.DFin b → FP.Core.zval FP.Core.b64 (FP.Core.val64 a) ≠ FP.Core.zval FP.Core.b64 (FP.Core.val64 b) → ¬ (cmpValue (FP.dcmp a b) .l) = 0 := fun fa fb h q => h ((own_eq0 fa fb).mp q)
  refine ⟨own_gokI w1 g1 fx fy fc fd, ?_, ⟨own_nnD fx9, own_nnD fy9, own_nnD fc9.1, own_nnD fd9.1⟩, ?_⟩
  · rw [h_w9, h_v9, h_x9, h_y9, h_c9, h_d9]
    refine own_gokI ?_ ?_ ?_ ?_ ?_ ?_
    · split
      · omega
      · exact w1
    · split
      · omega
      · exact g1
    · split
      · exact fx9
      · exact fx
    · split
      · exact fy9
      · exact fy
    · split
      · exact fc9
      · exact fc
    · split
      · exact fd9
      · exact fd
  · have z7 := own_k7 p6
    rw [h_kd] at z7
    refine (fun (q : _ ∧ _) => ⟨q.1, q.2, by rw [s1]; decide⟩) ?_
    rcases z7 with rfl | rfl | rfl | rfl | rfl | rfl | rfl
    · rw [h_w9, h_v9, h_x9, h_y9, h_c9, h_d9, h_ex]; exact ⟨s1, s1⟩
    · rw [h_w9, h_v9, h_x9, h_y9, h_c9, h_d9, h_ex]; exact ⟨own_al0 (Or.inl nw), own_al0 (Or.inl (Ne.symm nw))⟩
    · rw [h_w9, h_v9, h_x9, h_y9, h_c9, h_d9, h_ex]; exact ⟨own_al0 (Or.inr (Or.inl nh)), own_al0 (Or.inr (Or.inl (Ne.symm nh)))⟩
    · rw [h_w9, h_v9, h_x9, h_y9, h_c9, h_d9, h_ex]; exact ⟨own_al0 (Or.inr (Or.inr (Or.inl (ne fx fx9 nx)))), own_al0 (Or.inr (Or.inr (Or.inl (ne fx9 fx (Ne.symm nx)))))⟩
    · rw [h_w9, h_v9, h_x9, h_y9, h_c9, h_d9, h_ex]; exact ⟨own_al0 (Or.inr (Or.inr (Or.inr (Or.inl (ne fy fy9 ny))))), own_al0 (Or.inr (Or.inr (Or.inr (Or.inl (ne fy9 fy (Ne.symm ny))))))⟩
    · rw [h_w9, h_v9, h_x9, h_y9, h_c9, h_d9, h_ex]; exact ⟨own_al0 (Or.inr (Or.inr (Or.inr (Or.inr (Or.inl (ne fc.1 fc9.1 nc)))))), own_al0 (Or.inr (Or.inr (Or.inr (Or.inr (Or.inl (ne fc9.1 fc.1 (Ne.symm nc)))))))⟩
    · rw [h_w9, h_v9, h_x9, h_y9, h_c9, h_d9, h_ex]; exact ⟨own_al0 (Or.inr (Or.inr (Or.inr (Or.inr (Or.inr (ne fd.1 fd9.1 nd)))))), own_al0 (Or.inr (Or.inr (Or.inr (Or.inr (Or.inr (ne fd9.1 fd.1 (Ne.symm nd)))))))⟩
theorem own_al1 {w1 v1 : Int32} {ox1 oy1 cw1 ch1 : UInt64} {w2 v2 : Int32} {ox2 oy2 cw2 ch2 : UInt64} (q0 : w1 = w2) (q1 : v1 = v2) (q2 : (cmpValue (FP.dcmp ox1 ox2) .l) = 0) (q3 : (cmpValue (FP.dcmp oy1 oy2) .l) = 0) (q4 : (cmpValue (FP.dcmp cw1 cw2) .l) = 0) (q5 : (cmpValue (FP.dcmp ch1 ch2) .l) = 0) : own_al w1 v1 ox1 oy1 cw1 ch1 w2 v2 ox2 oy2 cw2 ch2 = 1 := if_pos ⟨q0, q1, q2, q3, q4, q5⟩
theorem own_at {c : Cell} {j : Nat} (hj : j < c.slots.size) : c.slots[j]? = some (c.slots.toList.getD j (.int (0 : Int32))) := by simp [hj]
theorem own_tab {args : Array Value} {s : State} {t : Term} {a : Addr} (hf : Fit s) (ev : t.eval args s none [] s = some (.ref a)) (w3 : (Cond.exactly t "[B").before args s = true) (w4 : (Cond.eq (.length t) (.int (100 : Int32))).before args s = true) (wa : (Cond.arrayClass .byte).before args s = true) : own_B s s.heap a (100 : Int32) := by
  obtain ⟨cell, k, c1, c2, -, c4, -⟩ := Exa.start ev (Cond.before_iff.mp w3)
  obtain ⟨c, k', comp, f1, f2, f3⟩ := Cond.arrayClass_spec wa
  have ec : c = cell.cls := Option.some.inj ((show s.vm.findClass "[B" = some c from f1).symm.trans c2)
  subst ec
  have known : cell.vm ≠ .unknown := fun q => by
    obtain ⟨a2, c9, g1, g2, -⟩ := Term.length_spec (own_eqi (Cond.before_iff.mp w4))
    have ea : a = a2 := Value.ref.inj (Option.some.inj (ev.symm.trans g1))
    subst ea
    simp [State.arrayAt?, c1, q] at g2
  have A : Arr s s.heap a cell .byte := ⟨c1, ⟨fun q r => by simp [r, VmData.isStatics] at c4, k', f2, comp, f3⟩, known⟩
  obtain ⟨l1, l2⟩ := own_len ev A (Cond.before_iff.mp w4)
  have sz : cell.slots.size = (100 : Int32).toNatClampNeg := by
    have q := congrArg Int32.toNatClampNeg l2
    rw [← q]
    simp only [Int32.toNatClampNeg, len_toInt l1, Int.toNat_natCast]
  refine ⟨cell.cls, cell.slots.toList, ⟨cell, A, rfl, sz, by decide, fun j hj => own_at hj, fun j hj => ?_⟩, by rw [Array.length_toList, sz]; exact Nat.le_refl _⟩
  have hx : j.toInt32.toNatClampNeg = j := by simp only [Int32.toNatClampNeg, len_toInt (Nat.lt_trans hj l1), Int.toNat_natCast]
  exact elem_fits (j := j.toInt32) hf A (idx_in hj l1) (by rw [hx]; exact own_at hj)
def own_co (p : Int32) (r0 r1 r2 : Addr) : Addr := if p = 0 then r0 else if p = 1 then r1 else r2
theorem own_wS {a0 : Array Value} {Z : State} (hw : ∀ d ∈ tables_1, d.before a0 Z = true) : ∀ a ∈ Bundle.stringAtoms, a.before a0 Z = true := by
  intro a ha
  simp only [Bundle.stringAtoms, List.mem_cons, List.not_mem_nil, or_false] at ha
  rcases ha with rfl | rfl | rfl | rfl | rfl | rfl | rfl
  · exact (ow hw 37 rfl)
  · exact (ow hw 44 rfl)
  · exact (ow hw 38 rfl)
  · exact (ow hw 45 rfl)
  · exact (ow hw 46 rfl)
  · exact (ow hw 47 rfl)
  · exact (ow hw 48 rfl)
theorem d_jdk_68m2_0 : decode jdk_68_method_2_code 0 = .ok (.aload_n 0, 1) := by decide +kernel
theorem d_jdk_68m2_1 : decode jdk_68_method_2_code 1 = .ok (.invokespecial 3, 3) := by decide +kernel
theorem d_jdk_68m2_4 : decode jdk_68_method_2_code 4 = .ok (.getstatic 18, 3) := by decide +kernel
theorem d_jdk_68m2_7 : decode jdk_68_method_2_code 7 = .ok (.ifCond .eq 18, 3) := by decide +kernel
theorem d_jdk_68m2_10 : decode jdk_68_method_2_code 10 = .ok (.aload_n 0, 1) := by decide +kernel
theorem d_jdk_68m2_11 : decode jdk_68_method_2_code 11 = .ok (.iload_n 1, 1) := by decide +kernel
theorem d_jdk_68m2_12 : decode jdk_68_method_2_code 12 = .ok (.newarray .byte, 2) := by decide +kernel
theorem d_jdk_68m2_14 : decode jdk_68_method_2_code 14 = .ok (.putfield 15, 3) := by decide +kernel
theorem d_jdk_68m2_17 : decode jdk_68_method_2_code 17 = .ok (.aload_n 0, 1) := by decide +kernel
theorem d_jdk_68m2_18 : decode jdk_68_method_2_code 18 = .ok (.iconst 0, 1) := by decide +kernel
theorem d_jdk_68m2_19 : decode jdk_68_method_2_code 19 = .ok (.putfield 22, 3) := by decide +kernel
theorem d_jdk_68m2_22 : decode jdk_68_method_2_code 22 = .ok (.goto 16, 3) := by decide +kernel
theorem d_jdk_68m2_38 : decode jdk_68_method_2_code 38 = .ok (.return_, 1) := by decide +kernel
theorem pn_0 : plainName "java/lang/AbstractStringBuilder" = true := by first | (simp [plainName, overriddenIn]; done) | decide +kernel
theorem ef_asbi (mM : MethodId) (x0 : Addr) (x1 : Int32) : entryFrame mM #[(.ref x0), (.int x1)] 2 = mkF mM 0 #[.val (.ref x0), .val (.int x1)] [] := by first | (simp [entryFrame, mkF, argsToLocals, Value.category]; done) | rfl
def Q_asbi (Z : State) (b : Addr) (cs : Int32) (h0 : Heap) (n0 : Nat) (v_ : Option Value) (h_ : Heap) (L_ : List Loc) : Prop := ∃ d : Addr, v_ = none ∧ Fr n0 L_ ∧ Keep h0 h_ [b] ∧ h0.size ≤ d ∧ Fld Z h_ b "java/lang/AbstractStringBuilder" "value" "[B" (.ref d) ∧ Fld Z h_ b "java/lang/AbstractStringBuilder" "coder" "B" (.int (0 : Int32)) ∧ Fld Z h_ b "java/lang/AbstractStringBuilder" "count" "I" (.int (0 : Int32)) ∧ Exa Z h_ b "java/lang/StringBuilder" ∧ own_B Z h_ d (16 : Int32)
set_option maxRecDepth 65536 in
set_option maxHeartbeats 40000000 in
theorem rm_asbi (l : Launch) (Z : State) (a0 : Array Value) (hw : ∀ d ∈ tables_1, d.before a0 Z = true) (ws : List Jvm.Cond) (b : Addr) (cs : Int32) (h0 : Heap) (n0 : Nat) (Z0 : n0 ≤ h0.size) (F_value_b : Fld Z h0 b "java/lang/AbstractStringBuilder" "value" "[B" .null) (F_coder_b : Fld Z h0 b "java/lang/AbstractStringBuilder" "coder" "B" (.int (0 : Int32))) (F_count_b : Fld Z h0 b "java/lang/AbstractStringBuilder" "count" "I" (.int (0 : Int32))) (E_b : Exa Z h0 b "java/lang/StringBuilder") (g_b : n0 ≤ b) (S_String_COMPACT_STRINGS : Sta Z h0 "java/lang/String" "COMPACT_STRINGS" "Z" (.int cs)) (hcs : ¬ cs = 0) :
    MetFree l (⟨"java/lang/AbstractStringBuilder", "<init>", "(I)V"⟩ : MethodName) (head1 (Jvm.Cond.code (⟨"java/lang/AbstractStringBuilder", "<init>", "(I)V"⟩ : MethodName) jdk_68_method_2_code 2 none :: ws) oR0) (fun aa_ U_ => aa_ = #[(.ref b), (.int (16 : Int32))] ∧ Z.Warmed39 U_.vm ∧ U_.heap = h0) (fun _ _ _ _ _ => True) (fun _ U_ o_ U'_ => ∃ v_ L_, o_ = .returned v_ ∧ Q_asbi Z b cs h0 n0 v_ U'_.heap L_ ∧ FrameEnd U_ o_ U'_ L_ oR0.cells oR0.slots) := by
  refine MetFree.of_bodySF (plainFor_of_name pn_0) hisR ?_
  intro pP eE sS mM argsA below meth cC s₁ Bd hml0 hP hK
  obtain ⟨rfl, hZ, hh⟩ := hP
  have hx := Bd.exec
  have hby := Bd.bytes
  have hml : cC.maxLocals = 2 := hml0
  have hown : sS.vm.findClass "java/lang/AbstractStringBuilder" = some mM.cls := findClass_of_methodNamed Bd.named
  have hnm := (name_of_methodNamed Bd.named Bd.method).1
  have X0 : Stand pP l eE oR0 sS mM #[(.ref b), (.int (16 : Int32))] below meth cC s₁ [] 0 0 := Stand.of_body Bd
  have e0 : s₁.heap = h0 := by rw [← hh, Bd.state]; rfl
  have N0 := Fr.nil n0
  have pre0 : ∀ t_, Steps pP.tables eE below (s₁.setTop (mkF mM 0 #[.val (.ref b), .val (.int (16 : Int32))] [])) t_ → Steps pP.tables eE below (s₁.setTop (entryFrame mM #[(.ref b), (.int (16 : Int32))] 2)) t_ := fun t_ k_ => castTop (ef_asbi mM b (16 : Int32)) k_
  obtain ⟨T_1, X_1, e_1, st_1⟩ := initO X0 hx hZ hown (ow hw 35 rfl) (ow hw 21 rfl) (ow hw 22 rfl) e0 (g := (mkF mM 1 #[.val (.ref b), .val (.int (16 : Int32))] [(.ref b)])) rfl (by rw [hml]; rfl) rfl (hb hby d_jdk_68m2_1) (by decide) (W := 0) (by show 2 * 0 + _ ≤ _; exact Nat.le_of_eq rfl) (by decide)
  obtain ⟨T_2, X_2, e_2, st_2⟩ := getS2 X_1 hx hZ hown (host := "") (Or.inl (ow hw 36 rfl)) Via.refl e_1 S_String_COMPACT_STRINGS (g := (mkF mM 4 #[.val (.ref b), .val (.int (16 : Int32))] [])) rfl (hb hby d_jdk_68m2_4)
  obtain ⟨T_3, h_3, k_3, X_3, e_3, E_3, A_3, st_3⟩ := newP X_2 hx hZ (ow hw 38 rfl) e_2 (g := (mkF mM 12 #[.val (.ref b), .val (.int (16 : Int32))] [(.int (16 : Int32)), (.ref b)])) rfl (hb hby d_jdk_68m2_12) rfl (by decide) (cap := 16) (by decide) (by decide) (by decide) (by decide)
  obtain ⟨b_3, g_3⟩ : ∃ z, z = h0.size := ⟨_, rfl⟩
  rw [← g_3] at A_3 st_3
  have g_b_3 : n0 ≤ b_3 := Nat.le_trans Z0 (Nat.le_of_eq g_3.symm)
  have sz_b_3 : h0.size ≤ b_3 := Nat.le_trans (Keep.refl h0 [b]).1 (Nat.le_of_eq g_3.symm)
  have Z_3 : n0 ≤ h_3.size := (Nat.le_trans Z0 E_3.1)
  have K_3 : Keep h0 h_3 [b] := (Keep.refl h0 [b]).ext E_3
  have B_b_3 : own_B Z h_3 b_3 (16 : Int32) := own_B.new A_3 (by decide)
  obtain ⟨T_4, h_4, X_4, e_4, W_4, st_4⟩ := putF X_3 hx hZ hown (host := "") (Or.inl (ow hw 39 rfl)) Via.refl e_3 (F_value_b.ext E_3) (E_b.ext E_3) (Or.inl (ow hw 40 rfl)) (ow hw 24 rfl) (ty := (.array .byte)) (by decide) rfl rfl (g := (mkF mM 14 #[.val (.ref b), .val (.int (16 : Int32))] [(.ref b_3), (.ref b)])) rfl rfl (hb hby d_jdk_68m2_14)
  have Fw_4 := (F_value_b.ext E_3).same W_4
  have Z_4 : n0 ≤ h_4.size := (Nat.le_trans Z_3 (Keep.of_wr W_4).1)
  have K_4 : Keep h0 h_4 [b] := K_3.wr W_4 (Or.inl (List.mem_of_getElem? (i := 0) rfl))
  have N_4 := Fr.snoc X_4 N0 g_b
  have Rt_1 := ((F_coder_b.ext E_3).other W_4 (Or.inr (slot_ne (Or.inl (ow hw 42 rfl)) (Or.inl (ow hw 40 rfl)) (by decide) (t := .byte) (t' := (.array .byte)) (by decide) (by decide))))
  obtain ⟨T_5, h_5, X_5, e_5, W_5, st_5⟩ := putFN X_4 hx hZ hown (ow hw 41 rfl) Via.refl e_4 Rt_1 ((E_b.ext E_3).wr W_4) (Or.inl (ow hw 42 rfl)) (ow hw 24 rfl) (ty := .byte) (v' := (.int (0 : Int32))) (by decide) rfl rfl (g := (mkF mM 19 #[.val (.ref b), .val (.int (16 : Int32))] [(.int (0 : Int32)), (.ref b)])) rfl rfl (hb hby d_jdk_68m2_19)
  have Fw_5 := Rt_1.same W_5
  have Z_5 : n0 ≤ h_5.size := (Nat.le_trans Z_4 (Keep.of_wr W_5).1)
  have K_5 : Keep h0 h_5 [b] := K_4.wr W_5 (Or.inl (List.mem_of_getElem? (i := 0) rfl))
  have N_5 := Fr.snoc X_5 N_4 g_b
  obtain ⟨fs, hr, hrun, hended, hW, hsame⟩ := X_5.leave (v := none) (fun _ => rfl)
  refine ⟨_, _, pre0 _ ?_, hrun, hended, _, _, rfl, ?_, ⟨_, rfl⟩, hW, hsame.mono (by decide) (by decide)⟩
  · show oS pP eE below s₁ (mkF mM 0 #[.val (.ref b), .val (.int (16 : Int32))] []) _
    refine XS.aloadN X0.here hx rfl (hb hby d_jdk_68m2_0) rfl rfl ?_
    show oS pP eE below s₁ (mkF mM 1 #[.val (.ref b), .val (.int (16 : Int32))] [(.ref b)]) _
    refine st_1 _ ?_
    show oS pP eE below T_1 (mkF mM 4 #[.val (.ref b), .val (.int (16 : Int32))] []) _
    refine st_2 _ ?_
    show oS pP eE below T_2 (mkF mM 7 #[.val (.ref b), .val (.int (16 : Int32))] [(.int cs)]) _
    refine XS.ifNo X_2.here hx rfl (hb hby d_jdk_68m2_7) rfl (XT.i0_eq_f hcs) ?_
    refine XS.aloadN X_2.here hx rfl (hb hby d_jdk_68m2_10) rfl rfl ?_
    refine XS.iloadN X_2.here hx rfl (hb hby d_jdk_68m2_11) rfl ?_
    show oS pP eE below T_2 (mkF mM 12 #[.val (.ref b), .val (.int (16 : Int32))] [(.int (16 : Int32)), (.ref b)]) _
    refine st_3 _ ?_
    show oS pP eE below T_3 (mkF mM 14 #[.val (.ref b), .val (.int (16 : Int32))] [(.ref b_3), (.ref b)]) _
    refine st_4 _ ?_
    show oS pP eE below T_4 (mkF mM 17 #[.val (.ref b), .val (.int (16 : Int32))] []) _
    refine XS.aloadN X_4.here hx rfl (hb hby d_jdk_68m2_17) rfl rfl ?_
    refine XS.iconst X_4.here hx rfl (hb hby d_jdk_68m2_18) ?_
    show oS pP eE below T_4 (mkF mM 19 #[.val (.ref b), .val (.int (16 : Int32))] [(.int (0 : Int32)), (.ref b)]) _
    refine st_5 _ ?_
    show oS pP eE below T_5 (mkF mM 22 #[.val (.ref b), .val (.int (16 : Int32))] []) _
    refine XS.goto X_5.here hx rfl (pc0 := 22) (pc' := 38) rfl (hb hby d_jdk_68m2_22) (by decide) (by decide) ?_
    show oS pP eE below T_5 (mkF mM 38 #[.val (.ref b), .val (.int (16 : Int32))] []) _
    exact X_5.returnOut hx Bd.returns (hb hby d_jdk_68m2_38) hr
  · show Q_asbi Z b cs h0 n0 _ T_5.heap _
    rw [e_5]
    exact ⟨b_3, rfl, N_5, K_5, sz_b_3, (Fw_4.other W_5 (Or.inr (slot_ne (Or.inl (ow hw 40 rfl)) (Or.inl (ow hw 42 rfl)) (by decide) (t := (.array .byte)) (t' := .byte) (by decide) (by decide)))), Fw_5, (((F_count_b.ext E_3).other W_4 (Or.inr (slot_ne (Or.inl (ow hw 73 rfl)) (Or.inl (ow hw 40 rfl)) (by decide) (t := .int) (t' := (.array .byte)) (by decide) (by decide)))).other W_5 (Or.inr (slot_ne (Or.inl (ow hw 73 rfl)) (Or.inl (ow hw 42 rfl)) (by decide) (t := .int) (t' := .byte) (by decide) (by decide)))), (((E_b.ext E_3).wr W_4).wr W_5), ((B_b_3.other W_4 (Ne.symm (Nat.ne_of_lt (Nat.lt_of_lt_of_le E_b.lt (Nat.le_of_eq g_3.symm))))).other W_5 (Ne.symm (Nat.ne_of_lt (Nat.lt_of_lt_of_le E_b.lt (Nat.le_of_eq g_3.symm)))))⟩
theorem d_jdk_67m1_0 : decode jdk_67_method_1_code 0 = .ok (.aload_n 0, 1) := by decide +kernel
theorem d_jdk_67m1_1 : decode jdk_67_method_1_code 1 = .ok (.bipush 16, 2) := by decide +kernel
theorem d_jdk_67m1_3 : decode jdk_67_method_1_code 3 = .ok (.invokespecial 1, 3) := by decide +kernel
theorem pd_0 : parseMethodDescriptor "(I)V" = some ⟨[.int], none⟩ := by decide +kernel
abbrev MN0 : MethodName := ⟨"java/lang/AbstractStringBuilder", "<init>", "(I)V"⟩
theorem d_jdk_67m1_6 : decode jdk_67_method_1_code 6 = .ok (.return_, 1) := by decide +kernel
theorem pn_1 : plainName "java/lang/StringBuilder" = true := by first | (simp [plainName, overriddenIn]; done) | decide +kernel
theorem ef_sbi (mM : MethodId) (x0 : Addr) : entryFrame mM #[(.ref x0)] 1 = mkF mM 0 #[.val (.ref x0)] [] := by first | (simp [entryFrame, mkF, argsToLocals, Value.category]; done) | rfl
def Q_sbi (Z : State) (b : Addr) (cs : Int32) (h0 : Heap) (n0 : Nat) (v_ : Option Value) (h_ : Heap) (L_ : List Loc) : Prop := ∃ d : Addr, v_ = none ∧ Fr n0 L_ ∧ Keep h0 h_ [b] ∧ h0.size ≤ d ∧ Fld Z h_ b "java/lang/AbstractStringBuilder" "value" "[B" (.ref d) ∧ Fld Z h_ b "java/lang/AbstractStringBuilder" "coder" "B" (.int (0 : Int32)) ∧ Fld Z h_ b "java/lang/AbstractStringBuilder" "count" "I" (.int (0 : Int32)) ∧ Exa Z h_ b "java/lang/StringBuilder" ∧ own_B Z h_ d (16 : Int32)
set_option maxRecDepth 65536 in
set_option maxHeartbeats 40000000 in
theorem rm_sbi (l : Launch) (Z : State) (a0 : Array Value) (hw : ∀ d ∈ tables_1, d.before a0 Z = true) (ws : List Jvm.Cond) (b : Addr) (cs : Int32) (h0 : Heap) (n0 : Nat) (Z0 : n0 ≤ h0.size) (F_value_b : Fld Z h0 b "java/lang/AbstractStringBuilder" "value" "[B" .null) (F_coder_b : Fld Z h0 b "java/lang/AbstractStringBuilder" "coder" "B" (.int (0 : Int32))) (F_count_b : Fld Z h0 b "java/lang/AbstractStringBuilder" "count" "I" (.int (0 : Int32))) (E_b : Exa Z h0 b "java/lang/StringBuilder") (g_b : n0 ≤ b) (S_String_COMPACT_STRINGS : Sta Z h0 "java/lang/String" "COMPACT_STRINGS" "Z" (.int cs)) (hcs : ¬ cs = 0) :
    MetFree l (⟨"java/lang/StringBuilder", "<init>", "()V"⟩ : MethodName) (head1 (Jvm.Cond.code (⟨"java/lang/StringBuilder", "<init>", "()V"⟩ : MethodName) jdk_67_method_1_code 1 none :: ws) oR1) (fun aa_ U_ => aa_ = #[(.ref b)] ∧ Z.Warmed39 U_.vm ∧ U_.heap = h0) (fun _ _ _ _ _ => True) (fun _ U_ o_ U'_ => ∃ v_ L_, o_ = .returned v_ ∧ Q_sbi Z b cs h0 n0 v_ U'_.heap L_ ∧ FrameEnd U_ o_ U'_ L_ oR1.cells oR1.slots) := by
  refine MetFree.of_bodySF (plainFor_of_name pn_1) hisR ?_
  intro pP eE sS mM argsA below meth cC s₁ Bd hml0 hP hK
  obtain ⟨rfl, hZ, hh⟩ := hP
  have hx := Bd.exec
  have hby := Bd.bytes
  have hml : cC.maxLocals = 1 := hml0
  have hown : sS.vm.findClass "java/lang/StringBuilder" = some mM.cls := findClass_of_methodNamed Bd.named
  have hnm := (name_of_methodNamed Bd.named Bd.method).1
  have X0 : Stand pP l eE oR1 sS mM #[(.ref b)] below meth cC s₁ [] 0 0 := Stand.of_body Bd
  have e0 : s₁.heap = h0 := by rw [← hh, Bd.state]; rfl
  have N0 := Fr.nil n0
  have pre0 : ∀ t_, Steps pP.tables eE below (s₁.setTop (mkF mM 0 #[.val (.ref b)] [])) t_ → Steps pP.tables eE below (s₁.setTop (entryFrame mM #[(.ref b)] 1)) t_ := fun t_ k_ => castTop (ef_sbi mM b) k_
  obtain ⟨_, _, ⟨T_1, L_1, k_1, n_1⟩, -, X_1, ⟨Lc_1, hQ_1, l_1, y_1, z_1⟩, st_1⟩ := X0.specialBack hx (y := MN0) rfl hown (mvT hZ (ow hw 29 rfl)) (mvT hZ (ow hw 30 rfl)) (mvT hZ (ow hw 34 rfl)) (by decide) (backOf (W := 0) (rm_asbi l Z a0 hw [] b cs h0 n0 Z0 F_value_b F_coder_b F_count_b E_b g_b S_String_COMPACT_STRINGS hcs) hZ (ow hw 34 rfl) (ow hw 33 rfl) (by decide) (by decide)) (g := (mkF mM 3 #[.val (.ref b)] [(.int (16 : Int32)), (.ref b)])) rfl (by rw [hml]; rfl) (Steps.refl _) (a := b) (argsL := [(.int (16 : Int32))]) (rest := []) (lenOf pd_0 rfl) rfl (by show 2 * 0 + _ ≤ _; exact Nat.le_of_eq rfl) (hb hby d_jdk_67m1_3) (fun _ _ => ⟨rfl, e0, (by decide : 0 + 1 ≤ _), (by decide : 0 + 16 ≤ _)⟩)
  dsimp only [Pt.U, Pt.locs, Pt.cells, Pt.slots] at X_1 l_1 y_1 z_1 st_1 hQ_1
  subst l_1 y_1 z_1
  obtain ⟨d__1, ⟨rfl, N_1q, Kc_1, pfsz_d_1, pfF_value_b_1, pfF_coder_b_1, pfF_count_b_1, pfE_b_1, pfB_d_1⟩⟩ := hQ_1
  have Z_1 : n0 ≤ T_1.heap.size := (Nat.le_trans Z0 Kc_1.1)
  have K_1 : Keep h0 T_1.heap [b] := (Keep.refl h0 [b]).trans Kc_1 (allS (Or.inl (List.mem_of_getElem? (i := 0) rfl)) all0)
  have sz_d__1 : h0.size ≤ d__1 := Nat.le_trans (Keep.refl h0 [b]).1 pfsz_d_1
  have g_d__1 : n0 ≤ d__1 := Nat.le_trans Z0 pfsz_d_1
  have N_1 := Fr.app N0 N_1q
  obtain ⟨fs, hr, hrun, hended, hW, hsame⟩ := X_1.leave (v := none) (fun _ => rfl)
  refine ⟨_, _, pre0 _ ?_, hrun, hended, _, _, rfl, ?_, ⟨_, rfl⟩, hW, hsame.mono (by decide) (by decide)⟩
  · show oS pP eE below s₁ (mkF mM 0 #[.val (.ref b)] []) _
    refine XS.aloadN X0.here hx rfl (hb hby d_jdk_67m1_0) rfl rfl ?_
    refine XS.bipush X0.here hx rfl (hb hby d_jdk_67m1_1) ?_
    show oS pP eE below s₁ (mkF mM 3 #[.val (.ref b)] [(.int (16 : Int32)), (.ref b)]) _
    refine st_1.trans ?_
    show oS pP eE below T_1 (mkF mM 6 #[.val (.ref b)] []) _
    exact X_1.returnOut hx Bd.returns (hb hby d_jdk_67m1_6) hr
  · show Q_sbi Z b cs h0 n0 _ T_1.heap _
    exact ⟨d__1, rfl, N_1, K_1, sz_d__1, pfF_value_b_1, pfF_coder_b_1, pfF_count_b_1, pfE_b_1, pfB_d_1⟩
theorem d_jdk_42m152_0 : decode jdk_42_method_152_code 0 = .ok (.getstatic 38, 3) := by decide +kernel
theorem d_jdk_42m152_3 : decode jdk_42_method_152_code 3 = .ok (.ifCond .eq 10, 3) := by decide +kernel
theorem d_jdk_42m152_6 : decode jdk_42_method_152_code 6 = .ok (.aload_n 0, 1) := by decide +kernel
theorem d_jdk_42m152_7 : decode jdk_42_method_152_code 7 = .ok (.getfield 15, 3) := by decide +kernel
theorem d_jdk_42m152_10 : decode jdk_42_method_152_code 10 = .ok (.goto 4, 3) := by decide +kernel
theorem d_jdk_42m152_14 : decode jdk_42_method_152_code 14 = .ok (.ireturn, 1) := by decide +kernel
theorem pn_2 : plainName "java/lang/String" = true := by first | (simp [plainName, overriddenIn]; done) | decide +kernel
theorem ef_coder (mM : MethodId) (x0 : Addr) : entryFrame mM #[(.ref x0)] 1 = mkF mM 0 #[.val (.ref x0)] [] := by first | (simp [entryFrame, mkF, argsToLocals, Value.category]; done) | rfl
def Q_coder (Z : State) (s : Addr) (cs : Int32) (h0 : Heap) (n0 : Nat) (v_ : Option Value) (h_ : Heap) (L_ : List Loc) : Prop := v_ = some (.int (0 : Int32)) ∧ Fr n0 L_ ∧ h_ = h0
set_option maxRecDepth 65536 in
set_option maxHeartbeats 40000000 in
theorem rm_coder (l : Launch) (Z : State) (a0 : Array Value) (hw : ∀ d ∈ tables_1, d.before a0 Z = true) (ws : List Jvm.Cond) (s : Addr) (cs : Int32) (h0 : Heap) (n0 : Nat) (Z0 : n0 ≤ h0.size) (F_coder_s : Fld Z h0 s "java/lang/String" "coder" "B" (.int (0 : Int32))) (S_String_COMPACT_STRINGS : Sta Z h0 "java/lang/String" "COMPACT_STRINGS" "Z" (.int cs)) (hcs : ¬ cs = 0) :
    MetFree l (⟨"java/lang/String", "coder", "()B"⟩ : MethodName) (head1 (Jvm.Cond.code (⟨"java/lang/String", "coder", "()B"⟩ : MethodName) jdk_42_method_152_code 1 (some .byte) :: ws) oR2) (fun aa_ U_ => aa_ = #[(.ref s)] ∧ Z.Warmed39 U_.vm ∧ U_.heap = h0) (fun _ _ _ _ _ => True) (fun _ U_ o_ U'_ => ∃ v_ L_, o_ = .returned v_ ∧ Q_coder Z s cs h0 n0 v_ U'_.heap L_ ∧ FrameEnd U_ o_ U'_ L_ oR2.cells oR2.slots) := by
  refine MetFree.of_bodySF (plainFor_of_name pn_2) hisR ?_
  intro pP eE sS mM argsA below meth cC s₁ Bd hml0 hP hK
  obtain ⟨rfl, hZ, hh⟩ := hP
  have hx := Bd.exec
  have hby := Bd.bytes
  have hml : cC.maxLocals = 1 := hml0
  have hown : sS.vm.findClass "java/lang/String" = some mM.cls := findClass_of_methodNamed Bd.named
  have hnm := (name_of_methodNamed Bd.named Bd.method).1
  have X0 : Stand pP l eE oR2 sS mM #[(.ref s)] below meth cC s₁ [] 0 0 := Stand.of_body Bd
  have e0 : s₁.heap = h0 := by rw [← hh, Bd.state]; rfl
  have N0 := Fr.nil n0
  have pre0 : ∀ t_, Steps pP.tables eE below (s₁.setTop (mkF mM 0 #[.val (.ref s)] [])) t_ → Steps pP.tables eE below (s₁.setTop (entryFrame mM #[(.ref s)] 1)) t_ := fun t_ k_ => castTop (ef_coder mM s) k_
  obtain ⟨T_1, X_1, e_1, st_1⟩ := getS2 X0 hx hZ hown (host := "") (Or.inl (ow hw 70 rfl)) Via.refl e0 S_String_COMPACT_STRINGS (g := (mkF mM 0 #[.val (.ref s)] [])) rfl (hb hby d_jdk_42m152_0)
  obtain ⟨T_2, X_2, e_2, st_2⟩ := getF X_1 hx hZ hown (host := "") (Or.inl (ow hw 71 rfl)) Via.refl e_1 F_coder_s (g := (mkF mM 7 #[.val (.ref s)] [(.ref s)])) rfl rfl (hb hby d_jdk_42m152_7)
  obtain ⟨fs, hr, hrun, hended, hW, hsame⟩ := X_2.leave (v := some (.int (0 : Int32))) (fun h => by rw [Bd.returns] at h; cases h)
  refine ⟨_, _, pre0 _ ?_, hrun, hended, _, _, rfl, ?_, ⟨_, rfl⟩, hW, hsame.mono (by decide) (by decide)⟩
  · show oS pP eE below s₁ (mkF mM 0 #[.val (.ref s)] []) _
    refine st_1 _ ?_
    show oS pP eE below T_1 (mkF mM 3 #[.val (.ref s)] [(.int cs)]) _
    refine XS.ifNo X_1.here hx rfl (hb hby d_jdk_42m152_3) rfl (XT.i0_eq_f hcs) ?_
    refine XS.aloadN X_1.here hx rfl (hb hby d_jdk_42m152_6) rfl rfl ?_
    show oS pP eE below T_1 (mkF mM 7 #[.val (.ref s)] [(.ref s)]) _
    refine st_2 _ ?_
    show oS pP eE below T_2 (mkF mM 10 #[.val (.ref s)] [(.int (0 : Int32))]) _
    refine XS.goto X_2.here hx rfl (pc0 := 10) (pc' := 14) rfl (hb hby d_jdk_42m152_10) (by decide) (by decide) ?_
    show oS pP eE below T_2 (mkF mM 14 #[.val (.ref s)] [(.int (0 : Int32))]) _
    exact retN X_2 hx (t := .byte) Bd.returns (by simp) (hb hby d_jdk_42m152_14) hr
  · show Q_coder Z s cs h0 n0 _ T_2.heap _
    rw [e_2]
    exact ⟨rfl, N0, rfl⟩
theorem d_jdk_68m68_0 : decode jdk_68_method_68_code 0 = .ok (.getstatic 18, 3) := by decide +kernel
theorem d_jdk_68m68_3 : decode jdk_68_method_68_code 3 = .ok (.ifCond .eq 14, 3) := by decide +kernel
theorem d_jdk_68m68_6 : decode jdk_68_method_68_code 6 = .ok (.aload_n 0, 1) := by decide +kernel
theorem d_jdk_68m68_7 : decode jdk_68_method_68_code 7 = .ok (.getfield 22, 3) := by decide +kernel
theorem d_jdk_68m68_10 : decode jdk_68_method_68_code 10 = .ok (.ifCond .ne 7, 3) := by decide +kernel
theorem d_jdk_68m68_13 : decode jdk_68_method_68_code 13 = .ok (.iconst 1, 1) := by decide +kernel
theorem d_jdk_68m68_14 : decode jdk_68_method_68_code 14 = .ok (.goto 4, 3) := by decide +kernel
theorem d_jdk_68m68_18 : decode jdk_68_method_68_code 18 = .ok (.ireturn, 1) := by decide +kernel
theorem ef_isl (mM : MethodId) (x0 : Addr) : entryFrame mM #[(.ref x0)] 1 = mkF mM 0 #[.val (.ref x0)] [] := by first | (simp [entryFrame, mkF, argsToLocals, Value.category]; done) | rfl
def Q_isl (Z : State) (b : Addr) (cs : Int32) (h0 : Heap) (n0 : Nat) (v_ : Option Value) (h_ : Heap) (L_ : List Loc) : Prop := v_ = some (.int (1 : Int32)) ∧ Fr n0 L_ ∧ h_ = h0
set_option maxRecDepth 65536 in
set_option maxHeartbeats 40000000 in
theorem rm_isl (l : Launch) (Z : State) (a0 : Array Value) (hw : ∀ d ∈ tables_1, d.before a0 Z = true) (ws : List Jvm.Cond) (b : Addr) (cs : Int32) (h0 : Heap) (n0 : Nat) (Z0 : n0 ≤ h0.size) (F_coder_b : Fld Z h0 b "java/lang/AbstractStringBuilder" "coder" "B" (.int (0 : Int32))) (S_String_COMPACT_STRINGS : Sta Z h0 "java/lang/String" "COMPACT_STRINGS" "Z" (.int cs)) (hcs : ¬ cs = 0) :
    MetFree l (⟨"java/lang/AbstractStringBuilder", "isLatin1", "()Z"⟩ : MethodName) (head1 (Jvm.Cond.code (⟨"java/lang/AbstractStringBuilder", "isLatin1", "()Z"⟩ : MethodName) jdk_68_method_68_code 1 (some .boolean) :: ws) oR2) (fun aa_ U_ => aa_ = #[(.ref b)] ∧ Z.Warmed39 U_.vm ∧ U_.heap = h0) (fun _ _ _ _ _ => True) (fun _ U_ o_ U'_ => ∃ v_ L_, o_ = .returned v_ ∧ Q_isl Z b cs h0 n0 v_ U'_.heap L_ ∧ FrameEnd U_ o_ U'_ L_ oR2.cells oR2.slots) := by
  refine MetFree.of_bodySF (plainFor_of_name pn_0) hisR ?_
  intro pP eE sS mM argsA below meth cC s₁ Bd hml0 hP hK
  obtain ⟨rfl, hZ, hh⟩ := hP
  have hx := Bd.exec
  have hby := Bd.bytes
  have hml : cC.maxLocals = 1 := hml0
  have hown : sS.vm.findClass "java/lang/AbstractStringBuilder" = some mM.cls := findClass_of_methodNamed Bd.named
  have hnm := (name_of_methodNamed Bd.named Bd.method).1
  have X0 : Stand pP l eE oR2 sS mM #[(.ref b)] below meth cC s₁ [] 0 0 := Stand.of_body Bd
  have e0 : s₁.heap = h0 := by rw [← hh, Bd.state]; rfl
  have N0 := Fr.nil n0
  have pre0 : ∀ t_, Steps pP.tables eE below (s₁.setTop (mkF mM 0 #[.val (.ref b)] [])) t_ → Steps pP.tables eE below (s₁.setTop (entryFrame mM #[(.ref b)] 1)) t_ := fun t_ k_ => castTop (ef_isl mM b) k_
  obtain ⟨T_1, X_1, e_1, st_1⟩ := getS2 X0 hx hZ hown (host := "") (Or.inl (ow hw 36 rfl)) Via.refl e0 S_String_COMPACT_STRINGS (g := (mkF mM 0 #[.val (.ref b)] [])) rfl (hb hby d_jdk_68m68_0)
  obtain ⟨T_2, X_2, e_2, st_2⟩ := getF X_1 hx hZ hown (host := "") (Or.inl (ow hw 41 rfl)) Via.refl e_1 F_coder_b (g := (mkF mM 7 #[.val (.ref b)] [(.ref b)])) rfl rfl (hb hby d_jdk_68m68_7)
  obtain ⟨fs, hr, hrun, hended, hW, hsame⟩ := X_2.leave (v := some (.int (1 : Int32))) (fun h => by rw [Bd.returns] at h; cases h)
  refine ⟨_, _, pre0 _ ?_, hrun, hended, _, _, rfl, ?_, ⟨_, rfl⟩, hW, hsame.mono (by decide) (by decide)⟩
  · show oS pP eE below s₁ (mkF mM 0 #[.val (.ref b)] []) _
    refine st_1 _ ?_
    show oS pP eE below T_1 (mkF mM 3 #[.val (.ref b)] [(.int cs)]) _
    refine XS.ifNo X_1.here hx rfl (hb hby d_jdk_68m68_3) rfl (XT.i0_eq_f hcs) ?_
    refine XS.aloadN X_1.here hx rfl (hb hby d_jdk_68m68_6) rfl rfl ?_
    show oS pP eE below T_1 (mkF mM 7 #[.val (.ref b)] [(.ref b)]) _
    refine st_2 _ ?_
    show oS pP eE below T_2 (mkF mM 10 #[.val (.ref b)] [(.int (0 : Int32))]) _
    refine XS.ifNo X_2.here hx rfl (hb hby d_jdk_68m68_10) rfl (by decide) ?_
    refine XS.iconst X_2.here hx rfl (hb hby d_jdk_68m68_13) ?_
    refine XS.goto X_2.here hx rfl (pc0 := 14) (pc' := 18) rfl (hb hby d_jdk_68m68_14) (by decide) (by decide) ?_
    show oS pP eE below T_2 (mkF mM 18 #[.val (.ref b)] [(.int (1 : Int32))]) _
    exact retN X_2 hx (t := .boolean) Bd.returns (by simp) (hb hby d_jdk_68m68_18) hr
  · show Q_isl Z b cs h0 n0 _ T_2.heap _
    rw [e_2]
    exact ⟨rfl, N0, rfl⟩
theorem d_jdk_42m54_0 : decode jdk_42_method_54_code 0 = .ok (.aload_n 0, 1) := by decide +kernel
theorem d_jdk_42m54_1 : decode jdk_42_method_54_code 1 = .ok (.getfield 9, 3) := by decide +kernel
theorem d_jdk_42m54_4 : decode jdk_42_method_54_code 4 = .ok (.arraylength, 1) := by decide +kernel
theorem d_jdk_42m54_5 : decode jdk_42_method_54_code 5 = .ok (.aload_n 0, 1) := by decide +kernel
theorem d_jdk_42m54_6 : decode jdk_42_method_54_code 6 = .ok (.invokevirtual 335, 3) := by decide +kernel
theorem pd_1 : parseMethodDescriptor "()B" = some ⟨[], some .byte⟩ := by decide +kernel
abbrev MN1 : MethodName := ⟨"java/lang/String", "coder", "()B"⟩
theorem d_jdk_42m54_9 : decode jdk_42_method_54_code 9 = .ok (.ishr, 1) := by decide +kernel
theorem d_jdk_42m54_10 : decode jdk_42_method_54_code 10 = .ok (.ireturn, 1) := by decide +kernel
theorem ef_slen (mM : MethodId) (x0 : Addr) : entryFrame mM #[(.ref x0)] 1 = mkF mM 0 #[.val (.ref x0)] [] := by first | (simp [entryFrame, mkF, argsToLocals, Value.category]; done) | rfl
def Q_slen (Z : State) (s : Addr) (e2 : Addr) (m : Int32) (cs : Int32) (h0 : Heap) (n0 : Nat) (v_ : Option Value) (h_ : Heap) (L_ : List Loc) : Prop := v_ = some (.int m) ∧ Fr n0 L_ ∧ h_ = h0
set_option maxRecDepth 65536 in
set_option maxHeartbeats 40000000 in
theorem rm_slen (l : Launch) (Z : State) (a0 : Array Value) (hw : ∀ d ∈ tables_1, d.before a0 Z = true) (ws : List Jvm.Cond) (s : Addr) (e2 : Addr) (m : Int32) (cs : Int32) (h0 : Heap) (n0 : Nat) (Z0 : n0 ≤ h0.size) (F_value_s : Fld Z h0 s "java/lang/String" "value" "[B" (.ref e2)) (F_coder_s : Fld Z h0 s "java/lang/String" "coder" "B" (.int (0 : Int32))) (E_s : Exa Z h0 s "java/lang/String") (B_e2 : own_B Z h0 e2 m) (S_String_COMPACT_STRINGS : Sta Z h0 "java/lang/String" "COMPACT_STRINGS" "Z" (.int cs)) (hcs : ¬ cs = 0) :
    MetFree l (⟨"java/lang/String", "length", "()I"⟩ : MethodName) (head1 (Jvm.Cond.code (⟨"java/lang/String", "length", "()I"⟩ : MethodName) jdk_42_method_54_code 1 (some .int) :: ws) oR3) (fun aa_ U_ => aa_ = #[(.ref s)] ∧ Z.Warmed39 U_.vm ∧ U_.heap = h0) (fun _ _ _ _ _ => True) (fun _ U_ o_ U'_ => ∃ v_ L_, o_ = .returned v_ ∧ Q_slen Z s e2 m cs h0 n0 v_ U'_.heap L_ ∧ FrameEnd U_ o_ U'_ L_ oR3.cells oR3.slots) := by
  refine MetFree.of_bodySF (plainFor_of_name pn_2) hisR ?_
  intro pP eE sS mM argsA below meth cC s₁ Bd hml0 hP hK
  obtain ⟨rfl, hZ, hh⟩ := hP
  have hx := Bd.exec
  have hby := Bd.bytes
  have hml : cC.maxLocals = 1 := hml0
  have hown : sS.vm.findClass "java/lang/String" = some mM.cls := findClass_of_methodNamed Bd.named
  have hnm := (name_of_methodNamed Bd.named Bd.method).1
  have X0 : Stand pP l eE oR3 sS mM #[(.ref s)] below meth cC s₁ [] 0 0 := Stand.of_body Bd
  have e0 : s₁.heap = h0 := by rw [← hh, Bd.state]; rfl
  have N0 := Fr.nil n0
  have pre0 : ∀ t_, Steps pP.tables eE below (s₁.setTop (mkF mM 0 #[.val (.ref s)] [])) t_ → Steps pP.tables eE below (s₁.setTop (entryFrame mM #[(.ref s)] 1)) t_ := fun t_ k_ => castTop (ef_slen mM s) k_
  obtain ⟨T_1, X_1, e_1, st_1⟩ := getF X0 hx hZ hown (host := "") (Or.inl (ow hw 64 rfl)) Via.refl e0 F_value_s (g := (mkF mM 1 #[.val (.ref s)] [(.ref s)])) rfl rfl (hb hby d_jdk_42m54_1)
  obtain ⟨kk_2, vs_2, ⟨cl_2, Ar_2, -, Sa_2, Na_2, -, -⟩, -⟩ := id B_e2
  obtain ⟨cq_3, kq_3, q_3a, q_3b, q_3c⟩ := isOf hZ e_1 E_s
  obtain ⟨_, _, ⟨T_3, L_3, k_3, n_3⟩, -, X_3, ⟨Lc_3, hQ_3, l_3, y_3, z_3⟩, st_3⟩ := X_1.virtualBack hx (y := MN1) (z := MN1) hown (mvT hZ (ow hw 65 rfl)) (mvT hZ (ow hw 66 rfl)) (notFace_of_selects (args := #[]) (mvT hZ (ow hw 68 rfl))) (mvT hZ (ow hw 68 rfl)) (mvT hZ (ow hw 67 rfl)) (by decide) (backOf (W := 1) (rm_coder l Z a0 hw [] s cs h0 n0 Z0 F_coder_s S_String_COMPACT_STRINGS hcs) hZ (ow hw 69 rfl) (ow hw 37 rfl) (by decide) (by decide)) q_3a q_3c (g := (mkF mM 6 #[.val (.ref s)] [(.ref s), (.int m)])) rfl (by rw [hml]; rfl) (Steps.refl _) (argsL := []) (rest := [(.int m)]) (lenOf pd_1 rfl) rfl (by show 2 * 0 + _ ≤ _; exact Nat.le_of_eq rfl) (hb hby d_jdk_42m54_6) (fun _ _ => ⟨rfl, e_1, (by decide : 0 + 0 ≤ _), (by decide : 0 + 0 ≤ _)⟩)
  dsimp only [Pt.U, Pt.locs, Pt.cells, Pt.slots] at X_3 l_3 y_3 z_3 st_3 hQ_3
  subst l_3 y_3 z_3
  obtain ⟨rfl, N_3q, eh_3⟩ := hQ_3
  have N_3 := Fr.app N0 N_3q
  obtain ⟨fs, hr, hrun, hended, hW, hsame⟩ := X_3.leave (v := some (.int m)) (fun h => by rw [Bd.returns] at h; cases h)
  refine ⟨_, _, pre0 _ ?_, hrun, hended, _, _, rfl, ?_, ⟨_, rfl⟩, hW, hsame.mono (by decide) (by decide)⟩
  · show oS pP eE below s₁ (mkF mM 0 #[.val (.ref s)] []) _
    refine XS.aloadN X0.here hx rfl (hb hby d_jdk_42m54_0) rfl rfl ?_
    show oS pP eE below s₁ (mkF mM 1 #[.val (.ref s)] [(.ref s)]) _
    refine st_1 _ ?_
    show oS pP eE below T_1 (mkF mM 4 #[.val (.ref s)] [(.ref e2)]) _
    refine X_1.arraylength hx (by rw [e_1]; exact Ar_2.1) (State.isArrayOf_alike hZ.alike Ar_2.2.1) (g := (mkF mM 4 #[.val (.ref s)] [(.ref e2)])) rfl rfl (hb hby d_jdk_42m54_4) _ ?_
    rw [len_of Sa_2 Na_2]
    refine XS.aloadN X_1.here hx rfl (hb hby d_jdk_42m54_5) rfl rfl ?_
    show oS pP eE below T_1 (mkF mM 6 #[.val (.ref s)] [(.ref s), (.int m)]) _
    refine st_3.trans ?_
    show oS pP eE below T_3 (mkF mM 9 #[.val (.ref s)] [(.int (0 : Int32)), (.int m)]) _
    refine XT.ishr X_3.here hx rfl (hb hby d_jdk_42m54_9) rfl ?_
    show Steps pP.tables eE below (T_3.setTop (mkF mM 10 #[.val (.ref s)] [(.int (m >>> ((0 : Int32) &&& 31)))])) _
    rw [(own_shr0 m)]
    show oS pP eE below T_3 (mkF mM 10 #[.val (.ref s)] [(.int m)]) _
    exact retI X_3 hx Bd.returns (hb hby d_jdk_42m54_10) hr
  · show Q_slen Z s e2 m cs h0 n0 _ T_3.heap _
    rw [eh_3]
    exact ⟨rfl, N_3, rfl⟩
theorem d_jdk_29m65_0 : decode jdk_29_method_65_code 0 = .ok (.iload_n 0, 1) := by decide +kernel
theorem d_jdk_29m65_1 : decode jdk_29_method_65_code 1 = .ok (.iload_n 1, 1) := by decide +kernel
theorem d_jdk_29m65_2 : decode jdk_29_method_65_code 2 = .ok (.if_icmp .lt 7, 3) := by decide +kernel
theorem d_jdk_29m65_9 : decode jdk_29_method_65_code 9 = .ok (.iload_n 1, 1) := by decide +kernel
theorem d_jdk_29m65_10 : decode jdk_29_method_65_code 10 = .ok (.ireturn, 1) := by decide +kernel
theorem ef_max (mM : MethodId) (x0 : Int32) (x1 : Int32) : entryFrame mM #[(.int x0), (.int x1)] 2 = mkF mM 0 #[.val (.int x0), .val (.int x1)] [] := by first | (simp [entryFrame, mkF, argsToLocals, Value.category]; done) | rfl
def Q_max (Z : State) (x1 : Int32) (y1 : Int32) (h0 : Heap) (n0 : Nat) (v_ : Option Value) (h_ : Heap) (L_ : List Loc) : Prop := v_ = some (.int y1) ∧ Fr n0 L_ ∧ h_ = h0
set_option maxRecDepth 65536 in
set_option maxHeartbeats 40000000 in
theorem rm_max (l : Launch) (Z : State) (a0 : Array Value) (hw : ∀ d ∈ tables_1, d.before a0 Z = true) (ws : List Jvm.Cond) (x1 : Int32) (y1 : Int32) (h0 : Heap) (n0 : Nat) (Z0 : n0 ≤ h0.size) (hlt : x1 < y1) :
    MetFree l (⟨"java/lang/Math", "max", "(II)I"⟩ : MethodName) (head1 (Jvm.Cond.code (⟨"java/lang/Math", "max", "(II)I"⟩ : MethodName) jdk_29_method_65_code 2 (some .int) :: ws) oR2) (fun aa_ U_ => aa_ = #[(.int x1), (.int y1)] ∧ Z.Warmed39 U_.vm ∧ U_.heap = h0) (fun _ _ _ _ _ => True) (fun _ U_ o_ U'_ => ∃ v_ L_, o_ = .returned v_ ∧ Q_max Z x1 y1 h0 n0 v_ U'_.heap L_ ∧ FrameEnd U_ o_ U'_ L_ oR2.cells oR2.slots) := by
  refine MetFree.of_bodySF (Jvm.Free.JP.mathPlain rfl (by decide +kernel)) hisR ?_
  intro pP eE sS mM argsA below meth cC s₁ Bd hml0 hP hK
  obtain ⟨rfl, hZ, hh⟩ := hP
  have hx := Bd.exec
  have hby := Bd.bytes
  have hml : cC.maxLocals = 2 := hml0
  have hown : sS.vm.findClass "java/lang/Math" = some mM.cls := findClass_of_methodNamed Bd.named
  have hnm := (name_of_methodNamed Bd.named Bd.method).1
  have X0 : Stand pP l eE oR2 sS mM #[(.int x1), (.int y1)] below meth cC s₁ [] 0 0 := Stand.of_body Bd
  have e0 : s₁.heap = h0 := by rw [← hh, Bd.state]; rfl
  have N0 := Fr.nil n0
  have pre0 : ∀ t_, Steps pP.tables eE below (s₁.setTop (mkF mM 0 #[.val (.int x1), .val (.int y1)] [])) t_ → Steps pP.tables eE below (s₁.setTop (entryFrame mM #[(.int x1), (.int y1)] 2)) t_ := fun t_ k_ => castTop (ef_max mM x1 y1) k_
  obtain ⟨fs, hr, hrun, hended, hW, hsame⟩ := X0.leave (v := some (.int y1)) (fun h => by rw [Bd.returns] at h; cases h)
  refine ⟨_, _, pre0 _ ?_, hrun, hended, _, _, rfl, ?_, ⟨_, rfl⟩, hW, hsame.mono (by decide) (by decide)⟩
  · show oS pP eE below s₁ (mkF mM 0 #[.val (.int x1), .val (.int y1)] []) _
    refine XS.iloadN X0.here hx rfl (hb hby d_jdk_29m65_0) rfl ?_
    refine XS.iloadN X0.here hx rfl (hb hby d_jdk_29m65_1) rfl ?_
    refine XS.icmpYes X0.here hx rfl (pc0 := 2) (pc' := 9) rfl (hb hby d_jdk_29m65_2) rfl (XT.ii_lt_t hlt) (by decide) (by decide) ?_
    refine XS.iloadN X0.here hx rfl (hb hby d_jdk_29m65_9) rfl ?_
    show oS pP eE below s₁ (mkF mM 10 #[.val (.int x1), .val (.int y1)] [(.int y1)]) _
    exact retI X0 hx Bd.returns (hb hby d_jdk_29m65_10) hr
  · show Q_max Z x1 y1 h0 n0 _ s₁.heap _
    rw [e0]
    exact ⟨rfl, N0, rfl⟩
theorem d_jdk_29m69_0 : decode jdk_29_method_69_code 0 = .ok (.iload_n 0, 1) := by decide +kernel
theorem d_jdk_29m69_1 : decode jdk_29_method_69_code 1 = .ok (.iload_n 1, 1) := by decide +kernel
theorem d_jdk_29m69_2 : decode jdk_29_method_69_code 2 = .ok (.if_icmp .gt 7, 3) := by decide +kernel
theorem d_jdk_29m69_9 : decode jdk_29_method_69_code 9 = .ok (.iload_n 1, 1) := by decide +kernel
theorem d_jdk_29m69_10 : decode jdk_29_method_69_code 10 = .ok (.ireturn, 1) := by decide +kernel
theorem ef_min (mM : MethodId) (x0 : Int32) (x1 : Int32) : entryFrame mM #[(.int x0), (.int x1)] 2 = mkF mM 0 #[.val (.int x0), .val (.int x1)] [] := by first | (simp [entryFrame, mkF, argsToLocals, Value.category]; done) | rfl
def Q_min (Z : State) (x1 : Int32) (y1 : Int32) (h0 : Heap) (n0 : Nat) (v_ : Option Value) (h_ : Heap) (L_ : List Loc) : Prop := v_ = some (.int y1) ∧ Fr n0 L_ ∧ h_ = h0
set_option maxRecDepth 65536 in
set_option maxHeartbeats 40000000 in
theorem rm_min (l : Launch) (Z : State) (a0 : Array Value) (hw : ∀ d ∈ tables_1, d.before a0 Z = true) (ws : List Jvm.Cond) (x1 : Int32) (y1 : Int32) (h0 : Heap) (n0 : Nat) (Z0 : n0 ≤ h0.size) (hlt : y1 < x1) :
    MetFree l (⟨"java/lang/Math", "min", "(II)I"⟩ : MethodName) (head1 (Jvm.Cond.code (⟨"java/lang/Math", "min", "(II)I"⟩ : MethodName) jdk_29_method_69_code 2 (some .int) :: ws) oR2) (fun aa_ U_ => aa_ = #[(.int x1), (.int y1)] ∧ Z.Warmed39 U_.vm ∧ U_.heap = h0) (fun _ _ _ _ _ => True) (fun _ U_ o_ U'_ => ∃ v_ L_, o_ = .returned v_ ∧ Q_min Z x1 y1 h0 n0 v_ U'_.heap L_ ∧ FrameEnd U_ o_ U'_ L_ oR2.cells oR2.slots) := by
  refine MetFree.of_bodySF (Jvm.Free.JP.mathPlain rfl (by decide +kernel)) hisR ?_
  intro pP eE sS mM argsA below meth cC s₁ Bd hml0 hP hK
  obtain ⟨rfl, hZ, hh⟩ := hP
  have hx := Bd.exec
  have hby := Bd.bytes
  have hml : cC.maxLocals = 2 := hml0
  have hown : sS.vm.findClass "java/lang/Math" = some mM.cls := findClass_of_methodNamed Bd.named
  have hnm := (name_of_methodNamed Bd.named Bd.method).1
  have X0 : Stand pP l eE oR2 sS mM #[(.int x1), (.int y1)] below meth cC s₁ [] 0 0 := Stand.of_body Bd
  have e0 : s₁.heap = h0 := by rw [← hh, Bd.state]; rfl
  have N0 := Fr.nil n0
  have pre0 : ∀ t_, Steps pP.tables eE below (s₁.setTop (mkF mM 0 #[.val (.int x1), .val (.int y1)] [])) t_ → Steps pP.tables eE below (s₁.setTop (entryFrame mM #[(.int x1), (.int y1)] 2)) t_ := fun t_ k_ => castTop (ef_min mM x1 y1) k_
  obtain ⟨fs, hr, hrun, hended, hW, hsame⟩ := X0.leave (v := some (.int y1)) (fun h => by rw [Bd.returns] at h; cases h)
  refine ⟨_, _, pre0 _ ?_, hrun, hended, _, _, rfl, ?_, ⟨_, rfl⟩, hW, hsame.mono (by decide) (by decide)⟩
  · show oS pP eE below s₁ (mkF mM 0 #[.val (.int x1), .val (.int y1)] []) _
    refine XS.iloadN X0.here hx rfl (hb hby d_jdk_29m69_0) rfl ?_
    refine XS.iloadN X0.here hx rfl (hb hby d_jdk_29m69_1) rfl ?_
    refine XS.icmpYes X0.here hx rfl (pc0 := 2) (pc' := 9) rfl (hb hby d_jdk_29m69_2) rfl (XT.ii_gt_t hlt) (by decide) (by decide) ?_
    refine XS.iloadN X0.here hx rfl (hb hby d_jdk_29m69_9) rfl ?_
    show oS pP eE below s₁ (mkF mM 10 #[.val (.int x1), .val (.int y1)] [(.int y1)]) _
    exact retI X0 hx Bd.returns (hb hby d_jdk_29m69_10) hr
  · show Q_min Z x1 y1 h0 n0 _ s₁.heap _
    rw [e0]
    exact ⟨rfl, N0, rfl⟩
theorem d_jdk_29m69_5 : decode jdk_29_method_69_code 5 = .ok (.iload_n 0, 1) := by decide +kernel
theorem d_jdk_29m69_6 : decode jdk_29_method_69_code 6 = .ok (.goto 4, 3) := by decide +kernel
theorem ef_min0 (mM : MethodId) (x0 : Int32) (x1 : Int32) : entryFrame mM #[(.int x0), (.int x1)] 2 = mkF mM 0 #[.val (.int x0), .val (.int x1)] [] := by first | (simp [entryFrame, mkF, argsToLocals, Value.category]; done) | rfl
def Q_min0 (Z : State)  (h0 : Heap) (n0 : Nat) (v_ : Option Value) (h_ : Heap) (L_ : List Loc) : Prop := v_ = some (.int (16 : Int32)) ∧ Fr n0 L_ ∧ h_ = h0
set_option maxRecDepth 65536 in
set_option maxHeartbeats 40000000 in
theorem rm_min0 (l : Launch) (Z : State) (a0 : Array Value) (hw : ∀ d ∈ tables_1, d.before a0 Z = true) (ws : List Jvm.Cond)  (h0 : Heap) (n0 : Nat) (Z0 : n0 ≤ h0.size) :
    MetFree l (⟨"java/lang/Math", "min", "(II)I"⟩ : MethodName) (head1 (Jvm.Cond.code (⟨"java/lang/Math", "min", "(II)I"⟩ : MethodName) jdk_29_method_69_code 2 (some .int) :: ws) oR2) (fun aa_ U_ => aa_ = #[(.int (16 : Int32)), (.int (34 : Int32))] ∧ Z.Warmed39 U_.vm ∧ U_.heap = h0) (fun _ _ _ _ _ => True) (fun _ U_ o_ U'_ => ∃ v_ L_, o_ = .returned v_ ∧ Q_min0 Z  h0 n0 v_ U'_.heap L_ ∧ FrameEnd U_ o_ U'_ L_ oR2.cells oR2.slots) := by
  refine MetFree.of_bodySF (Jvm.Free.JP.mathPlain rfl (by decide +kernel)) hisR ?_
  intro pP eE sS mM argsA below meth cC s₁ Bd hml0 hP hK
  obtain ⟨rfl, hZ, hh⟩ := hP
  have hx := Bd.exec
  have hby := Bd.bytes
  have hml : cC.maxLocals = 2 := hml0
  have hown : sS.vm.findClass "java/lang/Math" = some mM.cls := findClass_of_methodNamed Bd.named
  have hnm := (name_of_methodNamed Bd.named Bd.method).1
  have X0 : Stand pP l eE oR2 sS mM #[(.int (16 : Int32)), (.int (34 : Int32))] below meth cC s₁ [] 0 0 := Stand.of_body Bd
  have e0 : s₁.heap = h0 := by rw [← hh, Bd.state]; rfl
  have N0 := Fr.nil n0
  have pre0 : ∀ t_, Steps pP.tables eE below (s₁.setTop (mkF mM 0 #[.val (.int (16 : Int32)), .val (.int (34 : Int32))] [])) t_ → Steps pP.tables eE below (s₁.setTop (entryFrame mM #[(.int (16 : Int32)), (.int (34 : Int32))] 2)) t_ := fun t_ k_ => castTop (ef_min0 mM (16 : Int32) (34 : Int32)) k_
  obtain ⟨fs, hr, hrun, hended, hW, hsame⟩ := X0.leave (v := some (.int (16 : Int32))) (fun h => by rw [Bd.returns] at h; cases h)
  refine ⟨_, _, pre0 _ ?_, hrun, hended, _, _, rfl, ?_, ⟨_, rfl⟩, hW, hsame.mono (by decide) (by decide)⟩
  · show oS pP eE below s₁ (mkF mM 0 #[.val (.int (16 : Int32)), .val (.int (34 : Int32))] []) _
    refine XS.iloadN X0.here hx rfl (hb hby d_jdk_29m69_0) rfl ?_
    refine XS.iloadN X0.here hx rfl (hb hby d_jdk_29m69_1) rfl ?_
    refine XS.icmpNo X0.here hx rfl (hb hby d_jdk_29m69_2) rfl (by decide) ?_
    refine XS.iloadN X0.here hx rfl (hb hby d_jdk_29m69_5) rfl ?_
    refine XS.goto X0.here hx rfl (pc0 := 6) (pc' := 10) rfl (hb hby d_jdk_29m69_6) (by decide) (by decide) ?_
    show oS pP eE below s₁ (mkF mM 10 #[.val (.int (16 : Int32)), .val (.int (34 : Int32))] [(.int (16 : Int32))]) _
    exact retI X0 hx Bd.returns (hb hby d_jdk_29m69_10) hr
  · show Q_min0 Z  h0 n0 _ s₁.heap _
    rw [e0]
    exact ⟨rfl, N0, rfl⟩
theorem d_jdk_48m27_0 : decode jdk_48_method_27_code 0 = .ok (.iload_n 0, 1) := by decide +kernel
theorem d_jdk_48m27_1 : decode jdk_48_method_27_code 1 = .ok (.iload_n 1, 1) := by decide +kernel
theorem d_jdk_48m27_2 : decode jdk_48_method_27_code 2 = .ok (.iload_n 2, 1) := by decide +kernel
theorem d_jdk_48m27_3 : decode jdk_48_method_27_code 3 = .ok (.invokestatic 194, 3) := by decide +kernel
theorem pd_2 : parseMethodDescriptor "(II)I" = some ⟨[.int, .int], some .int⟩ := by decide +kernel
abbrev MN2 : MethodName := ⟨"java/lang/Math", "max", "(II)I"⟩
theorem d_jdk_48m27_6 : decode jdk_48_method_27_code 6 = .ok (.iadd, 1) := by decide +kernel
theorem d_jdk_48m27_7 : decode jdk_48_method_27_code 7 = .ok (.istore_n 3, 1) := by decide +kernel
theorem d_jdk_48m27_8 : decode jdk_48_method_27_code 8 = .ok (.iconst 0, 1) := by decide +kernel
theorem d_jdk_48m27_9 : decode jdk_48_method_27_code 9 = .ok (.iload_n 3, 1) := by decide +kernel
theorem d_jdk_48m27_10 : decode jdk_48_method_27_code 10 = .ok (.if_icmp .ge 11, 3) := by decide +kernel
theorem d_jdk_48m27_13 : decode jdk_48_method_27_code 13 = .ok (.iload_n 3, 1) := by decide +kernel
theorem d_jdk_48m27_14 : decode jdk_48_method_27_code 14 = .ok (.ldc 200, 2) := by decide +kernel
theorem d_jdk_48m27_16 : decode jdk_48_method_27_code 16 = .ok (.if_icmp .gt 5, 3) := by decide +kernel
theorem d_jdk_48m27_19 : decode jdk_48_method_27_code 19 = .ok (.iload_n 3, 1) := by decide +kernel
theorem d_jdk_48m27_20 : decode jdk_48_method_27_code 20 = .ok (.ireturn, 1) := by decide +kernel
theorem pn_3 : plainName "jdk/internal/util/ArraysSupport" = true := by first | (simp [plainName, overriddenIn]; done) | decide +kernel
theorem ef_nl (mM : MethodId) (x0 : Int32) (x1 : Int32) (x2 : Int32) : entryFrame mM #[(.int x0), (.int x1), (.int x2)] 4 = mkF mM 0 #[.val (.int x0), .val (.int x1), .val (.int x2), .unset] [] := by first | (simp [entryFrame, mkF, argsToLocals, Value.category]; done) | rfl
def Q_nl (Z : State) (gr : Int32) (h0 : Heap) (n0 : Nat) (v_ : Option Value) (h_ : Heap) (L_ : List Loc) : Prop := v_ = some (.int (34 : Int32)) ∧ Fr n0 L_ ∧ h_ = h0
set_option maxRecDepth 65536 in
set_option maxHeartbeats 40000000 in
theorem rm_nl (l : Launch) (Z : State) (a0 : Array Value) (hw : ∀ d ∈ tables_1, d.before a0 Z = true) (ws : List Jvm.Cond) (gr : Int32) (h0 : Heap) (n0 : Nat) (Z0 : n0 ≤ h0.size) (hlt : gr < (18 : Int32)) :
    MetFree l (⟨"jdk/internal/util/ArraysSupport", "newLength", "(III)I"⟩ : MethodName) (head1 (Jvm.Cond.code (⟨"jdk/internal/util/ArraysSupport", "newLength", "(III)I"⟩ : MethodName) jdk_48_method_27_code 4 (some .int) :: ws) oR4) (fun aa_ U_ => aa_ = #[(.int (16 : Int32)), (.int gr), (.int (18 : Int32))] ∧ Z.Warmed39 U_.vm ∧ U_.heap = h0) (fun _ _ _ _ _ => True) (fun _ U_ o_ U'_ => ∃ v_ L_, o_ = .returned v_ ∧ Q_nl Z gr h0 n0 v_ U'_.heap L_ ∧ FrameEnd U_ o_ U'_ L_ oR4.cells oR4.slots) := by
  refine MetFree.of_bodySF (plainFor_of_name pn_3) hisR ?_
  intro pP eE sS mM argsA below meth cC s₁ Bd hml0 hP hK
  obtain ⟨rfl, hZ, hh⟩ := hP
  have hx := Bd.exec
  have hby := Bd.bytes
  have hml : cC.maxLocals = 4 := hml0
  have hown : sS.vm.findClass "jdk/internal/util/ArraysSupport" = some mM.cls := findClass_of_methodNamed Bd.named
  have hnm := (name_of_methodNamed Bd.named Bd.method).1
  have X0 : Stand pP l eE oR4 sS mM #[(.int (16 : Int32)), (.int gr), (.int (18 : Int32))] below meth cC s₁ [] 0 0 := Stand.of_body Bd
  have e0 : s₁.heap = h0 := by rw [← hh, Bd.state]; rfl
  have N0 := Fr.nil n0
  have pre0 : ∀ t_, Steps pP.tables eE below (s₁.setTop (mkF mM 0 #[.val (.int (16 : Int32)), .val (.int gr), .val (.int (18 : Int32)), .unset] [])) t_ → Steps pP.tables eE below (s₁.setTop (entryFrame mM #[(.int (16 : Int32)), (.int gr), (.int (18 : Int32))] 4)) t_ := fun t_ k_ => castTop (ef_nl mM (16 : Int32) gr (18 : Int32)) k_
  obtain ⟨_, _, ⟨T_1, L_1, k_1, n_1⟩, -, X_1, ⟨Lc_1, hQ_1, l_1, y_1, z_1⟩, st_1⟩ := Jvm.LawKit.callS X0 hx (y := MN2) hown (mvT hZ (ow hw 132 rfl)) (mvT hZ (ow hw 133 rfl)) (mvT hZ (ow hw 134 rfl)) (mvT hZ (ow hw 135 rfl)) (by decide) (backOf (W := 1) (rm_max l Z a0 hw [] gr (18 : Int32) h0 n0 Z0 hlt) hZ (ow hw 135 rfl) (ow hw 134 rfl) (by decide) (by decide)) (g := (mkF mM 3 #[.val (.int (16 : Int32)), .val (.int gr), .val (.int (18 : Int32)), .unset] [(.int (18 : Int32)), (.int gr), (.int (16 : Int32))])) rfl (by rw [hml]; rfl) (argsL := [(.int gr), (.int (18 : Int32))]) (rest := [(.int (16 : Int32))]) (lenOf pd_2 rfl) rfl (by show 2 * 0 + _ ≤ _; exact Nat.le_of_eq rfl) (hb hby d_jdk_48m27_3) (fun _ _ => ⟨rfl, e0, (by decide : 0 + 0 ≤ _), (by decide : 0 + 0 ≤ _)⟩)
  dsimp only [Pt.U, Pt.locs, Pt.cells, Pt.slots] at X_1 l_1 y_1 z_1 st_1 hQ_1
  subst l_1 y_1 z_1
  obtain ⟨rfl, N_1q, eh_1⟩ := hQ_1
  have N_1 := Fr.app N0 N_1q
  obtain ⟨fs, hr, hrun, hended, hW, hsame⟩ := X_1.leave (v := some (.int (34 : Int32))) (fun h => by rw [Bd.returns] at h; cases h)
  refine ⟨_, _, pre0 _ ?_, hrun, hended, _, _, rfl, ?_, ⟨_, rfl⟩, hW, hsame.mono (by decide) (by decide)⟩
  · show oS pP eE below s₁ (mkF mM 0 #[.val (.int (16 : Int32)), .val (.int gr), .val (.int (18 : Int32)), .unset] []) _
    refine XS.iloadN X0.here hx rfl (hb hby d_jdk_48m27_0) rfl ?_
    refine XS.iloadN X0.here hx rfl (hb hby d_jdk_48m27_1) rfl ?_
    refine XS.iloadN X0.here hx rfl (hb hby d_jdk_48m27_2) rfl ?_
    show oS pP eE below s₁ (mkF mM 3 #[.val (.int (16 : Int32)), .val (.int gr), .val (.int (18 : Int32)), .unset] [(.int (18 : Int32)), (.int gr), (.int (16 : Int32))]) _
    refine st_1 _ ?_
    show oS pP eE below T_1 (mkF mM 6 #[.val (.int (16 : Int32)), .val (.int gr), .val (.int (18 : Int32)), .unset] [(.int (18 : Int32)), (.int (16 : Int32))]) _
    refine XS.iadd X_1.here hx rfl (hb hby d_jdk_48m27_6) rfl ?_
    show Steps pP.tables eE below (T_1.setTop (mkF mM 7 #[.val (.int (16 : Int32)), .val (.int gr), .val (.int (18 : Int32)), .unset] [(.int ((16 : Int32) + (18 : Int32)))])) _
    rw [(by decide : ((16 : Int32) + (18 : Int32)) = (34 : Int32))]
    refine XS.istoreN X_1.here hx rfl (hb hby d_jdk_48m27_7) rfl (l' := #[.val (.int (16 : Int32)), .val (.int gr), .val (.int (18 : Int32)), .val (.int (34 : Int32))]) rfl ?_
    refine XS.iconst X_1.here hx rfl (hb hby d_jdk_48m27_8) ?_
    refine XS.iloadN X_1.here hx rfl (hb hby d_jdk_48m27_9) rfl ?_
    refine XS.icmpNo X_1.here hx rfl (hb hby d_jdk_48m27_10) rfl (by decide) ?_
    refine XS.iloadN X_1.here hx rfl (hb hby d_jdk_48m27_13) rfl ?_
    show oS pP eE below T_1 (mkF mM 14 #[.val (.int (16 : Int32)), .val (.int gr), .val (.int (18 : Int32)), .val (.int (34 : Int32))] [(.int (34 : Int32))]) _
    refine X_1.ldcI hx hown (mvT hZ (ow hw 136 rfl)) (g := (mkF mM 14 #[.val (.int (16 : Int32)), .val (.int gr), .val (.int (18 : Int32)), .val (.int (34 : Int32))] [(.int (34 : Int32))])) rfl (hb hby d_jdk_48m27_14) ?_
    refine XS.icmpNo X_1.here hx rfl (hb hby d_jdk_48m27_16) rfl (by decide) ?_
    refine XS.iloadN X_1.here hx rfl (hb hby d_jdk_48m27_19) rfl ?_
    show oS pP eE below T_1 (mkF mM 20 #[.val (.int (16 : Int32)), .val (.int gr), .val (.int (18 : Int32)), .val (.int (34 : Int32))] [(.int (34 : Int32))]) _
    exact retI X_1 hx Bd.returns (hb hby d_jdk_48m27_20) hr
  · show Q_nl Z gr h0 n0 _ T_1.heap _
    rw [eh_1]
    exact ⟨rfl, N_1, rfl⟩
abbrev lc0 (b : Addr) (n : Int32) : Array Slot := #[.val (.ref b), .val (.int n), .unset, .unset, .unset, .unset]
theorem d_jdk_68m10_0 : decode jdk_68_method_10_code 0 = .ok (.aload_n 0, 1) := by decide +kernel
theorem d_jdk_68m10_1 : decode jdk_68_method_10_code 1 = .ok (.getfield 15, 3) := by decide +kernel
theorem d_jdk_68m10_4 : decode jdk_68_method_10_code 4 = .ok (.arraylength, 1) := by decide +kernel
theorem d_jdk_68m10_5 : decode jdk_68_method_10_code 5 = .ok (.istore_n 2, 1) := by decide +kernel
abbrev lc1 (b : Addr) (n : Int32) : Array Slot := #[.val (.ref b), .val (.int n), .val (.int (16 : Int32)), .unset, .unset, .unset]
theorem d_jdk_68m10_6 : decode jdk_68_method_10_code 6 = .ok (.iload_n 1, 1) := by decide +kernel
theorem d_jdk_68m10_7 : decode jdk_68_method_10_code 7 = .ok (.aload_n 0, 1) := by decide +kernel
theorem d_jdk_68m10_8 : decode jdk_68_method_10_code 8 = .ok (.getfield 22, 3) := by decide +kernel
theorem d_jdk_68m10_11 : decode jdk_68_method_10_code 11 = .ok (.ishl, 1) := by decide +kernel
theorem d_jdk_68m10_12 : decode jdk_68_method_10_code 12 = .ok (.istore_n 3, 1) := by decide +kernel
abbrev lc2 (b : Addr) (n : Int32) : Array Slot := #[.val (.ref b), .val (.int n), .val (.int (16 : Int32)), .val (.int n), .unset, .unset]
theorem d_jdk_68m10_13 : decode jdk_68_method_10_code 13 = .ok (.iload_n 3, 1) := by decide +kernel
theorem d_jdk_68m10_14 : decode jdk_68_method_10_code 14 = .ok (.iload_n 2, 1) := by decide +kernel
theorem d_jdk_68m10_15 : decode jdk_68_method_10_code 15 = .ok (.isub, 1) := by decide +kernel
theorem d_jdk_68m10_16 : decode jdk_68_method_10_code 16 = .ok (.istore 4, 2) := by decide +kernel
abbrev lc3 (b : Addr) (n : Int32) : Array Slot := #[.val (.ref b), .val (.int n), .val (.int (16 : Int32)), .val (.int n), .val (.int (n - (16 : Int32))), .unset]
theorem d_jdk_68m10_18 : decode jdk_68_method_10_code 18 = .ok (.iload_n 2, 1) := by decide +kernel
theorem d_jdk_68m10_19 : decode jdk_68_method_10_code 19 = .ok (.iload 4, 2) := by decide +kernel
theorem d_jdk_68m10_21 : decode jdk_68_method_10_code 21 = .ok (.iload_n 2, 1) := by decide +kernel
theorem d_jdk_68m10_22 : decode jdk_68_method_10_code 22 = .ok (.iconst 2, 1) := by decide +kernel
theorem d_jdk_68m10_23 : decode jdk_68_method_10_code 23 = .ok (.aload_n 0, 1) := by decide +kernel
theorem d_jdk_68m10_24 : decode jdk_68_method_10_code 24 = .ok (.getfield 22, 3) := by decide +kernel
theorem d_jdk_68m10_27 : decode jdk_68_method_10_code 27 = .ok (.ishl, 1) := by decide +kernel
theorem d_jdk_68m10_28 : decode jdk_68_method_10_code 28 = .ok (.iadd, 1) := by decide +kernel
theorem d_jdk_68m10_29 : decode jdk_68_method_10_code 29 = .ok (.invokestatic 114, 3) := by decide +kernel
theorem pd_3 : parseMethodDescriptor "(III)I" = some ⟨[.int, .int, .int], some .int⟩ := by decide +kernel
abbrev MN3 : MethodName := ⟨"jdk/internal/util/ArraysSupport", "newLength", "(III)I"⟩
theorem d_jdk_68m10_32 : decode jdk_68_method_10_code 32 = .ok (.istore 5, 2) := by decide +kernel
abbrev lc4 (b : Addr) (n : Int32) : Array Slot := #[.val (.ref b), .val (.int n), .val (.int (16 : Int32)), .val (.int n), .val (.int (n - (16 : Int32))), .val (.int (34 : Int32))]
theorem d_jdk_68m10_34 : decode jdk_68_method_10_code 34 = .ok (.iload 5, 2) := by decide +kernel
theorem d_jdk_68m10_36 : decode jdk_68_method_10_code 36 = .ok (.ldc 39, 2) := by decide +kernel
theorem d_jdk_68m10_38 : decode jdk_68_method_10_code 38 = .ok (.if_icmp .ne 13, 3) := by decide +kernel
theorem d_jdk_68m10_51 : decode jdk_68_method_10_code 51 = .ok (.iload 5, 2) := by decide +kernel
theorem d_jdk_68m10_53 : decode jdk_68_method_10_code 53 = .ok (.aload_n 0, 1) := by decide +kernel
theorem d_jdk_68m10_54 : decode jdk_68_method_10_code 54 = .ok (.getfield 22, 3) := by decide +kernel
theorem d_jdk_68m10_57 : decode jdk_68_method_10_code 57 = .ok (.ishr, 1) := by decide +kernel
theorem d_jdk_68m10_58 : decode jdk_68_method_10_code 58 = .ok (.ireturn, 1) := by decide +kernel
theorem ef_nc (mM : MethodId) (x0 : Addr) (x1 : Int32) : entryFrame mM #[(.ref x0), (.int x1)] 6 = mkF mM 0 #[.val (.ref x0), .val (.int x1), .unset, .unset, .unset, .unset] [] := by first | (simp [entryFrame, mkF, argsToLocals, Value.category]; done) | rfl
def Q_nc (Z : State) (b : Addr) (d : Addr) (n : Int32) (h0 : Heap) (n0 : Nat) (v_ : Option Value) (h_ : Heap) (L_ : List Loc) : Prop := v_ = some (.int (34 : Int32)) ∧ Fr n0 L_ ∧ h_ = h0
set_option maxRecDepth 65536 in
set_option maxHeartbeats 40000000 in
theorem rm_nc (l : Launch) (Z : State) (a0 : Array Value) (hw : ∀ d ∈ tables_1, d.before a0 Z = true) (ws : List Jvm.Cond) (b : Addr) (d : Addr) (n : Int32) (h0 : Heap) (n0 : Nat) (Z0 : n0 ≤ h0.size) (F_value_b : Fld Z h0 b "java/lang/AbstractStringBuilder" "value" "[B" (.ref d)) (F_coder_b : Fld Z h0 b "java/lang/AbstractStringBuilder" "coder" "B" (.int (0 : Int32))) (B_d : own_B Z h0 d (16 : Int32)) (hlt : (n - (16 : Int32)) < (18 : Int32)) :
    MetFree l (⟨"java/lang/AbstractStringBuilder", "newCapacity", "(I)I"⟩ : MethodName) (head1 (Jvm.Cond.code (⟨"java/lang/AbstractStringBuilder", "newCapacity", "(I)I"⟩ : MethodName) jdk_68_method_10_code 6 (some .int) :: ws) oR5) (fun aa_ U_ => aa_ = #[(.ref b), (.int n)] ∧ Z.Warmed39 U_.vm ∧ U_.heap = h0) (fun _ _ _ _ _ => True) (fun _ U_ o_ U'_ => ∃ v_ L_, o_ = .returned v_ ∧ Q_nc Z b d n h0 n0 v_ U'_.heap L_ ∧ FrameEnd U_ o_ U'_ L_ oR5.cells oR5.slots) := by
  refine MetFree.of_bodySF (plainFor_of_name pn_0) hisR ?_
  intro pP eE sS mM argsA below meth cC s₁ Bd hml0 hP hK
  obtain ⟨rfl, hZ, hh⟩ := hP
  have hx := Bd.exec
  have hby := Bd.bytes
  have hml : cC.maxLocals = 6 := hml0
  have hown : sS.vm.findClass "java/lang/AbstractStringBuilder" = some mM.cls := findClass_of_methodNamed Bd.named
  have hnm := (name_of_methodNamed Bd.named Bd.method).1
  have X0 : Stand pP l eE oR5 sS mM #[(.ref b), (.int n)] below meth cC s₁ [] 0 0 := Stand.of_body Bd
  have e0 : s₁.heap = h0 := by rw [← hh, Bd.state]; rfl
  have N0 := Fr.nil n0
  have pre0 : ∀ t_, Steps pP.tables eE below (s₁.setTop (mkF mM 0 #[.val (.ref b), .val (.int n), .unset, .unset, .unset, .unset] [])) t_ → Steps pP.tables eE below (s₁.setTop (entryFrame mM #[(.ref b), (.int n)] 6)) t_ := fun t_ k_ => castTop (ef_nc mM b n) k_
  obtain ⟨T_1, X_1, e_1, st_1⟩ := getF X0 hx hZ hown (host := "") (Or.inl (ow hw 39 rfl)) Via.refl e0 F_value_b (g := (mkF mM 1 (lc0 b n) [(.ref b)])) rfl rfl (hb hby d_jdk_68m10_1)
  obtain ⟨kk_2, vs_2, ⟨cl_2, Ar_2, -, Sa_2, Na_2, -, -⟩, -⟩ := id B_d
  obtain ⟨T_3, X_3, e_3, st_3⟩ := getF X_1 hx hZ hown (host := "") (Or.inl (ow hw 41 rfl)) Via.refl e_1 F_coder_b (g := (mkF mM 8 (lc1 b n) [(.ref b), (.int n)])) rfl rfl (hb hby d_jdk_68m10_8)
  obtain ⟨T_4, X_4, e_4, st_4⟩ := getF X_3 hx hZ hown (host := "") (Or.inl (ow hw 41 rfl)) Via.refl e_3 F_coder_b (g := (mkF mM 24 (lc3 b n) [(.ref b), (.int (2 : Int32)), (.int (16 : Int32)), (.int (n - (16 : Int32))), (.int (16 : Int32))])) rfl rfl (hb hby d_jdk_68m10_24)
  obtain ⟨_, _, ⟨T_5, L_5, k_5, n_5⟩, -, X_5, ⟨Lc_5, hQ_5, l_5, y_5, z_5⟩, st_5⟩ := Jvm.LawKit.callS X_4 hx (y := MN3) hown (mvT hZ (ow hw 128 rfl)) (mvT hZ (ow hw 129 rfl)) (mvT hZ (ow hw 130 rfl)) (mvT hZ (ow hw 131 rfl)) (by decide) (backOf (W := 0) (rm_nl l Z a0 hw [] (n - (16 : Int32)) h0 n0 Z0 hlt) hZ (ow hw 131 rfl) (ow hw 130 rfl) (by decide) (by decide)) (g := (mkF mM 29 (lc3 b n) [(.int (18 : Int32)), (.int (n - (16 : Int32))), (.int (16 : Int32))])) rfl (by rw [hml]; rfl) (argsL := [(.int (16 : Int32)), (.int (n - (16 : Int32))), (.int (18 : Int32))]) (rest := []) (lenOf pd_3 rfl) rfl (by show 2 * 0 + _ ≤ _; exact Nat.le_of_eq rfl) (hb hby d_jdk_68m10_29) (fun _ _ => ⟨rfl, e_4, (by decide : 0 + 0 ≤ _), (by decide : 0 + 0 ≤ _)⟩)
  dsimp only [Pt.U, Pt.locs, Pt.cells, Pt.slots] at X_5 l_5 y_5 z_5 st_5 hQ_5
  subst l_5 y_5 z_5
  obtain ⟨rfl, N_5q, eh_5⟩ := hQ_5
  have N_5 := Fr.app N0 N_5q
  obtain ⟨T_6, X_6, e_6, st_6⟩ := getF X_5 hx hZ hown (host := "") (Or.inl (ow hw 41 rfl)) Via.refl eh_5 F_coder_b (g := (mkF mM 54 (lc4 b n) [(.ref b), (.int (34 : Int32))])) rfl rfl (hb hby d_jdk_68m10_54)
  obtain ⟨fs, hr, hrun, hended, hW, hsame⟩ := X_6.leave (v := some (.int (34 : Int32))) (fun h => by rw [Bd.returns] at h; cases h)
  refine ⟨_, _, pre0 _ ?_, hrun, hended, _, _, rfl, ?_, ⟨_, rfl⟩, hW, hsame.mono (by decide) (by decide)⟩
  · show oS pP eE below s₁ (mkF mM 0 (lc0 b n) []) _
    refine XS.aloadN X0.here hx rfl (hb hby d_jdk_68m10_0) rfl rfl ?_
    show oS pP eE below s₁ (mkF mM 1 (lc0 b n) [(.ref b)]) _
    refine st_1 _ ?_
    show oS pP eE below T_1 (mkF mM 4 (lc0 b n) [(.ref d)]) _
    refine X_1.arraylength hx (by rw [e_1]; exact Ar_2.1) (State.isArrayOf_alike hZ.alike Ar_2.2.1) (g := (mkF mM 4 (lc0 b n) [(.ref d)])) rfl rfl (hb hby d_jdk_68m10_4) _ ?_
    rw [len_of Sa_2 Na_2]
    refine XS.istoreN X_1.here hx rfl (hb hby d_jdk_68m10_5) rfl (l' := (lc1 b n)) rfl ?_
    refine XS.iloadN X_1.here hx rfl (hb hby d_jdk_68m10_6) rfl ?_
    refine XS.aloadN X_1.here hx rfl (hb hby d_jdk_68m10_7) rfl rfl ?_
    show oS pP eE below T_1 (mkF mM 8 (lc1 b n) [(.ref b), (.int n)]) _
    refine st_3 _ ?_
    show oS pP eE below T_3 (mkF mM 11 (lc1 b n) [(.int (0 : Int32)), (.int n)]) _
    refine XT.ishl X_3.here hx rfl (hb hby d_jdk_68m10_11) rfl ?_
    show Steps pP.tables eE below (T_3.setTop (mkF mM 12 (lc1 b n) [(.int (n <<< ((0 : Int32) &&& 31)))])) _
    rw [(own_shl0 n)]
    refine XS.istoreN X_3.here hx rfl (hb hby d_jdk_68m10_12) rfl (l' := (lc2 b n)) rfl ?_
    refine XS.iloadN X_3.here hx rfl (hb hby d_jdk_68m10_13) rfl ?_
    refine XS.iloadN X_3.here hx rfl (hb hby d_jdk_68m10_14) rfl ?_
    show oS pP eE below T_3 (mkF mM 15 (lc2 b n) [(.int (16 : Int32)), (.int n)]) _
    refine XS.isub X_3.here hx rfl (hb hby d_jdk_68m10_15) rfl ?_
    refine XS.istore X_3.here hx rfl (hb hby d_jdk_68m10_16) rfl (l' := (lc3 b n)) rfl ?_
    refine XS.iloadN X_3.here hx rfl (hb hby d_jdk_68m10_18) rfl ?_
    refine XS.iload X_3.here hx rfl (hb hby d_jdk_68m10_19) rfl ?_
    refine XS.iloadN X_3.here hx rfl (hb hby d_jdk_68m10_21) rfl ?_
    refine XS.iconst X_3.here hx rfl (hb hby d_jdk_68m10_22) ?_
    refine XS.aloadN X_3.here hx rfl (hb hby d_jdk_68m10_23) rfl rfl ?_
    show oS pP eE below T_3 (mkF mM 24 (lc3 b n) [(.ref b), (.int (2 : Int32)), (.int (16 : Int32)), (.int (n - (16 : Int32))), (.int (16 : Int32))]) _
    refine st_4 _ ?_
    show oS pP eE below T_4 (mkF mM 27 (lc3 b n) [(.int (0 : Int32)), (.int (2 : Int32)), (.int (16 : Int32)), (.int (n - (16 : Int32))), (.int (16 : Int32))]) _
    refine XT.ishl X_4.here hx rfl (hb hby d_jdk_68m10_27) rfl ?_
    show Steps pP.tables eE below (T_4.setTop (mkF mM 28 (lc3 b n) [(.int ((2 : Int32) <<< ((0 : Int32) &&& 31))), (.int (16 : Int32)), (.int (n - (16 : Int32))), (.int (16 : Int32))])) _
    rw [(by decide : ((2 : Int32) <<< ((0 : Int32) &&& 31)) = (2 : Int32))]
    show oS pP eE below T_4 (mkF mM 28 (lc3 b n) [(.int (2 : Int32)), (.int (16 : Int32)), (.int (n - (16 : Int32))), (.int (16 : Int32))]) _
    refine XS.iadd X_4.here hx rfl (hb hby d_jdk_68m10_28) rfl ?_
    show Steps pP.tables eE below (T_4.setTop (mkF mM 29 (lc3 b n) [(.int ((16 : Int32) + (2 : Int32))), (.int (n - (16 : Int32))), (.int (16 : Int32))])) _
    rw [(by decide : ((16 : Int32) + (2 : Int32)) = (18 : Int32))]
    show oS pP eE below T_4 (mkF mM 29 (lc3 b n) [(.int (18 : Int32)), (.int (n - (16 : Int32))), (.int (16 : Int32))]) _
    refine st_5 _ ?_
    show oS pP eE below T_5 (mkF mM 32 (lc3 b n) [(.int (34 : Int32))]) _
    refine XS.istore X_5.here hx rfl (hb hby d_jdk_68m10_32) rfl (l' := (lc4 b n)) rfl ?_
    refine XS.iload X_5.here hx rfl (hb hby d_jdk_68m10_34) rfl ?_
    show oS pP eE below T_5 (mkF mM 36 (lc4 b n) [(.int (34 : Int32))]) _
    refine X_5.ldcI hx hown (mvT hZ (ow hw 137 rfl)) (g := (mkF mM 36 (lc4 b n) [(.int (34 : Int32))])) rfl (hb hby d_jdk_68m10_36) ?_
    refine XS.icmpYes X_5.here hx rfl (pc0 := 38) (pc' := 51) rfl (hb hby d_jdk_68m10_38) rfl (by decide) (by decide) (by decide) ?_
    refine XS.iload X_5.here hx rfl (hb hby d_jdk_68m10_51) rfl ?_
    refine XS.aloadN X_5.here hx rfl (hb hby d_jdk_68m10_53) rfl rfl ?_
    show oS pP eE below T_5 (mkF mM 54 (lc4 b n) [(.ref b), (.int (34 : Int32))]) _
    refine st_6 _ ?_
    show oS pP eE below T_6 (mkF mM 57 (lc4 b n) [(.int (0 : Int32)), (.int (34 : Int32))]) _
    refine XT.ishr X_6.here hx rfl (hb hby d_jdk_68m10_57) rfl ?_
    show Steps pP.tables eE below (T_6.setTop (mkF mM 58 (lc4 b n) [(.int ((34 : Int32) >>> ((0 : Int32) &&& 31)))])) _
    rw [(by decide : ((34 : Int32) >>> ((0 : Int32) &&& 31)) = (34 : Int32))]
    show oS pP eE below T_6 (mkF mM 58 (lc4 b n) [(.int (34 : Int32))]) _
    exact retI X_6 hx Bd.returns (hb hby d_jdk_68m10_58) hr
  · show Q_nc Z b d n h0 n0 _ T_6.heap _
    rw [e_6]
    exact ⟨rfl, N_5, rfl⟩
theorem d_jdk_65m121_0 : decode jdk_65_method_121_code 0 = .ok (.iload_n 1, 1) := by decide +kernel
theorem d_jdk_65m121_1 : decode jdk_65_method_121_code 1 = .ok (.aload_n 0, 1) := by decide +kernel
theorem d_jdk_65m121_2 : decode jdk_65_method_121_code 2 = .ok (.arraylength, 1) := by decide +kernel
theorem d_jdk_65m121_3 : decode jdk_65_method_121_code 3 = .ok (.if_icmp .ne 11, 3) := by decide +kernel
theorem d_jdk_65m121_14 : decode jdk_65_method_121_code 14 = .ok (.iload_n 1, 1) := by decide +kernel
theorem d_jdk_65m121_15 : decode jdk_65_method_121_code 15 = .ok (.newarray .byte, 2) := by decide +kernel
theorem d_jdk_65m121_17 : decode jdk_65_method_121_code 17 = .ok (.astore_n 2, 1) := by decide +kernel
theorem d_jdk_65m121_18 : decode jdk_65_method_121_code 18 = .ok (.aload_n 0, 1) := by decide +kernel
theorem d_jdk_65m121_19 : decode jdk_65_method_121_code 19 = .ok (.iconst 0, 1) := by decide +kernel
theorem d_jdk_65m121_20 : decode jdk_65_method_121_code 20 = .ok (.aload_n 2, 1) := by decide +kernel
theorem d_jdk_65m121_21 : decode jdk_65_method_121_code 21 = .ok (.iconst 0, 1) := by decide +kernel
theorem d_jdk_65m121_22 : decode jdk_65_method_121_code 22 = .ok (.aload_n 0, 1) := by decide +kernel
theorem d_jdk_65m121_23 : decode jdk_65_method_121_code 23 = .ok (.arraylength, 1) := by decide +kernel
theorem d_jdk_65m121_24 : decode jdk_65_method_121_code 24 = .ok (.iload_n 1, 1) := by decide +kernel
theorem d_jdk_65m121_25 : decode jdk_65_method_121_code 25 = .ok (.invokestatic 304, 3) := by decide +kernel
abbrev MN4 : MethodName := ⟨"java/lang/Math", "min", "(II)I"⟩
theorem d_jdk_65m121_28 : decode jdk_65_method_121_code 28 = .ok (.invokestatic 150, 3) := by decide +kernel
theorem d_jdk_65m121_31 : decode jdk_65_method_121_code 31 = .ok (.aload_n 2, 1) := by decide +kernel
theorem d_jdk_65m121_32 : decode jdk_65_method_121_code 32 = .ok (.areturn, 1) := by decide +kernel
theorem pn_4 : plainName "java/util/Arrays" = true := by first | (simp [plainName, overriddenIn]; done) | decide +kernel
theorem ef_cof (mM : MethodId) (x0 : Addr) (x1 : Int32) : entryFrame mM #[(.ref x0), (.int x1)] 3 = mkF mM 0 #[.val (.ref x0), .val (.int x1), .unset] [] := by first | (simp [entryFrame, mkF, argsToLocals, Value.category]; done) | rfl
def Q_cof (Z : State) (d : Addr) (h0 : Heap) (n0 : Nat) (v_ : Option Value) (h_ : Heap) (L_ : List Loc) : Prop := ∃ d2 : Addr, v_ = some (.ref d2) ∧ Fr n0 L_ ∧ Keep h0 h_ [] ∧ h0.size ≤ d2 ∧ own_B Z h_ d2 (34 : Int32)
set_option maxRecDepth 65536 in
set_option maxHeartbeats 40000000 in
theorem rm_cof (l : Launch) (Z : State) (a0 : Array Value) (hw : ∀ d ∈ tables_1, d.before a0 Z = true) (ws : List Jvm.Cond) (d : Addr) (h0 : Heap) (n0 : Nat) (Z0 : n0 ≤ h0.size) (B_d : own_B Z h0 d (16 : Int32)) :
    MetFree l (⟨"java/util/Arrays", "copyOf", "([BI)[B"⟩ : MethodName) (head1 (Jvm.Cond.code (⟨"java/util/Arrays", "copyOf", "([BI)[B"⟩ : MethodName) jdk_65_method_121_code 3 (some (.array .byte)) :: ws) oR6) (fun aa_ U_ => aa_ = #[(.ref d), (.int (34 : Int32))] ∧ Z.Warmed39 U_.vm ∧ U_.heap = h0) (fun _ _ _ _ _ => True) (fun _ U_ o_ U'_ => ∃ v_ L_, o_ = .returned v_ ∧ Q_cof Z d h0 n0 v_ U'_.heap L_ ∧ FrameEnd U_ o_ U'_ L_ oR6.cells oR6.slots) := by
  refine MetFree.of_bodySF (plainFor_of_name pn_4) hisR ?_
  intro pP eE sS mM argsA below meth cC s₁ Bd hml0 hP hK
  obtain ⟨rfl, hZ, hh⟩ := hP
  have hx := Bd.exec
  have hby := Bd.bytes
  have hml : cC.maxLocals = 3 := hml0
  have hown : sS.vm.findClass "java/util/Arrays" = some mM.cls := findClass_of_methodNamed Bd.named
  have hnm := (name_of_methodNamed Bd.named Bd.method).1
  have X0 : Stand pP l eE oR6 sS mM #[(.ref d), (.int (34 : Int32))] below meth cC s₁ [] 0 0 := Stand.of_body Bd
  have e0 : s₁.heap = h0 := by rw [← hh, Bd.state]; rfl
  have N0 := Fr.nil n0
  have pre0 : ∀ t_, Steps pP.tables eE below (s₁.setTop (mkF mM 0 #[.val (.ref d), .val (.int (34 : Int32)), .unset] [])) t_ → Steps pP.tables eE below (s₁.setTop (entryFrame mM #[(.ref d), (.int (34 : Int32))] 3)) t_ := fun t_ k_ => castTop (ef_cof mM d (34 : Int32)) k_
  obtain ⟨kk_1, vs_1, ⟨cl_1, Ar_1, -, Sa_1, Na_1, -, -⟩, -⟩ := id B_d
  obtain ⟨T_2, h_2, k_2, X_2, e_2, E_2, A_2, st_2⟩ := newP X0 hx hZ (ow hw 38 rfl) e0 (g := (mkF mM 15 #[.val (.ref d), .val (.int (34 : Int32)), .unset] [(.int (34 : Int32))])) rfl (hb hby d_jdk_65m121_15) rfl (by decide) (cap := 34) (by decide) (by decide) (by decide) (by decide)
  obtain ⟨b_2, g_2⟩ : ∃ z, z = h0.size := ⟨_, rfl⟩
  rw [← g_2] at A_2 st_2
  have g_b_2 : n0 ≤ b_2 := Nat.le_trans Z0 (Nat.le_of_eq g_2.symm)
  have sz_b_2 : h0.size ≤ b_2 := Nat.le_trans (Keep.refl h0 []).1 (Nat.le_of_eq g_2.symm)
  have Z_2 : n0 ≤ h_2.size := (Nat.le_trans Z0 E_2.1)
  have K_2 : Keep h0 h_2 [] := (Keep.refl h0 []).ext E_2
  have B_b_2 : own_B Z h_2 b_2 (34 : Int32) := own_B.new A_2 (by decide)
  obtain ⟨kk_3, vs_3, ⟨cl_3, Ar_3, -, Sa_3, Na_3, -, -⟩, -⟩ := id (B_d.ext E_2)
  obtain ⟨_, _, ⟨T_4, L_4, k_4, n_4⟩, -, X_4, ⟨Lc_4, hQ_4, l_4, y_4, z_4⟩, st_4⟩ := Jvm.LawKit.callS X_2 hx (y := MN4) hown (mvT hZ (ow hw 142 rfl)) (mvT hZ (ow hw 143 rfl)) (mvT hZ (ow hw 134 rfl)) (mvT hZ (ow hw 144 rfl)) (by decide) (backOf (W := 4) (rm_min0 l Z a0 hw []  h_2 n0 Z_2 ) hZ (ow hw 144 rfl) (ow hw 134 rfl) (by decide) (by decide)) (g := (mkF mM 25 #[.val (.ref d), .val (.int (34 : Int32)), .val (.ref b_2)] [(.int (34 : Int32)), (.int (16 : Int32)), (.int (0 : Int32)), (.ref b_2), (.int (0 : Int32)), (.ref d)])) rfl (by rw [hml]; rfl) (argsL := [(.int (16 : Int32)), (.int (34 : Int32))]) (rest := [(.int (0 : Int32)), (.ref b_2), (.int (0 : Int32)), (.ref d)]) (lenOf pd_2 rfl) rfl (by show 2 * 0 + _ ≤ _; exact Nat.le_of_eq rfl) (hb hby d_jdk_65m121_25) (fun _ _ => ⟨rfl, e_2, (by decide : 1 + 0 ≤ _), (by decide : 34 + 0 ≤ _)⟩)
  dsimp only [Pt.U, Pt.locs, Pt.cells, Pt.slots] at X_4 l_4 y_4 z_4 st_4 hQ_4
  subst l_4 y_4 z_4
  obtain ⟨rfl, N_4q, eh_4⟩ := hQ_4
  have N_4 := Fr.app N0 N_4q
  have cpb_5 : own_cp (0 : Int32) (0 : Int32) (16 : Int32) (16 : Int32) (34 : Int32) := (by unfold own_cp; decide)
  obtain ⟨ka_5, va_5, Aa_5, la_5⟩ := id (B_d.ext E_2)
  obtain ⟨kb_5, vb_5, Ab_5, lb_5⟩ := id B_b_2
  obtain ⟨T_5, h_5, L_5, X_5, e_5, N_5, Kc_5, Vq_5, st_5⟩ := cpA X_4 hx hZ hown (ow hw 145 rfl) (ow hw 98 rfl) (ow hw 96 rfl) (ow hw 97 rfl) eh_4 Aa_5 Ab_5 (Or.inl ⟨rfl, rfl⟩) (sp := (0 : Int32)) (dp := (0 : Int32)) (nn := (16 : Int32)) cpb_5.1 cpb_5.2.1 cpb_5.2.2.1 cpb_5.2.2.2.1 cpb_5.2.2.2.2 rfl (Nat.le_trans cpb_5.2.2.2.2 lb_5) N_4 g_b_2 (g := (mkF mM 28 #[.val (.ref d), .val (.int (34 : Int32)), .val (.ref b_2)] [(.int (16 : Int32)), (.int (0 : Int32)), (.ref b_2), (.int (0 : Int32)), (.ref d)])) rfl (by rw [hml]; rfl) rfl (hb hby d_jdk_65m121_28) (by decide) (W := 0) (by show 2 * 0 + _ ≤ _; exact Nat.le_of_eq rfl) (by decide)
  have Z_5 : n0 ≤ h_5.size := (Nat.le_trans Z_2 Kc_5.1)
  have K_5 : Keep h0 h_5 [] := K_2.trans Kc_5 (allS (Or.inr sz_b_2) all0)
  have Bq_5 : own_B Z h_5 b_2 (34 : Int32) := own_B.cp Vq_5 (Nat.le_trans cpb_5.2.2.2.2 lb_5) lb_5
  obtain ⟨fs, hr, hrun, hended, hW, hsame⟩ := X_5.leave (v := some (.ref b_2)) (fun h => by rw [Bd.returns] at h; cases h)
  refine ⟨_, _, pre0 _ ?_, hrun, hended, _, _, rfl, ?_, ⟨_, rfl⟩, hW, hsame.mono (by decide) (by decide)⟩
  · show oS pP eE below s₁ (mkF mM 0 #[.val (.ref d), .val (.int (34 : Int32)), .unset] []) _
    refine XS.iloadN X0.here hx rfl (hb hby d_jdk_65m121_0) rfl ?_
    refine XS.aloadN X0.here hx rfl (hb hby d_jdk_65m121_1) rfl rfl ?_
    show oS pP eE below s₁ (mkF mM 2 #[.val (.ref d), .val (.int (34 : Int32)), .unset] [(.ref d), (.int (34 : Int32))]) _
    refine X0.arraylength hx (by rw [e0]; exact Ar_1.1) (State.isArrayOf_alike hZ.alike Ar_1.2.1) (g := (mkF mM 2 #[.val (.ref d), .val (.int (34 : Int32)), .unset] [(.ref d), (.int (34 : Int32))])) rfl rfl (hb hby d_jdk_65m121_2) _ ?_
    rw [len_of Sa_1 Na_1]
    refine XS.icmpYes X0.here hx rfl (pc0 := 3) (pc' := 14) rfl (hb hby d_jdk_65m121_3) rfl (by decide) (by decide) (by decide) ?_
    refine XS.iloadN X0.here hx rfl (hb hby d_jdk_65m121_14) rfl ?_
    show oS pP eE below s₁ (mkF mM 15 #[.val (.ref d), .val (.int (34 : Int32)), .unset] [(.int (34 : Int32))]) _
    refine st_2 _ ?_
    show oS pP eE below T_2 (mkF mM 17 #[.val (.ref d), .val (.int (34 : Int32)), .unset] [(.ref b_2)]) _
    refine XS.astoreN X_2.here hx rfl (hb hby d_jdk_65m121_17) rfl rfl (l' := #[.val (.ref d), .val (.int (34 : Int32)), .val (.ref b_2)]) rfl ?_
    refine XS.aloadN X_2.here hx rfl (hb hby d_jdk_65m121_18) rfl rfl ?_
    refine XS.iconst X_2.here hx rfl (hb hby d_jdk_65m121_19) ?_
    refine XS.aloadN X_2.here hx rfl (hb hby d_jdk_65m121_20) rfl rfl ?_
    refine XS.iconst X_2.here hx rfl (hb hby d_jdk_65m121_21) ?_
    refine XS.aloadN X_2.here hx rfl (hb hby d_jdk_65m121_22) rfl rfl ?_
    show oS pP eE below T_2 (mkF mM 23 #[.val (.ref d), .val (.int (34 : Int32)), .val (.ref b_2)] [(.ref d), (.int (0 : Int32)), (.ref b_2), (.int (0 : Int32)), (.ref d)]) _
    refine X_2.arraylength hx (by rw [e_2]; exact Ar_3.1) (State.isArrayOf_alike hZ.alike Ar_3.2.1) (g := (mkF mM 23 #[.val (.ref d), .val (.int (34 : Int32)), .val (.ref b_2)] [(.ref d), (.int (0 : Int32)), (.ref b_2), (.int (0 : Int32)), (.ref d)])) rfl rfl (hb hby d_jdk_65m121_23) _ ?_
    rw [len_of Sa_3 Na_3]
    refine XS.iloadN X_2.here hx rfl (hb hby d_jdk_65m121_24) rfl ?_
    show oS pP eE below T_2 (mkF mM 25 #[.val (.ref d), .val (.int (34 : Int32)), .val (.ref b_2)] [(.int (34 : Int32)), (.int (16 : Int32)), (.int (0 : Int32)), (.ref b_2), (.int (0 : Int32)), (.ref d)]) _
    refine st_4 _ ?_
    show oS pP eE below T_4 (mkF mM 28 #[.val (.ref d), .val (.int (34 : Int32)), .val (.ref b_2)] [(.int (16 : Int32)), (.int (0 : Int32)), (.ref b_2), (.int (0 : Int32)), (.ref d)]) _
    refine st_5 _ ?_
    show oS pP eE below T_5 (mkF mM 31 #[.val (.ref d), .val (.int (34 : Int32)), .val (.ref b_2)] []) _
    refine XS.aloadN X_5.here hx rfl (hb hby d_jdk_65m121_31) rfl rfl ?_
    show oS pP eE below T_5 (mkF mM 32 #[.val (.ref d), .val (.int (34 : Int32)), .val (.ref b_2)] [(.ref b_2)]) _
    exact retOut X_5 hx Bd.returns rfl (Or.inr (Or.inr (Or.inr (Or.inr ⟨rfl, rfl, rfl⟩)))) (hb hby d_jdk_65m121_32) hr
  · show Q_cof Z d h0 n0 _ T_5.heap _
    rw [e_5]
    exact ⟨b_2, rfl, N_5, K_5, sz_b_2, Bq_5⟩
theorem d_jdk_68m9_0 : decode jdk_68_method_9_code 0 = .ok (.aload_n 0, 1) := by decide +kernel
theorem d_jdk_68m9_1 : decode jdk_68_method_9_code 1 = .ok (.getfield 15, 3) := by decide +kernel
theorem d_jdk_68m9_4 : decode jdk_68_method_9_code 4 = .ok (.arraylength, 1) := by decide +kernel
theorem d_jdk_68m9_5 : decode jdk_68_method_9_code 5 = .ok (.aload_n 0, 1) := by decide +kernel
theorem d_jdk_68m9_6 : decode jdk_68_method_9_code 6 = .ok (.getfield 22, 3) := by decide +kernel
theorem d_jdk_68m9_9 : decode jdk_68_method_9_code 9 = .ok (.ishr, 1) := by decide +kernel
theorem d_jdk_68m9_10 : decode jdk_68_method_9_code 10 = .ok (.istore_n 2, 1) := by decide +kernel
theorem d_jdk_68m9_11 : decode jdk_68_method_9_code 11 = .ok (.iload_n 1, 1) := by decide +kernel
theorem d_jdk_68m9_12 : decode jdk_68_method_9_code 12 = .ok (.iload_n 2, 1) := by decide +kernel
theorem d_jdk_68m9_13 : decode jdk_68_method_9_code 13 = .ok (.isub, 1) := by decide +kernel
theorem d_jdk_68m9_14 : decode jdk_68_method_9_code 14 = .ok (.ifCond .le 24, 3) := by decide +kernel
theorem d_jdk_68m9_38 : decode jdk_68_method_9_code 38 = .ok (.return_, 1) := by decide +kernel
theorem ef_ens16 (mM : MethodId) (x0 : Addr) (x1 : Int32) : entryFrame mM #[(.ref x0), (.int x1)] 3 = mkF mM 0 #[.val (.ref x0), .val (.int x1), .unset] [] := by first | (simp [entryFrame, mkF, argsToLocals, Value.category]; done) | rfl
def Q_ens16 (Z : State) (b : Addr) (d : Addr) (n : Int32) (h0 : Heap) (n0 : Nat) (v_ : Option Value) (h_ : Heap) (L_ : List Loc) : Prop := v_ = none ∧ Fr n0 L_ ∧ h_ = h0
set_option maxRecDepth 65536 in
set_option maxHeartbeats 40000000 in
theorem rm_ens16 (l : Launch) (Z : State) (a0 : Array Value) (hw : ∀ d ∈ tables_1, d.before a0 Z = true) (ws : List Jvm.Cond) (b : Addr) (d : Addr) (n : Int32) (h0 : Heap) (n0 : Nat) (Z0 : n0 ≤ h0.size) (F_value_b : Fld Z h0 b "java/lang/AbstractStringBuilder" "value" "[B" (.ref d)) (F_coder_b : Fld Z h0 b "java/lang/AbstractStringBuilder" "coder" "B" (.int (0 : Int32))) (B_d : own_B Z h0 d (16 : Int32)) (hno : ¬ 0 < (n - (16 : Int32))) :
    MetFree l (⟨"java/lang/AbstractStringBuilder", "ensureCapacityInternal", "(I)V"⟩ : MethodName) (head1 (Jvm.Cond.code (⟨"java/lang/AbstractStringBuilder", "ensureCapacityInternal", "(I)V"⟩ : MethodName) jdk_68_method_9_code 3 none :: ws) oR2) (fun aa_ U_ => aa_ = #[(.ref b), (.int n)] ∧ Z.Warmed39 U_.vm ∧ U_.heap = h0) (fun _ _ _ _ _ => True) (fun _ U_ o_ U'_ => ∃ v_ L_, o_ = .returned v_ ∧ Q_ens16 Z b d n h0 n0 v_ U'_.heap L_ ∧ FrameEnd U_ o_ U'_ L_ oR2.cells oR2.slots) := by
  refine MetFree.of_bodySF (plainFor_of_name pn_0) hisR ?_
  intro pP eE sS mM argsA below meth cC s₁ Bd hml0 hP hK
  obtain ⟨rfl, hZ, hh⟩ := hP
  have hx := Bd.exec
  have hby := Bd.bytes
  have hml : cC.maxLocals = 3 := hml0
  have hown : sS.vm.findClass "java/lang/AbstractStringBuilder" = some mM.cls := findClass_of_methodNamed Bd.named
  have hnm := (name_of_methodNamed Bd.named Bd.method).1
  have X0 : Stand pP l eE oR2 sS mM #[(.ref b), (.int n)] below meth cC s₁ [] 0 0 := Stand.of_body Bd
  have e0 : s₁.heap = h0 := by rw [← hh, Bd.state]; rfl
  have N0 := Fr.nil n0
  have pre0 : ∀ t_, Steps pP.tables eE below (s₁.setTop (mkF mM 0 #[.val (.ref b), .val (.int n), .unset] [])) t_ → Steps pP.tables eE below (s₁.setTop (entryFrame mM #[(.ref b), (.int n)] 3)) t_ := fun t_ k_ => castTop (ef_ens16 mM b n) k_
  obtain ⟨T_1, X_1, e_1, st_1⟩ := getF X0 hx hZ hown (host := "") (Or.inl (ow hw 39 rfl)) Via.refl e0 F_value_b (g := (mkF mM 1 #[.val (.ref b), .val (.int n), .unset] [(.ref b)])) rfl rfl (hb hby d_jdk_68m9_1)
  obtain ⟨kk_2, vs_2, ⟨cl_2, Ar_2, -, Sa_2, Na_2, -, -⟩, -⟩ := id B_d
  obtain ⟨T_3, X_3, e_3, st_3⟩ := getF X_1 hx hZ hown (host := "") (Or.inl (ow hw 41 rfl)) Via.refl e_1 F_coder_b (g := (mkF mM 6 #[.val (.ref b), .val (.int n), .unset] [(.ref b), (.int (16 : Int32))])) rfl rfl (hb hby d_jdk_68m9_6)
  obtain ⟨fs, hr, hrun, hended, hW, hsame⟩ := X_3.leave (v := none) (fun _ => rfl)
  refine ⟨_, _, pre0 _ ?_, hrun, hended, _, _, rfl, ?_, ⟨_, rfl⟩, hW, hsame.mono (by decide) (by decide)⟩
  · show oS pP eE below s₁ (mkF mM 0 #[.val (.ref b), .val (.int n), .unset] []) _
    refine XS.aloadN X0.here hx rfl (hb hby d_jdk_68m9_0) rfl rfl ?_
    show oS pP eE below s₁ (mkF mM 1 #[.val (.ref b), .val (.int n), .unset] [(.ref b)]) _
    refine st_1 _ ?_
    show oS pP eE below T_1 (mkF mM 4 #[.val (.ref b), .val (.int n), .unset] [(.ref d)]) _
    refine X_1.arraylength hx (by rw [e_1]; exact Ar_2.1) (State.isArrayOf_alike hZ.alike Ar_2.2.1) (g := (mkF mM 4 #[.val (.ref b), .val (.int n), .unset] [(.ref d)])) rfl rfl (hb hby d_jdk_68m9_4) _ ?_
    rw [len_of Sa_2 Na_2]
    refine XS.aloadN X_1.here hx rfl (hb hby d_jdk_68m9_5) rfl rfl ?_
    show oS pP eE below T_1 (mkF mM 6 #[.val (.ref b), .val (.int n), .unset] [(.ref b), (.int (16 : Int32))]) _
    refine st_3 _ ?_
    show oS pP eE below T_3 (mkF mM 9 #[.val (.ref b), .val (.int n), .unset] [(.int (0 : Int32)), (.int (16 : Int32))]) _
    refine XT.ishr X_3.here hx rfl (hb hby d_jdk_68m9_9) rfl ?_
    show Steps pP.tables eE below (T_3.setTop (mkF mM 10 #[.val (.ref b), .val (.int n), .unset] [(.int ((16 : Int32) >>> ((0 : Int32) &&& 31)))])) _
    rw [(by decide : ((16 : Int32) >>> ((0 : Int32) &&& 31)) = (16 : Int32))]
    refine XS.istoreN X_3.here hx rfl (hb hby d_jdk_68m9_10) rfl (l' := #[.val (.ref b), .val (.int n), .val (.int (16 : Int32))]) rfl ?_
    refine XS.iloadN X_3.here hx rfl (hb hby d_jdk_68m9_11) rfl ?_
    refine XS.iloadN X_3.here hx rfl (hb hby d_jdk_68m9_12) rfl ?_
    show oS pP eE below T_3 (mkF mM 13 #[.val (.ref b), .val (.int n), .val (.int (16 : Int32))] [(.int (16 : Int32)), (.int n)]) _
    refine XS.isub X_3.here hx rfl (hb hby d_jdk_68m9_13) rfl ?_
    refine XS.ifYes X_3.here hx rfl (pc0 := 14) (pc' := 38) rfl (hb hby d_jdk_68m9_14) rfl (XT.i0_le_t hno) (by decide) (by decide) ?_
    show oS pP eE below T_3 (mkF mM 38 #[.val (.ref b), .val (.int n), .val (.int (16 : Int32))] []) _
    exact X_3.returnOut hx Bd.returns (hb hby d_jdk_68m9_38) hr
  · show Q_ens16 Z b d n h0 n0 _ T_3.heap _
    rw [e_3]
    exact ⟨rfl, N0, rfl⟩
theorem ef_ens34 (mM : MethodId) (x0 : Addr) (x1 : Int32) : entryFrame mM #[(.ref x0), (.int x1)] 3 = mkF mM 0 #[.val (.ref x0), .val (.int x1), .unset] [] := by first | (simp [entryFrame, mkF, argsToLocals, Value.category]; done) | rfl
def Q_ens34 (Z : State) (b : Addr) (d : Addr) (n : Int32) (h0 : Heap) (n0 : Nat) (v_ : Option Value) (h_ : Heap) (L_ : List Loc) : Prop := v_ = none ∧ Fr n0 L_ ∧ h_ = h0
set_option maxRecDepth 65536 in
set_option maxHeartbeats 40000000 in
theorem rm_ens34 (l : Launch) (Z : State) (a0 : Array Value) (hw : ∀ d ∈ tables_1, d.before a0 Z = true) (ws : List Jvm.Cond) (b : Addr) (d : Addr) (n : Int32) (h0 : Heap) (n0 : Nat) (Z0 : n0 ≤ h0.size) (F_value_b : Fld Z h0 b "java/lang/AbstractStringBuilder" "value" "[B" (.ref d)) (F_coder_b : Fld Z h0 b "java/lang/AbstractStringBuilder" "coder" "B" (.int (0 : Int32))) (B_d : own_B Z h0 d (34 : Int32)) (hno : ¬ 0 < (n - (34 : Int32))) :
    MetFree l (⟨"java/lang/AbstractStringBuilder", "ensureCapacityInternal", "(I)V"⟩ : MethodName) (head1 (Jvm.Cond.code (⟨"java/lang/AbstractStringBuilder", "ensureCapacityInternal", "(I)V"⟩ : MethodName) jdk_68_method_9_code 3 none :: ws) oR2) (fun aa_ U_ => aa_ = #[(.ref b), (.int n)] ∧ Z.Warmed39 U_.vm ∧ U_.heap = h0) (fun _ _ _ _ _ => True) (fun _ U_ o_ U'_ => ∃ v_ L_, o_ = .returned v_ ∧ Q_ens34 Z b d n h0 n0 v_ U'_.heap L_ ∧ FrameEnd U_ o_ U'_ L_ oR2.cells oR2.slots) := by
  refine MetFree.of_bodySF (plainFor_of_name pn_0) hisR ?_
  intro pP eE sS mM argsA below meth cC s₁ Bd hml0 hP hK
  obtain ⟨rfl, hZ, hh⟩ := hP
  have hx := Bd.exec
  have hby := Bd.bytes
  have hml : cC.maxLocals = 3 := hml0
  have hown : sS.vm.findClass "java/lang/AbstractStringBuilder" = some mM.cls := findClass_of_methodNamed Bd.named
  have hnm := (name_of_methodNamed Bd.named Bd.method).1
  have X0 : Stand pP l eE oR2 sS mM #[(.ref b), (.int n)] below meth cC s₁ [] 0 0 := Stand.of_body Bd
  have e0 : s₁.heap = h0 := by rw [← hh, Bd.state]; rfl
  have N0 := Fr.nil n0
  have pre0 : ∀ t_, Steps pP.tables eE below (s₁.setTop (mkF mM 0 #[.val (.ref b), .val (.int n), .unset] [])) t_ → Steps pP.tables eE below (s₁.setTop (entryFrame mM #[(.ref b), (.int n)] 3)) t_ := fun t_ k_ => castTop (ef_ens34 mM b n) k_
  obtain ⟨T_1, X_1, e_1, st_1⟩ := getF X0 hx hZ hown (host := "") (Or.inl (ow hw 39 rfl)) Via.refl e0 F_value_b (g := (mkF mM 1 #[.val (.ref b), .val (.int n), .unset] [(.ref b)])) rfl rfl (hb hby d_jdk_68m9_1)
  obtain ⟨kk_2, vs_2, ⟨cl_2, Ar_2, -, Sa_2, Na_2, -, -⟩, -⟩ := id B_d
  obtain ⟨T_3, X_3, e_3, st_3⟩ := getF X_1 hx hZ hown (host := "") (Or.inl (ow hw 41 rfl)) Via.refl e_1 F_coder_b (g := (mkF mM 6 #[.val (.ref b), .val (.int n), .unset] [(.ref b), (.int (34 : Int32))])) rfl rfl (hb hby d_jdk_68m9_6)
  obtain ⟨fs, hr, hrun, hended, hW, hsame⟩ := X_3.leave (v := none) (fun _ => rfl)
  refine ⟨_, _, pre0 _ ?_, hrun, hended, _, _, rfl, ?_, ⟨_, rfl⟩, hW, hsame.mono (by decide) (by decide)⟩
  · show oS pP eE below s₁ (mkF mM 0 #[.val (.ref b), .val (.int n), .unset] []) _
    refine XS.aloadN X0.here hx rfl (hb hby d_jdk_68m9_0) rfl rfl ?_
    show oS pP eE below s₁ (mkF mM 1 #[.val (.ref b), .val (.int n), .unset] [(.ref b)]) _
    refine st_1 _ ?_
    show oS pP eE below T_1 (mkF mM 4 #[.val (.ref b), .val (.int n), .unset] [(.ref d)]) _
    refine X_1.arraylength hx (by rw [e_1]; exact Ar_2.1) (State.isArrayOf_alike hZ.alike Ar_2.2.1) (g := (mkF mM 4 #[.val (.ref b), .val (.int n), .unset] [(.ref d)])) rfl rfl (hb hby d_jdk_68m9_4) _ ?_
    rw [len_of Sa_2 Na_2]
    refine XS.aloadN X_1.here hx rfl (hb hby d_jdk_68m9_5) rfl rfl ?_
    show oS pP eE below T_1 (mkF mM 6 #[.val (.ref b), .val (.int n), .unset] [(.ref b), (.int (34 : Int32))]) _
    refine st_3 _ ?_
    show oS pP eE below T_3 (mkF mM 9 #[.val (.ref b), .val (.int n), .unset] [(.int (0 : Int32)), (.int (34 : Int32))]) _
    refine XT.ishr X_3.here hx rfl (hb hby d_jdk_68m9_9) rfl ?_
    show Steps pP.tables eE below (T_3.setTop (mkF mM 10 #[.val (.ref b), .val (.int n), .unset] [(.int ((34 : Int32) >>> ((0 : Int32) &&& 31)))])) _
    rw [(by decide : ((34 : Int32) >>> ((0 : Int32) &&& 31)) = (34 : Int32))]
    refine XS.istoreN X_3.here hx rfl (hb hby d_jdk_68m9_10) rfl (l' := #[.val (.ref b), .val (.int n), .val (.int (34 : Int32))]) rfl ?_
    refine XS.iloadN X_3.here hx rfl (hb hby d_jdk_68m9_11) rfl ?_
    refine XS.iloadN X_3.here hx rfl (hb hby d_jdk_68m9_12) rfl ?_
    show oS pP eE below T_3 (mkF mM 13 #[.val (.ref b), .val (.int n), .val (.int (34 : Int32))] [(.int (34 : Int32)), (.int n)]) _
    refine XS.isub X_3.here hx rfl (hb hby d_jdk_68m9_13) rfl ?_
    refine XS.ifYes X_3.here hx rfl (pc0 := 14) (pc' := 38) rfl (hb hby d_jdk_68m9_14) rfl (XT.i0_le_t hno) (by decide) (by decide) ?_
    show oS pP eE below T_3 (mkF mM 38 #[.val (.ref b), .val (.int n), .val (.int (34 : Int32))] []) _
    exact X_3.returnOut hx Bd.returns (hb hby d_jdk_68m9_38) hr
  · show Q_ens34 Z b d n h0 n0 _ T_3.heap _
    rw [e_3]
    exact ⟨rfl, N0, rfl⟩
theorem d_jdk_68m9_17 : decode jdk_68_method_9_code 17 = .ok (.aload_n 0, 1) := by decide +kernel
theorem d_jdk_68m9_18 : decode jdk_68_method_9_code 18 = .ok (.aload_n 0, 1) := by decide +kernel
theorem d_jdk_68m9_19 : decode jdk_68_method_9_code 19 = .ok (.getfield 15, 3) := by decide +kernel
theorem d_jdk_68m9_22 : decode jdk_68_method_9_code 22 = .ok (.aload_n 0, 1) := by decide +kernel
theorem d_jdk_68m9_23 : decode jdk_68_method_9_code 23 = .ok (.iload_n 1, 1) := by decide +kernel
theorem d_jdk_68m9_24 : decode jdk_68_method_9_code 24 = .ok (.invokevirtual 104, 3) := by decide +kernel
theorem pd_4 : parseMethodDescriptor "(I)I" = some ⟨[.int], some .int⟩ := by decide +kernel
abbrev MN5 : MethodName := ⟨"java/lang/AbstractStringBuilder", "newCapacity", "(I)I"⟩
theorem d_jdk_68m9_27 : decode jdk_68_method_9_code 27 = .ok (.aload_n 0, 1) := by decide +kernel
theorem d_jdk_68m9_28 : decode jdk_68_method_9_code 28 = .ok (.getfield 22, 3) := by decide +kernel
theorem d_jdk_68m9_31 : decode jdk_68_method_9_code 31 = .ok (.ishl, 1) := by decide +kernel
theorem d_jdk_68m9_32 : decode jdk_68_method_9_code 32 = .ok (.invokestatic 108, 3) := by decide +kernel
theorem pd_5 : parseMethodDescriptor "([BI)[B" = some ⟨[(.array .byte), .int], some (.array .byte)⟩ := by decide +kernel
abbrev MN6 : MethodName := ⟨"java/util/Arrays", "copyOf", "([BI)[B"⟩
theorem d_jdk_68m9_35 : decode jdk_68_method_9_code 35 = .ok (.putfield 15, 3) := by decide +kernel
theorem ef_ensG (mM : MethodId) (x0 : Addr) (x1 : Int32) : entryFrame mM #[(.ref x0), (.int x1)] 3 = mkF mM 0 #[.val (.ref x0), .val (.int x1), .unset] [] := by first | (simp [entryFrame, mkF, argsToLocals, Value.category]; done) | rfl
def Q_ensG (Z : State) (b : Addr) (d : Addr) (n : Int32) (c : Int32) (h0 : Heap) (n0 : Nat) (v_ : Option Value) (h_ : Heap) (L_ : List Loc) : Prop := ∃ d2 : Addr, v_ = none ∧ Fr n0 L_ ∧ Keep h0 h_ [b] ∧ h0.size ≤ d2 ∧ Fld Z h_ b "java/lang/AbstractStringBuilder" "value" "[B" (.ref d2) ∧ Fld Z h_ b "java/lang/AbstractStringBuilder" "coder" "B" (.int (0 : Int32)) ∧ Fld Z h_ b "java/lang/AbstractStringBuilder" "count" "I" (.int c) ∧ Exa Z h_ b "java/lang/StringBuilder" ∧ own_B Z h_ d2 (34 : Int32)
set_option maxRecDepth 65536 in
set_option maxHeartbeats 40000000 in
theorem rm_ensG (l : Launch) (Z : State) (a0 : Array Value) (hw : ∀ d ∈ tables_1, d.before a0 Z = true) (ws : List Jvm.Cond) (b : Addr) (d : Addr) (n : Int32) (c : Int32) (h0 : Heap) (n0 : Nat) (Z0 : n0 ≤ h0.size) (F_value_b : Fld Z h0 b "java/lang/AbstractStringBuilder" "value" "[B" (.ref d)) (F_coder_b : Fld Z h0 b "java/lang/AbstractStringBuilder" "coder" "B" (.int (0 : Int32))) (F_count_b : Fld Z h0 b "java/lang/AbstractStringBuilder" "count" "I" (.int c)) (E_b : Exa Z h0 b "java/lang/StringBuilder") (g_b : n0 ≤ b) (B_d : own_B Z h0 d (16 : Int32)) (hgt : 0 < (n - (16 : Int32))) (hlt : (n - (16 : Int32)) < (18 : Int32)) :
    MetFree l (⟨"java/lang/AbstractStringBuilder", "ensureCapacityInternal", "(I)V"⟩ : MethodName) (head1 (Jvm.Cond.code (⟨"java/lang/AbstractStringBuilder", "ensureCapacityInternal", "(I)V"⟩ : MethodName) jdk_68_method_9_code 3 none :: ws) oR7) (fun aa_ U_ => aa_ = #[(.ref b), (.int n)] ∧ Z.Warmed39 U_.vm ∧ U_.heap = h0) (fun _ _ _ _ _ => True) (fun _ U_ o_ U'_ => ∃ v_ L_, o_ = .returned v_ ∧ Q_ensG Z b d n c h0 n0 v_ U'_.heap L_ ∧ FrameEnd U_ o_ U'_ L_ oR7.cells oR7.slots) := by
  refine MetFree.of_bodySF (plainFor_of_name pn_0) hisR ?_
  intro pP eE sS mM argsA below meth cC s₁ Bd hml0 hP hK
  obtain ⟨rfl, hZ, hh⟩ := hP
  have hx := Bd.exec
  have hby := Bd.bytes
  have hml : cC.maxLocals = 3 := hml0
  have hown : sS.vm.findClass "java/lang/AbstractStringBuilder" = some mM.cls := findClass_of_methodNamed Bd.named
  have hnm := (name_of_methodNamed Bd.named Bd.method).1
  have X0 : Stand pP l eE oR7 sS mM #[(.ref b), (.int n)] below meth cC s₁ [] 0 0 := Stand.of_body Bd
  have e0 : s₁.heap = h0 := by rw [← hh, Bd.state]; rfl
  have N0 := Fr.nil n0
  have pre0 : ∀ t_, Steps pP.tables eE below (s₁.setTop (mkF mM 0 #[.val (.ref b), .val (.int n), .unset] [])) t_ → Steps pP.tables eE below (s₁.setTop (entryFrame mM #[(.ref b), (.int n)] 3)) t_ := fun t_ k_ => castTop (ef_ensG mM b n) k_
  obtain ⟨T_1, X_1, e_1, st_1⟩ := getF X0 hx hZ hown (host := "") (Or.inl (ow hw 39 rfl)) Via.refl e0 F_value_b (g := (mkF mM 1 #[.val (.ref b), .val (.int n), .unset] [(.ref b)])) rfl rfl (hb hby d_jdk_68m9_1)
  obtain ⟨kk_2, vs_2, ⟨cl_2, Ar_2, -, Sa_2, Na_2, -, -⟩, -⟩ := id B_d
  obtain ⟨T_3, X_3, e_3, st_3⟩ := getF X_1 hx hZ hown (host := "") (Or.inl (ow hw 41 rfl)) Via.refl e_1 F_coder_b (g := (mkF mM 6 #[.val (.ref b), .val (.int n), .unset] [(.ref b), (.int (16 : Int32))])) rfl rfl (hb hby d_jdk_68m9_6)
  obtain ⟨T_4, X_4, e_4, st_4⟩ := getF X_3 hx hZ hown (host := "") (Or.inl (ow hw 39 rfl)) Via.refl e_3 F_value_b (g := (mkF mM 19 #[.val (.ref b), .val (.int n), .val (.int (16 : Int32))] [(.ref b), (.ref b)])) rfl rfl (hb hby d_jdk_68m9_19)
  obtain ⟨cq_5, kq_5, q_5a, q_5b, q_5c⟩ := isOf hZ e_4 E_b
  obtain ⟨_, _, ⟨T_5, L_5, k_5, n_5⟩, -, X_5, ⟨Lc_5, hQ_5, l_5, y_5, z_5⟩, st_5⟩ := X_4.virtualBack hx (y := MN5) (z := MN5) hown (mvT hZ (ow hw 123 rfl)) (own_decl (mvT hZ (ow hw 124 rfl)) (mvT hZ (ow hw 127 rfl))) (notFace_of_selects (args := #[]) (mvT hZ (ow hw 126 rfl))) (mvT hZ (ow hw 126 rfl)) (mvT hZ (ow hw 124 rfl)) (by decide) (backOf (W := 2) (rm_nc l Z a0 hw [] b d n h0 n0 Z0 F_value_b F_coder_b B_d hlt) hZ (ow hw 127 rfl) (ow hw 33 rfl) (by decide) (by decide)) q_5a q_5c (g := (mkF mM 24 #[.val (.ref b), .val (.int n), .val (.int (16 : Int32))] [(.int n), (.ref b), (.ref d), (.ref b)])) rfl (by rw [hml]; rfl) (Steps.refl _) (argsL := [(.int n)]) (rest := [(.ref d), (.ref b)]) (lenOf pd_4 rfl) rfl (by show 2 * 0 + _ ≤ _; exact Nat.le_of_eq rfl) (hb hby d_jdk_68m9_24) (fun _ _ => ⟨rfl, e_4, (by decide : 0 + 0 ≤ _), (by decide : 0 + 0 ≤ _)⟩)
  dsimp only [Pt.U, Pt.locs, Pt.cells, Pt.slots] at X_5 l_5 y_5 z_5 st_5 hQ_5
  subst l_5 y_5 z_5
  obtain ⟨rfl, N_5q, eh_5⟩ := hQ_5
  have N_5 := Fr.app N0 N_5q
  obtain ⟨T_6, X_6, e_6, st_6⟩ := getF X_5 hx hZ hown (host := "") (Or.inl (ow hw 41 rfl)) Via.refl eh_5 F_coder_b (g := (mkF mM 28 #[.val (.ref b), .val (.int n), .val (.int (16 : Int32))] [(.ref b), (.int (34 : Int32)), (.ref d), (.ref b)])) rfl rfl (hb hby d_jdk_68m9_28)
  obtain ⟨_, _, ⟨T_7, L_7, k_7, n_7⟩, -, X_7, ⟨Lc_7, hQ_7, l_7, y_7, z_7⟩, st_7⟩ := Jvm.LawKit.callS X_6 hx (y := MN6) hown (mvT hZ (ow hw 138 rfl)) (mvT hZ (ow hw 139 rfl)) (mvT hZ (ow hw 140 rfl)) (mvT hZ (ow hw 141 rfl)) (by decide) (backOf (W := 1) (rm_cof l Z a0 hw [] d h0 n0 Z0 B_d) hZ (ow hw 141 rfl) (ow hw 140 rfl) (by decide) (by decide)) (g := (mkF mM 32 #[.val (.ref b), .val (.int n), .val (.int (16 : Int32))] [(.int (34 : Int32)), (.ref d), (.ref b)])) rfl (by rw [hml]; rfl) (argsL := [(.ref d), (.int (34 : Int32))]) (rest := [(.ref b)]) (lenOf pd_5 rfl) rfl (by show 2 * 0 + _ ≤ _; exact Nat.le_of_eq rfl) (hb hby d_jdk_68m9_32) (fun _ _ => ⟨rfl, e_6, (by decide : 0 + 1 ≤ _), (by decide : 0 + 34 ≤ _)⟩)
  dsimp only [Pt.U, Pt.locs, Pt.cells, Pt.slots] at X_7 l_7 y_7 z_7 st_7 hQ_7
  subst l_7 y_7 z_7
  obtain ⟨d2__7, ⟨rfl, N_7q, Kc_7, pfsz_d2_7, pfB_d2_7⟩⟩ := hQ_7
  have Z_7 : n0 ≤ T_7.heap.size := (Nat.le_trans Z0 Kc_7.1)
  have K_7 : Keep h0 T_7.heap [b] := (Keep.refl h0 [b]).trans Kc_7 all0
  have sz_d2__7 : h0.size ≤ d2__7 := Nat.le_trans (Keep.refl h0 [b]).1 pfsz_d2_7
  have g_d2__7 : n0 ≤ d2__7 := Nat.le_trans Z0 pfsz_d2_7
  have N_7 := Fr.app N_5 N_7q
  obtain ⟨T_8, h_8, X_8, e_8, W_8, st_8⟩ := putF X_7 hx hZ hown (host := "") (Or.inl (ow hw 39 rfl)) Via.refl rfl (F_value_b.keep Kc_7 nin0) (E_b.keep Kc_7) (Or.inl (ow hw 40 rfl)) (ow hw 24 rfl) (ty := (.array .byte)) (by decide) rfl rfl (g := (mkF mM 35 #[.val (.ref b), .val (.int n), .val (.int (16 : Int32))] [(.ref d2__7), (.ref b)])) rfl rfl (hb hby d_jdk_68m9_35)
  have Fw_8 := (F_value_b.keep Kc_7 nin0).same W_8
  have Z_8 : n0 ≤ h_8.size := (Nat.le_trans Z_7 (Keep.of_wr W_8).1)
  have K_8 : Keep h0 h_8 [b] := K_7.wr W_8 (Or.inl (List.mem_of_getElem? (i := 0) rfl))
  have N_8 := Fr.snoc X_8 N_7 g_b
  obtain ⟨fs, hr, hrun, hended, hW, hsame⟩ := X_8.leave (v := none) (fun _ => rfl)
  refine ⟨_, _, pre0 _ ?_, hrun, hended, _, _, rfl, ?_, ⟨_, rfl⟩, hW, hsame.mono (by decide) (by decide)⟩
  · show oS pP eE below s₁ (mkF mM 0 #[.val (.ref b), .val (.int n), .unset] []) _
    refine XS.aloadN X0.here hx rfl (hb hby d_jdk_68m9_0) rfl rfl ?_
    show oS pP eE below s₁ (mkF mM 1 #[.val (.ref b), .val (.int n), .unset] [(.ref b)]) _
    refine st_1 _ ?_
    show oS pP eE below T_1 (mkF mM 4 #[.val (.ref b), .val (.int n), .unset] [(.ref d)]) _
    refine X_1.arraylength hx (by rw [e_1]; exact Ar_2.1) (State.isArrayOf_alike hZ.alike Ar_2.2.1) (g := (mkF mM 4 #[.val (.ref b), .val (.int n), .unset] [(.ref d)])) rfl rfl (hb hby d_jdk_68m9_4) _ ?_
    rw [len_of Sa_2 Na_2]
    refine XS.aloadN X_1.here hx rfl (hb hby d_jdk_68m9_5) rfl rfl ?_
    show oS pP eE below T_1 (mkF mM 6 #[.val (.ref b), .val (.int n), .unset] [(.ref b), (.int (16 : Int32))]) _
    refine st_3 _ ?_
    show oS pP eE below T_3 (mkF mM 9 #[.val (.ref b), .val (.int n), .unset] [(.int (0 : Int32)), (.int (16 : Int32))]) _
    refine XT.ishr X_3.here hx rfl (hb hby d_jdk_68m9_9) rfl ?_
    show Steps pP.tables eE below (T_3.setTop (mkF mM 10 #[.val (.ref b), .val (.int n), .unset] [(.int ((16 : Int32) >>> ((0 : Int32) &&& 31)))])) _
    rw [(by decide : ((16 : Int32) >>> ((0 : Int32) &&& 31)) = (16 : Int32))]
    refine XS.istoreN X_3.here hx rfl (hb hby d_jdk_68m9_10) rfl (l' := #[.val (.ref b), .val (.int n), .val (.int (16 : Int32))]) rfl ?_
    refine XS.iloadN X_3.here hx rfl (hb hby d_jdk_68m9_11) rfl ?_
    refine XS.iloadN X_3.here hx rfl (hb hby d_jdk_68m9_12) rfl ?_
    show oS pP eE below T_3 (mkF mM 13 #[.val (.ref b), .val (.int n), .val (.int (16 : Int32))] [(.int (16 : Int32)), (.int n)]) _
    refine XS.isub X_3.here hx rfl (hb hby d_jdk_68m9_13) rfl ?_
    refine XS.ifNo X_3.here hx rfl (hb hby d_jdk_68m9_14) rfl (XT.i0_le_f hgt) ?_
    refine XS.aloadN X_3.here hx rfl (hb hby d_jdk_68m9_17) rfl rfl ?_
    refine XS.aloadN X_3.here hx rfl (hb hby d_jdk_68m9_18) rfl rfl ?_
    show oS pP eE below T_3 (mkF mM 19 #[.val (.ref b), .val (.int n), .val (.int (16 : Int32))] [(.ref b), (.ref b)]) _
    refine st_4 _ ?_
    show oS pP eE below T_4 (mkF mM 22 #[.val (.ref b), .val (.int n), .val (.int (16 : Int32))] [(.ref d), (.ref b)]) _
    refine XS.aloadN X_4.here hx rfl (hb hby d_jdk_68m9_22) rfl rfl ?_
    refine XS.iloadN X_4.here hx rfl (hb hby d_jdk_68m9_23) rfl ?_
    show oS pP eE below T_4 (mkF mM 24 #[.val (.ref b), .val (.int n), .val (.int (16 : Int32))] [(.int n), (.ref b), (.ref d), (.ref b)]) _
    refine st_5.trans ?_
    show oS pP eE below T_5 (mkF mM 27 #[.val (.ref b), .val (.int n), .val (.int (16 : Int32))] [(.int (34 : Int32)), (.ref d), (.ref b)]) _
    refine XS.aloadN X_5.here hx rfl (hb hby d_jdk_68m9_27) rfl rfl ?_
    show oS pP eE below T_5 (mkF mM 28 #[.val (.ref b), .val (.int n), .val (.int (16 : Int32))] [(.ref b), (.int (34 : Int32)), (.ref d), (.ref b)]) _
    refine st_6 _ ?_
    show oS pP eE below T_6 (mkF mM 31 #[.val (.ref b), .val (.int n), .val (.int (16 : Int32))] [(.int (0 : Int32)), (.int (34 : Int32)), (.ref d), (.ref b)]) _
    refine XT.ishl X_6.here hx rfl (hb hby d_jdk_68m9_31) rfl ?_
    show Steps pP.tables eE below (T_6.setTop (mkF mM 32 #[.val (.ref b), .val (.int n), .val (.int (16 : Int32))] [(.int ((34 : Int32) <<< ((0 : Int32) &&& 31))), (.ref d), (.ref b)])) _
    rw [(by decide : ((34 : Int32) <<< ((0 : Int32) &&& 31)) = (34 : Int32))]
    show oS pP eE below T_6 (mkF mM 32 #[.val (.ref b), .val (.int n), .val (.int (16 : Int32))] [(.int (34 : Int32)), (.ref d), (.ref b)]) _
    refine st_7 _ ?_
    show oS pP eE below T_7 (mkF mM 35 #[.val (.ref b), .val (.int n), .val (.int (16 : Int32))] [(.ref d2__7), (.ref b)]) _
    refine st_8 _ ?_
    show oS pP eE below T_8 (mkF mM 38 #[.val (.ref b), .val (.int n), .val (.int (16 : Int32))] []) _
    exact X_8.returnOut hx Bd.returns (hb hby d_jdk_68m9_38) hr
  · show Q_ensG Z b d n c h0 n0 _ T_8.heap _
    rw [e_8]
    exact ⟨d2__7, rfl, N_8, K_8, sz_d2__7, Fw_8, ((F_coder_b.keep Kc_7 nin0).other W_8 (Or.inr (slot_ne (Or.inl (ow hw 42 rfl)) (Or.inl (ow hw 40 rfl)) (by decide) (t := .byte) (t' := (.array .byte)) (by decide) (by decide)))), ((F_count_b.keep Kc_7 nin0).other W_8 (Or.inr (slot_ne (Or.inl (ow hw 73 rfl)) (Or.inl (ow hw 40 rfl)) (by decide) (t := .int) (t' := (.array .byte)) (by decide) (by decide)))), ((E_b.keep Kc_7).wr W_8), (pfB_d2_7.other W_8 (Ne.symm (Nat.ne_of_lt (Nat.lt_of_lt_of_le E_b.lt pfsz_d2_7))))⟩
theorem d_jdk_68m71_0 : decode jdk_68_method_71_code 0 = .ok (.getstatic 18, 3) := by decide +kernel
theorem d_jdk_68m71_3 : decode jdk_68_method_71_code 3 = .ok (.ifCond .eq 18, 3) := by decide +kernel
theorem d_jdk_68m71_6 : decode jdk_68_method_71_code 6 = .ok (.aload_n 0, 1) := by decide +kernel
theorem d_jdk_68m71_7 : decode jdk_68_method_71_code 7 = .ok (.getfield 22, 3) := by decide +kernel
theorem d_jdk_68m71_10 : decode jdk_68_method_71_code 10 = .ok (.aload_n 1, 1) := by decide +kernel
theorem d_jdk_68m71_11 : decode jdk_68_method_71_code 11 = .ok (.invokevirtual 40, 3) := by decide +kernel
theorem d_jdk_68m71_14 : decode jdk_68_method_71_code 14 = .ok (.if_icmp .eq 7, 3) := by decide +kernel
theorem d_jdk_68m71_21 : decode jdk_68_method_71_code 21 = .ok (.return_, 1) := by decide +kernel
theorem ef_infl (mM : MethodId) (x0 : Addr) (x1 : Addr) : entryFrame mM #[(.ref x0), (.ref x1)] 2 = mkF mM 0 #[.val (.ref x0), .val (.ref x1)] [] := by first | (simp [entryFrame, mkF, argsToLocals, Value.category]; done) | rfl
def Q_infl (Z : State) (b : Addr) (s : Addr) (cs : Int32) (h0 : Heap) (n0 : Nat) (v_ : Option Value) (h_ : Heap) (L_ : List Loc) : Prop := v_ = none ∧ Fr n0 L_ ∧ h_ = h0
set_option maxRecDepth 65536 in
set_option maxHeartbeats 40000000 in
theorem rm_infl (l : Launch) (Z : State) (a0 : Array Value) (hw : ∀ d ∈ tables_1, d.before a0 Z = true) (ws : List Jvm.Cond) (b : Addr) (s : Addr) (cs : Int32) (h0 : Heap) (n0 : Nat) (Z0 : n0 ≤ h0.size) (F_coder_b : Fld Z h0 b "java/lang/AbstractStringBuilder" "coder" "B" (.int (0 : Int32))) (F_coder_s : Fld Z h0 s "java/lang/String" "coder" "B" (.int (0 : Int32))) (E_s : Exa Z h0 s "java/lang/String") (S_String_COMPACT_STRINGS : Sta Z h0 "java/lang/String" "COMPACT_STRINGS" "Z" (.int cs)) (hcs : ¬ cs = 0) :
    MetFree l (⟨"java/lang/AbstractStringBuilder", "inflateIfNeededFor", "(Ljava/lang/String;)V"⟩ : MethodName) (head1 (Jvm.Cond.code (⟨"java/lang/AbstractStringBuilder", "inflateIfNeededFor", "(Ljava/lang/String;)V"⟩ : MethodName) jdk_68_method_71_code 2 none :: ws) oR3) (fun aa_ U_ => aa_ = #[(.ref b), (.ref s)] ∧ Z.Warmed39 U_.vm ∧ U_.heap = h0) (fun _ _ _ _ _ => True) (fun _ U_ o_ U'_ => ∃ v_ L_, o_ = .returned v_ ∧ Q_infl Z b s cs h0 n0 v_ U'_.heap L_ ∧ FrameEnd U_ o_ U'_ L_ oR3.cells oR3.slots) := by
  refine MetFree.of_bodySF (plainFor_of_name pn_0) hisR ?_
  intro pP eE sS mM argsA below meth cC s₁ Bd hml0 hP hK
  obtain ⟨rfl, hZ, hh⟩ := hP
  have hx := Bd.exec
  have hby := Bd.bytes
  have hml : cC.maxLocals = 2 := hml0
  have hown : sS.vm.findClass "java/lang/AbstractStringBuilder" = some mM.cls := findClass_of_methodNamed Bd.named
  have hnm := (name_of_methodNamed Bd.named Bd.method).1
  have X0 : Stand pP l eE oR3 sS mM #[(.ref b), (.ref s)] below meth cC s₁ [] 0 0 := Stand.of_body Bd
  have e0 : s₁.heap = h0 := by rw [← hh, Bd.state]; rfl
  have N0 := Fr.nil n0
  have pre0 : ∀ t_, Steps pP.tables eE below (s₁.setTop (mkF mM 0 #[.val (.ref b), .val (.ref s)] [])) t_ → Steps pP.tables eE below (s₁.setTop (entryFrame mM #[(.ref b), (.ref s)] 2)) t_ := fun t_ k_ => castTop (ef_infl mM b s) k_
  obtain ⟨T_1, X_1, e_1, st_1⟩ := getS2 X0 hx hZ hown (host := "") (Or.inl (ow hw 36 rfl)) Via.refl e0 S_String_COMPACT_STRINGS (g := (mkF mM 0 #[.val (.ref b), .val (.ref s)] [])) rfl (hb hby d_jdk_68m71_0)
  obtain ⟨T_2, X_2, e_2, st_2⟩ := getF X_1 hx hZ hown (host := "") (Or.inl (ow hw 41 rfl)) Via.refl e_1 F_coder_b (g := (mkF mM 7 #[.val (.ref b), .val (.ref s)] [(.ref b)])) rfl rfl (hb hby d_jdk_68m71_7)
  obtain ⟨cq_3, kq_3, q_3a, q_3b, q_3c⟩ := isOf hZ e_2 E_s
  obtain ⟨_, _, ⟨T_3, L_3, k_3, n_3⟩, -, X_3, ⟨Lc_3, hQ_3, l_3, y_3, z_3⟩, st_3⟩ := X_2.virtualBack hx (y := MN1) (z := MN1) hown (mvT hZ (ow hw 89 rfl)) (mvT hZ (ow hw 66 rfl)) (notFace_of_selects (args := #[]) (mvT hZ (ow hw 68 rfl))) (mvT hZ (ow hw 68 rfl)) (mvT hZ (ow hw 67 rfl)) (by decide) (backOf (W := 1) (rm_coder l Z a0 hw [] s cs h0 n0 Z0 F_coder_s S_String_COMPACT_STRINGS hcs) hZ (ow hw 69 rfl) (ow hw 37 rfl) (by decide) (by decide)) q_3a q_3c (g := (mkF mM 11 #[.val (.ref b), .val (.ref s)] [(.ref s), (.int (0 : Int32))])) rfl (by rw [hml]; rfl) (Steps.refl _) (argsL := []) (rest := [(.int (0 : Int32))]) (lenOf pd_1 rfl) rfl (by show 2 * 0 + _ ≤ _; exact Nat.le_of_eq rfl) (hb hby d_jdk_68m71_11) (fun _ _ => ⟨rfl, e_2, (by decide : 0 + 0 ≤ _), (by decide : 0 + 0 ≤ _)⟩)
  dsimp only [Pt.U, Pt.locs, Pt.cells, Pt.slots] at X_3 l_3 y_3 z_3 st_3 hQ_3
  subst l_3 y_3 z_3
  obtain ⟨rfl, N_3q, eh_3⟩ := hQ_3
  have N_3 := Fr.app N0 N_3q
  obtain ⟨fs, hr, hrun, hended, hW, hsame⟩ := X_3.leave (v := none) (fun _ => rfl)
  refine ⟨_, _, pre0 _ ?_, hrun, hended, _, _, rfl, ?_, ⟨_, rfl⟩, hW, hsame.mono (by decide) (by decide)⟩
  · show oS pP eE below s₁ (mkF mM 0 #[.val (.ref b), .val (.ref s)] []) _
    refine st_1 _ ?_
    show oS pP eE below T_1 (mkF mM 3 #[.val (.ref b), .val (.ref s)] [(.int cs)]) _
    refine XS.ifNo X_1.here hx rfl (hb hby d_jdk_68m71_3) rfl (XT.i0_eq_f hcs) ?_
    refine XS.aloadN X_1.here hx rfl (hb hby d_jdk_68m71_6) rfl rfl ?_
    show oS pP eE below T_1 (mkF mM 7 #[.val (.ref b), .val (.ref s)] [(.ref b)]) _
    refine st_2 _ ?_
    show oS pP eE below T_2 (mkF mM 10 #[.val (.ref b), .val (.ref s)] [(.int (0 : Int32))]) _
    refine XS.aloadN X_2.here hx rfl (hb hby d_jdk_68m71_10) rfl rfl ?_
    show oS pP eE below T_2 (mkF mM 11 #[.val (.ref b), .val (.ref s)] [(.ref s), (.int (0 : Int32))]) _
    refine st_3.trans ?_
    show oS pP eE below T_3 (mkF mM 14 #[.val (.ref b), .val (.ref s)] [(.int (0 : Int32)), (.int (0 : Int32))]) _
    refine XS.icmpYes X_3.here hx rfl (pc0 := 14) (pc' := 21) rfl (hb hby d_jdk_68m71_14) rfl (by decide) (by decide) (by decide) ?_
    show oS pP eE below T_3 (mkF mM 21 #[.val (.ref b), .val (.ref s)] []) _
    exact X_3.returnOut hx Bd.returns (hb hby d_jdk_68m71_21) hr
  · show Q_infl Z b s cs h0 n0 _ T_3.heap _
    rw [eh_3]
    exact ⟨rfl, N_3, rfl⟩
theorem d_jdk_42m147_0 : decode jdk_42_method_147_code 0 = .ok (.aload_n 0, 1) := by decide +kernel
theorem d_jdk_42m147_1 : decode jdk_42_method_147_code 1 = .ok (.invokevirtual 335, 3) := by decide +kernel
theorem d_jdk_42m147_4 : decode jdk_42_method_147_code 4 = .ok (.iload_n 3, 1) := by decide +kernel
theorem d_jdk_42m147_5 : decode jdk_42_method_147_code 5 = .ok (.if_icmp .ne 23, 3) := by decide +kernel
theorem d_jdk_42m147_8 : decode jdk_42_method_147_code 8 = .ok (.aload_n 0, 1) := by decide +kernel
theorem d_jdk_42m147_9 : decode jdk_42_method_147_code 9 = .ok (.getfield 9, 3) := by decide +kernel
theorem d_jdk_42m147_12 : decode jdk_42_method_147_code 12 = .ok (.iconst 0, 1) := by decide +kernel
theorem d_jdk_42m147_13 : decode jdk_42_method_147_code 13 = .ok (.aload_n 1, 1) := by decide +kernel
theorem d_jdk_42m147_14 : decode jdk_42_method_147_code 14 = .ok (.iload_n 2, 1) := by decide +kernel
theorem d_jdk_42m147_15 : decode jdk_42_method_147_code 15 = .ok (.iload_n 3, 1) := by decide +kernel
theorem d_jdk_42m147_16 : decode jdk_42_method_147_code 16 = .ok (.ishl, 1) := by decide +kernel
theorem d_jdk_42m147_17 : decode jdk_42_method_147_code 17 = .ok (.aload_n 0, 1) := by decide +kernel
theorem d_jdk_42m147_18 : decode jdk_42_method_147_code 18 = .ok (.getfield 9, 3) := by decide +kernel
theorem d_jdk_42m147_21 : decode jdk_42_method_147_code 21 = .ok (.arraylength, 1) := by decide +kernel
theorem d_jdk_42m147_22 : decode jdk_42_method_147_code 22 = .ok (.invokestatic 212, 3) := by decide +kernel
theorem d_jdk_42m147_25 : decode jdk_42_method_147_code 25 = .ok (.goto 18, 3) := by decide +kernel
theorem d_jdk_42m147_43 : decode jdk_42_method_147_code 43 = .ok (.return_, 1) := by decide +kernel
theorem ef_getb (mM : MethodId) (x0 : Addr) (x1 : Addr) (x2 : Int32) (x3 : Int32) : entryFrame mM #[(.ref x0), (.ref x1), (.int x2), (.int x3)] 4 = mkF mM 0 #[.val (.ref x0), .val (.ref x1), .val (.int x2), .val (.int x3)] [] := by first | (simp [entryFrame, mkF, argsToLocals, Value.category]; done) | rfl
def Q_getb (Z : State) (s : Addr) (e2 : Addr) (d : Addr) (m : Int32) (c : Int32) (L : Int32) (cs : Int32) (h0 : Heap) (n0 : Nat) (v_ : Option Value) (h_ : Heap) (L_ : List Loc) : Prop := v_ = none ∧ Fr n0 L_ ∧ Keep h0 h_ [d] ∧ own_B Z h_ d L
set_option maxRecDepth 65536 in
set_option maxHeartbeats 40000000 in
theorem rm_getb (l : Launch) (Z : State) (a0 : Array Value) (hw : ∀ d ∈ tables_1, d.before a0 Z = true) (ws : List Jvm.Cond) (s : Addr) (e2 : Addr) (d : Addr) (m : Int32) (c : Int32) (L : Int32) (cs : Int32) (h0 : Heap) (n0 : Nat) (Z0 : n0 ≤ h0.size) (F_value_s : Fld Z h0 s "java/lang/String" "value" "[B" (.ref e2)) (F_coder_s : Fld Z h0 s "java/lang/String" "coder" "B" (.int (0 : Int32))) (E_s : Exa Z h0 s "java/lang/String") (B_e2 : own_B Z h0 e2 m) (B_d : own_B Z h0 d L) (g_d : n0 ≤ d) (ned : e2 ≠ d) (hcp : own_cp (0 : Int32) c m m L) (S_String_COMPACT_STRINGS : Sta Z h0 "java/lang/String" "COMPACT_STRINGS" "Z" (.int cs)) (hcs : ¬ cs = 0) :
    MetFree l (⟨"java/lang/String", "getBytes", "([BIB)V"⟩ : MethodName) (head1 (Jvm.Cond.code (⟨"java/lang/String", "getBytes", "([BIB)V"⟩ : MethodName) jdk_42_method_147_code 4 none :: ws) oR8) (fun aa_ U_ => aa_ = #[(.ref s), (.ref d), (.int c), (.int (0 : Int32))] ∧ Z.Warmed39 U_.vm ∧ U_.heap = h0) (fun _ _ _ _ _ => True) (fun _ U_ o_ U'_ => ∃ v_ L_, o_ = .returned v_ ∧ Q_getb Z s e2 d m c L cs h0 n0 v_ U'_.heap L_ ∧ FrameEnd U_ o_ U'_ L_ oR8.cells oR8.slots) := by
  refine MetFree.of_bodySF (plainFor_of_name pn_2) hisR ?_
  intro pP eE sS mM argsA below meth cC s₁ Bd hml0 hP hK
  obtain ⟨rfl, hZ, hh⟩ := hP
  have hx := Bd.exec
  have hby := Bd.bytes
  have hml : cC.maxLocals = 4 := hml0
  have hown : sS.vm.findClass "java/lang/String" = some mM.cls := findClass_of_methodNamed Bd.named
  have hnm := (name_of_methodNamed Bd.named Bd.method).1
  have X0 : Stand pP l eE oR8 sS mM #[(.ref s), (.ref d), (.int c), (.int (0 : Int32))] below meth cC s₁ [] 0 0 := Stand.of_body Bd
  have e0 : s₁.heap = h0 := by rw [← hh, Bd.state]; rfl
  have N0 := Fr.nil n0
  have pre0 : ∀ t_, Steps pP.tables eE below (s₁.setTop (mkF mM 0 #[.val (.ref s), .val (.ref d), .val (.int c), .val (.int (0 : Int32))] [])) t_ → Steps pP.tables eE below (s₁.setTop (entryFrame mM #[(.ref s), (.ref d), (.int c), (.int (0 : Int32))] 4)) t_ := fun t_ k_ => castTop (ef_getb mM s d c (0 : Int32)) k_
  obtain ⟨cq_1, kq_1, q_1a, q_1b, q_1c⟩ := isOf hZ e0 E_s
  obtain ⟨_, _, ⟨T_1, L_1, k_1, n_1⟩, -, X_1, ⟨Lc_1, hQ_1, l_1, y_1, z_1⟩, st_1⟩ := X0.virtualBack hx (y := MN1) (z := MN1) hown (mvT hZ (ow hw 65 rfl)) (mvT hZ (ow hw 66 rfl)) (notFace_of_selects (args := #[]) (mvT hZ (ow hw 68 rfl))) (mvT hZ (ow hw 68 rfl)) (mvT hZ (ow hw 67 rfl)) (by decide) (backOf (W := 0) (rm_coder l Z a0 hw [] s cs h0 n0 Z0 F_coder_s S_String_COMPACT_STRINGS hcs) hZ (ow hw 69 rfl) (ow hw 37 rfl) (by decide) (by decide)) q_1a q_1c (g := (mkF mM 1 #[.val (.ref s), .val (.ref d), .val (.int c), .val (.int (0 : Int32))] [(.ref s)])) rfl (by rw [hml]; rfl) (Steps.refl _) (argsL := []) (rest := []) (lenOf pd_1 rfl) rfl (by show 2 * 0 + _ ≤ _; exact Nat.le_of_eq rfl) (hb hby d_jdk_42m147_1) (fun _ _ => ⟨rfl, e0, (by decide : 0 + 0 ≤ _), (by decide : 0 + 0 ≤ _)⟩)
  dsimp only [Pt.U, Pt.locs, Pt.cells, Pt.slots] at X_1 l_1 y_1 z_1 st_1 hQ_1
  subst l_1 y_1 z_1
  obtain ⟨rfl, N_1q, eh_1⟩ := hQ_1
  have N_1 := Fr.app N0 N_1q
  obtain ⟨T_2, X_2, e_2, st_2⟩ := getF X_1 hx hZ hown (host := "") (Or.inl (ow hw 64 rfl)) Via.refl eh_1 F_value_s (g := (mkF mM 9 #[.val (.ref s), .val (.ref d), .val (.int c), .val (.int (0 : Int32))] [(.ref s)])) rfl rfl (hb hby d_jdk_42m147_9)
  obtain ⟨T_3, X_3, e_3, st_3⟩ := getF X_2 hx hZ hown (host := "") (Or.inl (ow hw 64 rfl)) Via.refl e_2 F_value_s (g := (mkF mM 18 #[.val (.ref s), .val (.ref d), .val (.int c), .val (.int (0 : Int32))] [(.ref s), (.int c), (.ref d), (.int (0 : Int32)), (.ref e2)])) rfl rfl (hb hby d_jdk_42m147_18)
  obtain ⟨kk_4, vs_4, ⟨cl_4, Ar_4, -, Sa_4, Na_4, -, -⟩, -⟩ := id B_e2
  have cpb_5 : own_cp (0 : Int32) c m m L := hcp
  obtain ⟨ka_5, va_5, Aa_5, la_5⟩ := id B_e2
  obtain ⟨kb_5, vb_5, Ab_5, lb_5⟩ := id B_d
  obtain ⟨T_5, h_5, L_5, X_5, e_5, N_5, Kc_5, Vq_5, st_5⟩ := cpA X_3 hx hZ hown (ow hw 95 rfl) (ow hw 98 rfl) (ow hw 96 rfl) (ow hw 97 rfl) e_3 Aa_5 Ab_5 (Or.inl ⟨rfl, rfl⟩) (sp := (0 : Int32)) (dp := c) (nn := m) cpb_5.1 cpb_5.2.1 cpb_5.2.2.1 cpb_5.2.2.2.1 cpb_5.2.2.2.2 rfl (Nat.le_trans cpb_5.2.2.2.2 lb_5) N_1 g_d (g := (mkF mM 22 #[.val (.ref s), .val (.ref d), .val (.int c), .val (.int (0 : Int32))] [(.int m), (.int c), (.ref d), (.int (0 : Int32)), (.ref e2)])) rfl (by rw [hml]; rfl) rfl (hb hby d_jdk_42m147_22) (by decide) (W := 0) (by show 2 * 0 + _ ≤ _; exact Nat.le_of_eq rfl) (by decide)
  have Z_5 : n0 ≤ h_5.size := (Nat.le_trans Z0 Kc_5.1)
  have K_5 : Keep h0 h_5 [d] := (Keep.refl h0 [d]).trans Kc_5 (allS (Or.inl (List.mem_of_getElem? (i := 0) rfl)) all0)
  have Bq_5 : own_B Z h_5 d L := own_B.cp Vq_5 (Nat.le_trans cpb_5.2.2.2.2 lb_5) lb_5
  obtain ⟨fs, hr, hrun, hended, hW, hsame⟩ := X_5.leave (v := none) (fun _ => rfl)
  refine ⟨_, _, pre0 _ ?_, hrun, hended, _, _, rfl, ?_, ⟨_, rfl⟩, hW, hsame.mono (by decide) (by decide)⟩
  · show oS pP eE below s₁ (mkF mM 0 #[.val (.ref s), .val (.ref d), .val (.int c), .val (.int (0 : Int32))] []) _
    refine XS.aloadN X0.here hx rfl (hb hby d_jdk_42m147_0) rfl rfl ?_
    show oS pP eE below s₁ (mkF mM 1 #[.val (.ref s), .val (.ref d), .val (.int c), .val (.int (0 : Int32))] [(.ref s)]) _
    refine st_1.trans ?_
    show oS pP eE below T_1 (mkF mM 4 #[.val (.ref s), .val (.ref d), .val (.int c), .val (.int (0 : Int32))] [(.int (0 : Int32))]) _
    refine XS.iloadN X_1.here hx rfl (hb hby d_jdk_42m147_4) rfl ?_
    refine XS.icmpNo X_1.here hx rfl (hb hby d_jdk_42m147_5) rfl (by decide) ?_
    refine XS.aloadN X_1.here hx rfl (hb hby d_jdk_42m147_8) rfl rfl ?_
    show oS pP eE below T_1 (mkF mM 9 #[.val (.ref s), .val (.ref d), .val (.int c), .val (.int (0 : Int32))] [(.ref s)]) _
    refine st_2 _ ?_
    show oS pP eE below T_2 (mkF mM 12 #[.val (.ref s), .val (.ref d), .val (.int c), .val (.int (0 : Int32))] [(.ref e2)]) _
    refine XS.iconst X_2.here hx rfl (hb hby d_jdk_42m147_12) ?_
    refine XS.aloadN X_2.here hx rfl (hb hby d_jdk_42m147_13) rfl rfl ?_
    refine XS.iloadN X_2.here hx rfl (hb hby d_jdk_42m147_14) rfl ?_
    refine XS.iloadN X_2.here hx rfl (hb hby d_jdk_42m147_15) rfl ?_
    show oS pP eE below T_2 (mkF mM 16 #[.val (.ref s), .val (.ref d), .val (.int c), .val (.int (0 : Int32))] [(.int (0 : Int32)), (.int c), (.ref d), (.int (0 : Int32)), (.ref e2)]) _
    refine XT.ishl X_2.here hx rfl (hb hby d_jdk_42m147_16) rfl ?_
    show Steps pP.tables eE below (T_2.setTop (mkF mM 17 #[.val (.ref s), .val (.ref d), .val (.int c), .val (.int (0 : Int32))] [(.int (c <<< ((0 : Int32) &&& 31))), (.ref d), (.int (0 : Int32)), (.ref e2)])) _
    rw [(own_shl0 c)]
    refine XS.aloadN X_2.here hx rfl (hb hby d_jdk_42m147_17) rfl rfl ?_
    show oS pP eE below T_2 (mkF mM 18 #[.val (.ref s), .val (.ref d), .val (.int c), .val (.int (0 : Int32))] [(.ref s), (.int c), (.ref d), (.int (0 : Int32)), (.ref e2)]) _
    refine st_3 _ ?_
    show oS pP eE below T_3 (mkF mM 21 #[.val (.ref s), .val (.ref d), .val (.int c), .val (.int (0 : Int32))] [(.ref e2), (.int c), (.ref d), (.int (0 : Int32)), (.ref e2)]) _
    refine X_3.arraylength hx (by rw [e_3]; exact Ar_4.1) (State.isArrayOf_alike hZ.alike Ar_4.2.1) (g := (mkF mM 21 #[.val (.ref s), .val (.ref d), .val (.int c), .val (.int (0 : Int32))] [(.ref e2), (.int c), (.ref d), (.int (0 : Int32)), (.ref e2)])) rfl rfl (hb hby d_jdk_42m147_21) _ ?_
    rw [len_of Sa_4 Na_4]
    show oS pP eE below T_3 (mkF mM 22 #[.val (.ref s), .val (.ref d), .val (.int c), .val (.int (0 : Int32))] [(.int m), (.int c), (.ref d), (.int (0 : Int32)), (.ref e2)]) _
    refine st_5 _ ?_
    show oS pP eE below T_5 (mkF mM 25 #[.val (.ref s), .val (.ref d), .val (.int c), .val (.int (0 : Int32))] []) _
    refine XS.goto X_5.here hx rfl (pc0 := 25) (pc' := 43) rfl (hb hby d_jdk_42m147_25) (by decide) (by decide) ?_
    show oS pP eE below T_5 (mkF mM 43 #[.val (.ref s), .val (.ref d), .val (.int c), .val (.int (0 : Int32))] []) _
    exact X_5.returnOut hx Bd.returns (hb hby d_jdk_42m147_43) hr
  · show Q_getb Z s e2 d m c L cs h0 n0 _ T_5.heap _
    rw [e_5]
    exact ⟨rfl, N_5, K_5, Bq_5⟩
theorem d_jdk_68m73_0 : decode jdk_68_method_73_code 0 = .ok (.aload_n 0, 1) := by decide +kernel
theorem d_jdk_68m73_1 : decode jdk_68_method_73_code 1 = .ok (.aload_n 2, 1) := by decide +kernel
theorem d_jdk_68m73_2 : decode jdk_68_method_73_code 2 = .ok (.invokevirtual 397, 3) := by decide +kernel
theorem pd_6 : parseMethodDescriptor "(Ljava/lang/String;)V" = some ⟨[(.object "java/lang/String")], none⟩ := by decide +kernel
abbrev MN7 : MethodName := ⟨"java/lang/AbstractStringBuilder", "inflateIfNeededFor", "(Ljava/lang/String;)V"⟩
theorem d_jdk_68m73_5 : decode jdk_68_method_73_code 5 = .ok (.aload_n 2, 1) := by decide +kernel
theorem d_jdk_68m73_6 : decode jdk_68_method_73_code 6 = .ok (.aload_n 0, 1) := by decide +kernel
theorem d_jdk_68m73_7 : decode jdk_68_method_73_code 7 = .ok (.getfield 15, 3) := by decide +kernel
theorem d_jdk_68m73_10 : decode jdk_68_method_73_code 10 = .ok (.iload_n 1, 1) := by decide +kernel
theorem d_jdk_68m73_11 : decode jdk_68_method_73_code 11 = .ok (.aload_n 0, 1) := by decide +kernel
theorem d_jdk_68m73_12 : decode jdk_68_method_73_code 12 = .ok (.getfield 22, 3) := by decide +kernel
theorem d_jdk_68m73_15 : decode jdk_68_method_73_code 15 = .ok (.invokevirtual 399, 3) := by decide +kernel
theorem pd_7 : parseMethodDescriptor "([BIB)V" = some ⟨[(.array .byte), .int, .byte], none⟩ := by decide +kernel
abbrev MN8 : MethodName := ⟨"java/lang/String", "getBytes", "([BIB)V"⟩
theorem d_jdk_68m73_18 : decode jdk_68_method_73_code 18 = .ok (.return_, 1) := by decide +kernel
theorem ef_put (mM : MethodId) (x0 : Addr) (x1 : Int32) (x2 : Addr) : entryFrame mM #[(.ref x0), (.int x1), (.ref x2)] 3 = mkF mM 0 #[.val (.ref x0), .val (.int x1), .val (.ref x2)] [] := by first | (simp [entryFrame, mkF, argsToLocals, Value.category]; done) | rfl
def Q_put (Z : State) (b : Addr) (s : Addr) (e2 : Addr) (d : Addr) (m : Int32) (c : Int32) (L : Int32) (cs : Int32) (h0 : Heap) (n0 : Nat) (v_ : Option Value) (h_ : Heap) (L_ : List Loc) : Prop := v_ = none ∧ Fr n0 L_ ∧ Keep h0 h_ [d] ∧ own_B Z h_ d L
set_option maxRecDepth 65536 in
set_option maxHeartbeats 40000000 in
theorem rm_put (l : Launch) (Z : State) (a0 : Array Value) (hw : ∀ d ∈ tables_1, d.before a0 Z = true) (ws : List Jvm.Cond) (b : Addr) (s : Addr) (e2 : Addr) (d : Addr) (m : Int32) (c : Int32) (L : Int32) (cs : Int32) (h0 : Heap) (n0 : Nat) (Z0 : n0 ≤ h0.size) (F_value_b : Fld Z h0 b "java/lang/AbstractStringBuilder" "value" "[B" (.ref d)) (F_coder_b : Fld Z h0 b "java/lang/AbstractStringBuilder" "coder" "B" (.int (0 : Int32))) (E_b : Exa Z h0 b "java/lang/StringBuilder") (F_value_s : Fld Z h0 s "java/lang/String" "value" "[B" (.ref e2)) (F_coder_s : Fld Z h0 s "java/lang/String" "coder" "B" (.int (0 : Int32))) (E_s : Exa Z h0 s "java/lang/String") (B_e2 : own_B Z h0 e2 m) (B_d : own_B Z h0 d L) (g_d : n0 ≤ d) (ned : e2 ≠ d) (hcp : own_cp (0 : Int32) c m m L) (S_String_COMPACT_STRINGS : Sta Z h0 "java/lang/String" "COMPACT_STRINGS" "Z" (.int cs)) (hcs : ¬ cs = 0) :
    MetFree l (⟨"java/lang/AbstractStringBuilder", "putStringAt", "(ILjava/lang/String;)V"⟩ : MethodName) (head1 (Jvm.Cond.code (⟨"java/lang/AbstractStringBuilder", "putStringAt", "(ILjava/lang/String;)V"⟩ : MethodName) jdk_68_method_73_code 3 none :: ws) oR9) (fun aa_ U_ => aa_ = #[(.ref b), (.int c), (.ref s)] ∧ Z.Warmed39 U_.vm ∧ U_.heap = h0) (fun _ _ _ _ _ => True) (fun _ U_ o_ U'_ => ∃ v_ L_, o_ = .returned v_ ∧ Q_put Z b s e2 d m c L cs h0 n0 v_ U'_.heap L_ ∧ FrameEnd U_ o_ U'_ L_ oR9.cells oR9.slots) := by
  refine MetFree.of_bodySF (plainFor_of_name pn_0) hisR ?_
  intro pP eE sS mM argsA below meth cC s₁ Bd hml0 hP hK
  obtain ⟨rfl, hZ, hh⟩ := hP
  have hx := Bd.exec
  have hby := Bd.bytes
  have hml : cC.maxLocals = 3 := hml0
  have hown : sS.vm.findClass "java/lang/AbstractStringBuilder" = some mM.cls := findClass_of_methodNamed Bd.named
  have hnm := (name_of_methodNamed Bd.named Bd.method).1
  have X0 : Stand pP l eE oR9 sS mM #[(.ref b), (.int c), (.ref s)] below meth cC s₁ [] 0 0 := Stand.of_body Bd
  have e0 : s₁.heap = h0 := by rw [← hh, Bd.state]; rfl
  have N0 := Fr.nil n0
  have pre0 : ∀ t_, Steps pP.tables eE below (s₁.setTop (mkF mM 0 #[.val (.ref b), .val (.int c), .val (.ref s)] [])) t_ → Steps pP.tables eE below (s₁.setTop (entryFrame mM #[(.ref b), (.int c), (.ref s)] 3)) t_ := fun t_ k_ => castTop (ef_put mM b c s) k_
  obtain ⟨cq_1, kq_1, q_1a, q_1b, q_1c⟩ := isOf hZ e0 E_b
  obtain ⟨_, _, ⟨T_1, L_1, k_1, n_1⟩, -, X_1, ⟨Lc_1, hQ_1, l_1, y_1, z_1⟩, st_1⟩ := X0.virtualBack hx (y := MN7) (z := MN7) hown (mvT hZ (ow hw 84 rfl)) (own_decl (mvT hZ (ow hw 85 rfl)) (mvT hZ (ow hw 88 rfl))) (notFace_of_selects (args := #[]) (mvT hZ (ow hw 87 rfl))) (mvT hZ (ow hw 87 rfl)) (mvT hZ (ow hw 85 rfl)) (by decide) (backOf (W := 0) (rm_infl l Z a0 hw [] b s cs h0 n0 Z0 F_coder_b F_coder_s E_s S_String_COMPACT_STRINGS hcs) hZ (ow hw 88 rfl) (ow hw 33 rfl) (by decide) (by decide)) q_1a q_1c (g := (mkF mM 2 #[.val (.ref b), .val (.int c), .val (.ref s)] [(.ref s), (.ref b)])) rfl (by rw [hml]; rfl) (Steps.refl _) (argsL := [(.ref s)]) (rest := []) (lenOf pd_6 rfl) rfl (by show 2 * 0 + _ ≤ _; exact Nat.le_of_eq rfl) (hb hby d_jdk_68m73_2) (fun _ _ => ⟨rfl, e0, (by decide : 0 + 0 ≤ _), (by decide : 0 + 0 ≤ _)⟩)
  dsimp only [Pt.U, Pt.locs, Pt.cells, Pt.slots] at X_1 l_1 y_1 z_1 st_1 hQ_1
  subst l_1 y_1 z_1
  obtain ⟨rfl, N_1q, eh_1⟩ := hQ_1
  have N_1 := Fr.app N0 N_1q
  obtain ⟨T_2, X_2, e_2, st_2⟩ := getF X_1 hx hZ hown (host := "") (Or.inl (ow hw 39 rfl)) Via.refl eh_1 F_value_b (g := (mkF mM 7 #[.val (.ref b), .val (.int c), .val (.ref s)] [(.ref b), (.ref s)])) rfl rfl (hb hby d_jdk_68m73_7)
  obtain ⟨T_3, X_3, e_3, st_3⟩ := getF X_2 hx hZ hown (host := "") (Or.inl (ow hw 41 rfl)) Via.refl e_2 F_coder_b (g := (mkF mM 12 #[.val (.ref b), .val (.int c), .val (.ref s)] [(.ref b), (.int c), (.ref d), (.ref s)])) rfl rfl (hb hby d_jdk_68m73_12)
  obtain ⟨cq_4, kq_4, q_4a, q_4b, q_4c⟩ := isOf hZ e_3 E_s
  obtain ⟨_, _, ⟨T_4, L_4, k_4, n_4⟩, -, X_4, ⟨Lc_4, hQ_4, l_4, y_4, z_4⟩, st_4⟩ := X_3.virtualBack hx (y := MN8) (z := MN8) hown (mvT hZ (ow hw 90 rfl)) (mvT hZ (ow hw 91 rfl)) (notFace_of_selects (args := #[]) (mvT hZ (ow hw 93 rfl))) (mvT hZ (ow hw 93 rfl)) (mvT hZ (ow hw 92 rfl)) (by decide) (backOf (W := 0) (rm_getb l Z a0 hw [] s e2 d m c L cs h0 n0 Z0 F_value_s F_coder_s E_s B_e2 B_d g_d ned hcp S_String_COMPACT_STRINGS hcs) hZ (ow hw 94 rfl) (ow hw 37 rfl) (by decide) (by decide)) q_4a q_4c (g := (mkF mM 15 #[.val (.ref b), .val (.int c), .val (.ref s)] [(.int (0 : Int32)), (.int c), (.ref d), (.ref s)])) rfl (by rw [hml]; rfl) (Steps.refl _) (argsL := [(.ref d), (.int c), (.int (0 : Int32))]) (rest := []) (lenOf pd_7 rfl) rfl (by show 2 * 0 + _ ≤ _; exact Nat.le_of_eq rfl) (hb hby d_jdk_68m73_15) (fun _ _ => ⟨rfl, e_3, (by decide : 0 + 0 ≤ _), (by decide : 0 + 0 ≤ _)⟩)
  dsimp only [Pt.U, Pt.locs, Pt.cells, Pt.slots] at X_4 l_4 y_4 z_4 st_4 hQ_4
  subst l_4 y_4 z_4
  obtain ⟨rfl, N_4q, Kc_4, pfB_d_4⟩ := hQ_4
  have Z_4 : n0 ≤ T_4.heap.size := (Nat.le_trans Z0 Kc_4.1)
  have K_4 : Keep h0 T_4.heap [d] := (Keep.refl h0 [d]).trans Kc_4 (allS (Or.inl (List.mem_of_getElem? (i := 0) rfl)) all0)
  have N_4 := Fr.app N_1 N_4q
  obtain ⟨fs, hr, hrun, hended, hW, hsame⟩ := X_4.leave (v := none) (fun _ => rfl)
  refine ⟨_, _, pre0 _ ?_, hrun, hended, _, _, rfl, ?_, ⟨_, rfl⟩, hW, hsame.mono (by decide) (by decide)⟩
  · show oS pP eE below s₁ (mkF mM 0 #[.val (.ref b), .val (.int c), .val (.ref s)] []) _
    refine XS.aloadN X0.here hx rfl (hb hby d_jdk_68m73_0) rfl rfl ?_
    refine XS.aloadN X0.here hx rfl (hb hby d_jdk_68m73_1) rfl rfl ?_
    show oS pP eE below s₁ (mkF mM 2 #[.val (.ref b), .val (.int c), .val (.ref s)] [(.ref s), (.ref b)]) _
    refine st_1.trans ?_
    show oS pP eE below T_1 (mkF mM 5 #[.val (.ref b), .val (.int c), .val (.ref s)] []) _
    refine XS.aloadN X_1.here hx rfl (hb hby d_jdk_68m73_5) rfl rfl ?_
    refine XS.aloadN X_1.here hx rfl (hb hby d_jdk_68m73_6) rfl rfl ?_
    show oS pP eE below T_1 (mkF mM 7 #[.val (.ref b), .val (.int c), .val (.ref s)] [(.ref b), (.ref s)]) _
    refine st_2 _ ?_
    show oS pP eE below T_2 (mkF mM 10 #[.val (.ref b), .val (.int c), .val (.ref s)] [(.ref d), (.ref s)]) _
    refine XS.iloadN X_2.here hx rfl (hb hby d_jdk_68m73_10) rfl ?_
    refine XS.aloadN X_2.here hx rfl (hb hby d_jdk_68m73_11) rfl rfl ?_
    show oS pP eE below T_2 (mkF mM 12 #[.val (.ref b), .val (.int c), .val (.ref s)] [(.ref b), (.int c), (.ref d), (.ref s)]) _
    refine st_3 _ ?_
    show oS pP eE below T_3 (mkF mM 15 #[.val (.ref b), .val (.int c), .val (.ref s)] [(.int (0 : Int32)), (.int c), (.ref d), (.ref s)]) _
    refine st_4.trans ?_
    show oS pP eE below T_4 (mkF mM 18 #[.val (.ref b), .val (.int c), .val (.ref s)] []) _
    exact X_4.returnOut hx Bd.returns (hb hby d_jdk_68m73_18) hr
  · show Q_put Z b s e2 d m c L cs h0 n0 _ T_4.heap _
    exact ⟨rfl, N_4, K_4, pfB_d_4⟩
theorem d_jdk_68m22_0 : decode jdk_68_method_22_code 0 = .ok (.aload_n 1, 1) := by decide +kernel
theorem d_jdk_68m22_1 : decode jdk_68_method_22_code 1 = .ok (.ifnonnull 8, 3) := by decide +kernel
theorem d_jdk_68m22_9 : decode jdk_68_method_22_code 9 = .ok (.aload_n 1, 1) := by decide +kernel
theorem d_jdk_68m22_10 : decode jdk_68_method_22_code 10 = .ok (.invokevirtual 32, 3) := by decide +kernel
theorem pd_8 : parseMethodDescriptor "()I" = some ⟨[], some .int⟩ := by decide +kernel
abbrev MN9 : MethodName := ⟨"java/lang/String", "length", "()I"⟩
theorem d_jdk_68m22_13 : decode jdk_68_method_22_code 13 = .ok (.istore_n 2, 1) := by decide +kernel
theorem d_jdk_68m22_14 : decode jdk_68_method_22_code 14 = .ok (.aload_n 0, 1) := by decide +kernel
theorem d_jdk_68m22_15 : decode jdk_68_method_22_code 15 = .ok (.aload_n 0, 1) := by decide +kernel
theorem d_jdk_68m22_16 : decode jdk_68_method_22_code 16 = .ok (.getfield 79, 3) := by decide +kernel
theorem d_jdk_68m22_19 : decode jdk_68_method_22_code 19 = .ok (.iload_n 2, 1) := by decide +kernel
theorem d_jdk_68m22_20 : decode jdk_68_method_22_code 20 = .ok (.iadd, 1) := by decide +kernel
theorem d_jdk_68m22_21 : decode jdk_68_method_22_code 21 = .ok (.invokevirtual 100, 3) := by decide +kernel
abbrev MN10 : MethodName := ⟨"java/lang/AbstractStringBuilder", "ensureCapacityInternal", "(I)V"⟩
theorem d_jdk_68m22_24 : decode jdk_68_method_22_code 24 = .ok (.aload_n 0, 1) := by decide +kernel
theorem d_jdk_68m22_25 : decode jdk_68_method_22_code 25 = .ok (.aload_n 0, 1) := by decide +kernel
theorem d_jdk_68m22_26 : decode jdk_68_method_22_code 26 = .ok (.getfield 79, 3) := by decide +kernel
theorem d_jdk_68m22_29 : decode jdk_68_method_22_code 29 = .ok (.aload_n 1, 1) := by decide +kernel
theorem d_jdk_68m22_30 : decode jdk_68_method_22_code 30 = .ok (.invokevirtual 208, 3) := by decide +kernel
theorem pd_9 : parseMethodDescriptor "(ILjava/lang/String;)V" = some ⟨[.int, (.object "java/lang/String")], none⟩ := by decide +kernel
abbrev MN11 : MethodName := ⟨"java/lang/AbstractStringBuilder", "putStringAt", "(ILjava/lang/String;)V"⟩
theorem d_jdk_68m22_33 : decode jdk_68_method_22_code 33 = .ok (.aload_n 0, 1) := by decide +kernel
theorem d_jdk_68m22_34 : decode jdk_68_method_22_code 34 = .ok (.dup, 1) := by decide +kernel
theorem d_jdk_68m22_35 : decode jdk_68_method_22_code 35 = .ok (.getfield 79, 3) := by decide +kernel
theorem d_jdk_68m22_38 : decode jdk_68_method_22_code 38 = .ok (.iload_n 2, 1) := by decide +kernel
theorem d_jdk_68m22_39 : decode jdk_68_method_22_code 39 = .ok (.iadd, 1) := by decide +kernel
theorem d_jdk_68m22_40 : decode jdk_68_method_22_code 40 = .ok (.putfield 79, 3) := by decide +kernel
theorem d_jdk_68m22_43 : decode jdk_68_method_22_code 43 = .ok (.aload_n 0, 1) := by decide +kernel
theorem d_jdk_68m22_44 : decode jdk_68_method_22_code 44 = .ok (.areturn, 1) := by decide +kernel
theorem ef_aa16 (mM : MethodId) (x0 : Addr) (x1 : Addr) : entryFrame mM #[(.ref x0), (.ref x1)] 3 = mkF mM 0 #[.val (.ref x0), .val (.ref x1), .unset] [] := by first | (simp [entryFrame, mkF, argsToLocals, Value.category]; done) | rfl
def Q_aa16 (Z : State) (b : Addr) (s : Addr) (e2 : Addr) (d : Addr) (m : Int32) (c : Int32) (cn : Int32) (cs : Int32) (h0 : Heap) (n0 : Nat) (v_ : Option Value) (h_ : Heap) (L_ : List Loc) : Prop := v_ = some (.ref b) ∧ Fr n0 L_ ∧ Keep h0 h_ [b, d] ∧ Fld Z h_ b "java/lang/AbstractStringBuilder" "value" "[B" (.ref d) ∧ Fld Z h_ b "java/lang/AbstractStringBuilder" "coder" "B" (.int (0 : Int32)) ∧ Fld Z h_ b "java/lang/AbstractStringBuilder" "count" "I" (.int cn) ∧ Exa Z h_ b "java/lang/StringBuilder" ∧ own_B Z h_ d (16 : Int32)
set_option maxRecDepth 65536 in
set_option maxHeartbeats 40000000 in
theorem rm_aa16 (l : Launch) (Z : State) (a0 : Array Value) (hw : ∀ d ∈ tables_1, d.before a0 Z = true) (ws : List Jvm.Cond) (b : Addr) (s : Addr) (e2 : Addr) (d : Addr) (m : Int32) (c : Int32) (cn : Int32) (cs : Int32) (h0 : Heap) (n0 : Nat) (Z0 : n0 ≤ h0.size) (F_value_b : Fld Z h0 b "java/lang/AbstractStringBuilder" "value" "[B" (.ref d)) (F_coder_b : Fld Z h0 b "java/lang/AbstractStringBuilder" "coder" "B" (.int (0 : Int32))) (F_count_b : Fld Z h0 b "java/lang/AbstractStringBuilder" "count" "I" (.int c)) (E_b : Exa Z h0 b "java/lang/StringBuilder") (g_b : n0 ≤ b) (g_d : n0 ≤ d) (F_value_s : Fld Z h0 s "java/lang/String" "value" "[B" (.ref e2)) (F_coder_s : Fld Z h0 s "java/lang/String" "coder" "B" (.int (0 : Int32))) (E_s : Exa Z h0 s "java/lang/String") (B_e2 : own_B Z h0 e2 m) (ned : e2 ≠ d) (nbs : b ≠ s) (hcn : (c + m) = cn) (S_String_COMPACT_STRINGS : Sta Z h0 "java/lang/String" "COMPACT_STRINGS" "Z" (.int cs)) (hcs : ¬ cs = 0) (B_d : own_B Z h0 d (16 : Int32)) (hno : ¬ 0 < (cn - (16 : Int32))) (hcp : own_cp (0 : Int32) c m m (16 : Int32)) :
    MetFree l (⟨"java/lang/AbstractStringBuilder", "append", "(Ljava/lang/String;)Ljava/lang/AbstractStringBuilder;"⟩ : MethodName) (head1 (Jvm.Cond.code (⟨"java/lang/AbstractStringBuilder", "append", "(Ljava/lang/String;)Ljava/lang/AbstractStringBuilder;"⟩ : MethodName) jdk_68_method_22_code 3 (some (.object "java/lang/AbstractStringBuilder")) :: ws) oR10) (fun aa_ U_ => aa_ = #[(.ref b), (.ref s)] ∧ Z.Warmed39 U_.vm ∧ U_.heap = h0) (fun _ _ _ _ _ => True) (fun _ U_ o_ U'_ => ∃ v_ L_, o_ = .returned v_ ∧ Q_aa16 Z b s e2 d m c cn cs h0 n0 v_ U'_.heap L_ ∧ FrameEnd U_ o_ U'_ L_ oR10.cells oR10.slots) := by
  refine MetFree.of_bodySF (plainFor_of_name pn_0) hisR ?_
  intro pP eE sS mM argsA below meth cC s₁ Bd hml0 hP hK
  obtain ⟨rfl, hZ, hh⟩ := hP
  have hx := Bd.exec
  have hby := Bd.bytes
  have hml : cC.maxLocals = 3 := hml0
  have hown : sS.vm.findClass "java/lang/AbstractStringBuilder" = some mM.cls := findClass_of_methodNamed Bd.named
  have hnm := (name_of_methodNamed Bd.named Bd.method).1
  have X0 : Stand pP l eE oR10 sS mM #[(.ref b), (.ref s)] below meth cC s₁ [] 0 0 := Stand.of_body Bd
  have e0 : s₁.heap = h0 := by rw [← hh, Bd.state]; rfl
  have N0 := Fr.nil n0
  have pre0 : ∀ t_, Steps pP.tables eE below (s₁.setTop (mkF mM 0 #[.val (.ref b), .val (.ref s), .unset] [])) t_ → Steps pP.tables eE below (s₁.setTop (entryFrame mM #[(.ref b), (.ref s)] 3)) t_ := fun t_ k_ => castTop (ef_aa16 mM b s) k_
  obtain ⟨cq_1, kq_1, q_1a, q_1b, q_1c⟩ := isOf hZ e0 E_s
  obtain ⟨_, _, ⟨T_1, L_1, k_1, n_1⟩, -, X_1, ⟨Lc_1, hQ_1, l_1, y_1, z_1⟩, st_1⟩ := X0.virtualBack hx (y := MN9) (z := MN9) hown (mvT hZ (ow hw 59 rfl)) (mvT hZ (ow hw 60 rfl)) (notFace_of_selects (args := #[]) (mvT hZ (ow hw 62 rfl))) (mvT hZ (ow hw 62 rfl)) (mvT hZ (ow hw 61 rfl)) (by decide) (backOf (W := 0) (rm_slen l Z a0 hw [] s e2 m cs h0 n0 Z0 F_value_s F_coder_s E_s B_e2 S_String_COMPACT_STRINGS hcs) hZ (ow hw 63 rfl) (ow hw 37 rfl) (by decide) (by decide)) q_1a q_1c (g := (mkF mM 10 #[.val (.ref b), .val (.ref s), .unset] [(.ref s)])) rfl (by rw [hml]; rfl) (Steps.refl _) (argsL := []) (rest := []) (lenOf pd_8 rfl) rfl (by show 2 * 0 + _ ≤ _; exact Nat.le_of_eq rfl) (hb hby d_jdk_68m22_10) (fun _ _ => ⟨rfl, e0, (by decide : 0 + 0 ≤ _), (by decide : 0 + 0 ≤ _)⟩)
  dsimp only [Pt.U, Pt.locs, Pt.cells, Pt.slots] at X_1 l_1 y_1 z_1 st_1 hQ_1
  subst l_1 y_1 z_1
  obtain ⟨rfl, N_1q, eh_1⟩ := hQ_1
  have N_1 := Fr.app N0 N_1q
  obtain ⟨T_2, X_2, e_2, st_2⟩ := getF X_1 hx hZ hown (host := "") (Or.inl (ow hw 72 rfl)) Via.refl eh_1 F_count_b (g := (mkF mM 16 #[.val (.ref b), .val (.ref s), .val (.int m)] [(.ref b), (.ref b)])) rfl rfl (hb hby d_jdk_68m22_16)
  obtain ⟨cq_3, kq_3, q_3a, q_3b, q_3c⟩ := isOf hZ e_2 E_b
  obtain ⟨_, _, ⟨T_3, L_3, k_3, n_3⟩, -, X_3, ⟨Lc_3, hQ_3, l_3, y_3, z_3⟩, st_3⟩ := X_2.virtualBack hx (y := MN10) (z := MN10) hown (mvT hZ (ow hw 74 rfl)) (own_decl (mvT hZ (ow hw 75 rfl)) (mvT hZ (ow hw 78 rfl))) (notFace_of_selects (args := #[]) (mvT hZ (ow hw 77 rfl))) (mvT hZ (ow hw 77 rfl)) (mvT hZ (ow hw 75 rfl)) (by decide) (backOf (W := 0) (rm_ens16 l Z a0 hw [] b d cn h0 n0 Z0 F_value_b F_coder_b B_d hno) hZ (ow hw 78 rfl) (ow hw 33 rfl) (by decide) (by decide)) q_3a q_3c (g := (mkF mM 21 #[.val (.ref b), .val (.ref s), .val (.int m)] [(.int cn), (.ref b)])) rfl (by rw [hml]; rfl) (Steps.refl _) (argsL := [(.int cn)]) (rest := []) (lenOf pd_0 rfl) rfl (by show 2 * 0 + _ ≤ _; exact Nat.le_of_eq rfl) (hb hby d_jdk_68m22_21) (fun _ _ => ⟨rfl, e_2, (by decide : 0 + 0 ≤ _), (by decide : 0 + 0 ≤ _)⟩)
  dsimp only [Pt.U, Pt.locs, Pt.cells, Pt.slots] at X_3 l_3 y_3 z_3 st_3 hQ_3
  subst l_3 y_3 z_3
  obtain ⟨rfl, N_3q, eh_3⟩ := hQ_3
  have N_3 := Fr.app N_1 N_3q
  obtain ⟨T_4, X_4, e_4, st_4⟩ := getF X_3 hx hZ hown (host := "") (Or.inl (ow hw 72 rfl)) Via.refl eh_3 F_count_b (g := (mkF mM 26 #[.val (.ref b), .val (.ref s), .val (.int m)] [(.ref b), (.ref b)])) rfl rfl (hb hby d_jdk_68m22_26)
  obtain ⟨cq_5, kq_5, q_5a, q_5b, q_5c⟩ := isOf hZ e_4 E_b
  obtain ⟨_, _, ⟨T_5, L_5, k_5, n_5⟩, -, X_5, ⟨Lc_5, hQ_5, l_5, y_5, z_5⟩, st_5⟩ := X_4.virtualBack hx (y := MN11) (z := MN11) hown (mvT hZ (ow hw 79 rfl)) (own_decl (mvT hZ (ow hw 80 rfl)) (mvT hZ (ow hw 83 rfl))) (notFace_of_selects (args := #[]) (mvT hZ (ow hw 82 rfl))) (mvT hZ (ow hw 82 rfl)) (mvT hZ (ow hw 80 rfl)) (by decide) (backOf (W := 0) (rm_put l Z a0 hw [] b s e2 d m c (16 : Int32) cs h0 n0 Z0 F_value_b F_coder_b E_b F_value_s F_coder_s E_s B_e2 B_d g_d ned hcp S_String_COMPACT_STRINGS hcs) hZ (ow hw 83 rfl) (ow hw 33 rfl) (by decide) (by decide)) q_5a q_5c (g := (mkF mM 30 #[.val (.ref b), .val (.ref s), .val (.int m)] [(.ref s), (.int c), (.ref b)])) rfl (by rw [hml]; rfl) (Steps.refl _) (argsL := [(.int c), (.ref s)]) (rest := []) (lenOf pd_9 rfl) rfl (by show 2 * 0 + _ ≤ _; exact Nat.le_of_eq rfl) (hb hby d_jdk_68m22_30) (fun _ _ => ⟨rfl, e_4, (by decide : 0 + 0 ≤ _), (by decide : 0 + 0 ≤ _)⟩)
  dsimp only [Pt.U, Pt.locs, Pt.cells, Pt.slots] at X_5 l_5 y_5 z_5 st_5 hQ_5
  subst l_5 y_5 z_5
  obtain ⟨rfl, N_5q, Kc_5, pfB_d_5⟩ := hQ_5
  have Z_5 : n0 ≤ T_5.heap.size := (Nat.le_trans Z0 Kc_5.1)
  have K_5 : Keep h0 T_5.heap [b, d] := (Keep.refl h0 [b, d]).trans Kc_5 (allS (Or.inl (List.mem_of_getElem? (i := 1) rfl)) all0)
  have N_5 := Fr.app N_3 N_5q
  obtain ⟨T_6, X_6, e_6, st_6⟩ := getF X_5 hx hZ hown (host := "") (Or.inl (ow hw 72 rfl)) Via.refl rfl (F_count_b.keep Kc_5 (ninS (own_B.neE B_d E_b (ow hw 24 rfl)) nin0)) (g := (mkF mM 35 #[.val (.ref b), .val (.ref s), .val (.int m)] [(.ref b), (.ref b)])) rfl rfl (hb hby d_jdk_68m22_35)
  obtain ⟨T_7, h_7, X_7, e_7, W_7, st_7⟩ := putF X_6 hx hZ hown (host := "") (Or.inl (ow hw 72 rfl)) Via.refl e_6 (F_count_b.keep Kc_5 (ninS (own_B.neE B_d E_b (ow hw 24 rfl)) nin0)) (E_b.keep Kc_5) (Or.inl (ow hw 73 rfl)) (ow hw 24 rfl) (ty := .int) (by decide) rfl rfl (g := (mkF mM 40 #[.val (.ref b), .val (.ref s), .val (.int m)] [(.int cn), (.ref b)])) rfl rfl (hb hby d_jdk_68m22_40)
  have Fw_7 := (F_count_b.keep Kc_5 (ninS (own_B.neE B_d E_b (ow hw 24 rfl)) nin0)).same W_7
  have Z_7 : n0 ≤ h_7.size := (Nat.le_trans Z_5 (Keep.of_wr W_7).1)
  have K_7 : Keep h0 h_7 [b, d] := K_5.wr W_7 (Or.inl (List.mem_of_getElem? (i := 0) rfl))
  have N_7 := Fr.snoc X_7 N_5 g_b
  obtain ⟨fs, hr, hrun, hended, hW, hsame⟩ := X_7.leave (v := some (.ref b)) (fun h => by rw [Bd.returns] at h; cases h)
  refine ⟨_, _, pre0 _ ?_, hrun, hended, _, _, rfl, ?_, ⟨_, rfl⟩, hW, hsame.mono (by decide) (by decide)⟩
  · show oS pP eE below s₁ (mkF mM 0 #[.val (.ref b), .val (.ref s), .unset] []) _
    refine XS.aloadN X0.here hx rfl (hb hby d_jdk_68m22_0) rfl rfl ?_
    show oS pP eE below s₁ (mkF mM 1 #[.val (.ref b), .val (.ref s), .unset] [(.ref s)]) _
    refine XT.ifnonnullYes X0.here hx rfl (pc0 := 1) (pc' := 9) rfl (hb hby d_jdk_68m22_1) rfl (by decide) (by decide) ?_
    refine XS.aloadN X0.here hx rfl (hb hby d_jdk_68m22_9) rfl rfl ?_
    show oS pP eE below s₁ (mkF mM 10 #[.val (.ref b), .val (.ref s), .unset] [(.ref s)]) _
    refine st_1.trans ?_
    show oS pP eE below T_1 (mkF mM 13 #[.val (.ref b), .val (.ref s), .unset] [(.int m)]) _
    refine XS.istoreN X_1.here hx rfl (hb hby d_jdk_68m22_13) rfl (l' := #[.val (.ref b), .val (.ref s), .val (.int m)]) rfl ?_
    refine XS.aloadN X_1.here hx rfl (hb hby d_jdk_68m22_14) rfl rfl ?_
    refine XS.aloadN X_1.here hx rfl (hb hby d_jdk_68m22_15) rfl rfl ?_
    show oS pP eE below T_1 (mkF mM 16 #[.val (.ref b), .val (.ref s), .val (.int m)] [(.ref b), (.ref b)]) _
    refine st_2 _ ?_
    show oS pP eE below T_2 (mkF mM 19 #[.val (.ref b), .val (.ref s), .val (.int m)] [(.int c), (.ref b)]) _
    refine XS.iloadN X_2.here hx rfl (hb hby d_jdk_68m22_19) rfl ?_
    show oS pP eE below T_2 (mkF mM 20 #[.val (.ref b), .val (.ref s), .val (.int m)] [(.int m), (.int c), (.ref b)]) _
    refine XS.iadd X_2.here hx rfl (hb hby d_jdk_68m22_20) rfl ?_
    show Steps pP.tables eE below (T_2.setTop (mkF mM 21 #[.val (.ref b), .val (.ref s), .val (.int m)] [(.int (c + m)), (.ref b)])) _
    rw [hcn]
    show oS pP eE below T_2 (mkF mM 21 #[.val (.ref b), .val (.ref s), .val (.int m)] [(.int cn), (.ref b)]) _
    refine st_3.trans ?_
    show oS pP eE below T_3 (mkF mM 24 #[.val (.ref b), .val (.ref s), .val (.int m)] []) _
    refine XS.aloadN X_3.here hx rfl (hb hby d_jdk_68m22_24) rfl rfl ?_
    refine XS.aloadN X_3.here hx rfl (hb hby d_jdk_68m22_25) rfl rfl ?_
    show oS pP eE below T_3 (mkF mM 26 #[.val (.ref b), .val (.ref s), .val (.int m)] [(.ref b), (.ref b)]) _
    refine st_4 _ ?_
    show oS pP eE below T_4 (mkF mM 29 #[.val (.ref b), .val (.ref s), .val (.int m)] [(.int c), (.ref b)]) _
    refine XS.aloadN X_4.here hx rfl (hb hby d_jdk_68m22_29) rfl rfl ?_
    show oS pP eE below T_4 (mkF mM 30 #[.val (.ref b), .val (.ref s), .val (.int m)] [(.ref s), (.int c), (.ref b)]) _
    refine st_5.trans ?_
    show oS pP eE below T_5 (mkF mM 33 #[.val (.ref b), .val (.ref s), .val (.int m)] []) _
    refine XS.aloadN X_5.here hx rfl (hb hby d_jdk_68m22_33) rfl rfl ?_
    refine XS.dup X_5.here hx rfl (hb hby d_jdk_68m22_34) rfl rfl ?_
    show oS pP eE below T_5 (mkF mM 35 #[.val (.ref b), .val (.ref s), .val (.int m)] [(.ref b), (.ref b)]) _
    refine st_6 _ ?_
    show oS pP eE below T_6 (mkF mM 38 #[.val (.ref b), .val (.ref s), .val (.int m)] [(.int c), (.ref b)]) _
    refine XS.iloadN X_6.here hx rfl (hb hby d_jdk_68m22_38) rfl ?_
    show oS pP eE below T_6 (mkF mM 39 #[.val (.ref b), .val (.ref s), .val (.int m)] [(.int m), (.int c), (.ref b)]) _
    refine XS.iadd X_6.here hx rfl (hb hby d_jdk_68m22_39) rfl ?_
    show Steps pP.tables eE below (T_6.setTop (mkF mM 40 #[.val (.ref b), .val (.ref s), .val (.int m)] [(.int (c + m)), (.ref b)])) _
    rw [hcn]
    show oS pP eE below T_6 (mkF mM 40 #[.val (.ref b), .val (.ref s), .val (.int m)] [(.int cn), (.ref b)]) _
    refine st_7 _ ?_
    show oS pP eE below T_7 (mkF mM 43 #[.val (.ref b), .val (.ref s), .val (.int m)] []) _
    refine XS.aloadN X_7.here hx rfl (hb hby d_jdk_68m22_43) rfl rfl ?_
    show oS pP eE below T_7 (mkF mM 44 #[.val (.ref b), .val (.ref s), .val (.int m)] [(.ref b)]) _
    exact retOut X_7 hx Bd.returns rfl (Or.inr (Or.inr (Or.inr (Or.inr ⟨rfl, rfl, rfl⟩)))) (hb hby d_jdk_68m22_44) hr
  · show Q_aa16 Z b s e2 d m c cn cs h0 n0 _ T_7.heap _
    rw [e_7]
    exact ⟨rfl, N_7, K_7, ((F_value_b.keep Kc_5 (ninS (own_B.neE B_d E_b (ow hw 24 rfl)) nin0)).other W_7 (Or.inr (slot_ne (Or.inl (ow hw 40 rfl)) (Or.inl (ow hw 73 rfl)) (by decide) (t := (.array .byte)) (t' := .int) (by decide) (by decide)))), ((F_coder_b.keep Kc_5 (ninS (own_B.neE B_d E_b (ow hw 24 rfl)) nin0)).other W_7 (Or.inr (slot_ne (Or.inl (ow hw 42 rfl)) (Or.inl (ow hw 73 rfl)) (by decide) (t := .byte) (t' := .int) (by decide) (by decide)))), Fw_7, ((E_b.keep Kc_5).wr W_7), (pfB_d_5.other W_7 (Ne.symm (own_B.neE B_d E_b (ow hw 24 rfl))))⟩
theorem ef_aa34 (mM : MethodId) (x0 : Addr) (x1 : Addr) : entryFrame mM #[(.ref x0), (.ref x1)] 3 = mkF mM 0 #[.val (.ref x0), .val (.ref x1), .unset] [] := by first | (simp [entryFrame, mkF, argsToLocals, Value.category]; done) | rfl
def Q_aa34 (Z : State) (b : Addr) (s : Addr) (e2 : Addr) (d : Addr) (m : Int32) (c : Int32) (cn : Int32) (cs : Int32) (h0 : Heap) (n0 : Nat) (v_ : Option Value) (h_ : Heap) (L_ : List Loc) : Prop := v_ = some (.ref b) ∧ Fr n0 L_ ∧ Keep h0 h_ [b, d] ∧ Fld Z h_ b "java/lang/AbstractStringBuilder" "value" "[B" (.ref d) ∧ Fld Z h_ b "java/lang/AbstractStringBuilder" "coder" "B" (.int (0 : Int32)) ∧ Fld Z h_ b "java/lang/AbstractStringBuilder" "count" "I" (.int cn) ∧ Exa Z h_ b "java/lang/StringBuilder" ∧ own_B Z h_ d (34 : Int32)
set_option maxRecDepth 65536 in
set_option maxHeartbeats 40000000 in
theorem rm_aa34 (l : Launch) (Z : State) (a0 : Array Value) (hw : ∀ d ∈ tables_1, d.before a0 Z = true) (ws : List Jvm.Cond) (b : Addr) (s : Addr) (e2 : Addr) (d : Addr) (m : Int32) (c : Int32) (cn : Int32) (cs : Int32) (h0 : Heap) (n0 : Nat) (Z0 : n0 ≤ h0.size) (F_value_b : Fld Z h0 b "java/lang/AbstractStringBuilder" "value" "[B" (.ref d)) (F_coder_b : Fld Z h0 b "java/lang/AbstractStringBuilder" "coder" "B" (.int (0 : Int32))) (F_count_b : Fld Z h0 b "java/lang/AbstractStringBuilder" "count" "I" (.int c)) (E_b : Exa Z h0 b "java/lang/StringBuilder") (g_b : n0 ≤ b) (g_d : n0 ≤ d) (F_value_s : Fld Z h0 s "java/lang/String" "value" "[B" (.ref e2)) (F_coder_s : Fld Z h0 s "java/lang/String" "coder" "B" (.int (0 : Int32))) (E_s : Exa Z h0 s "java/lang/String") (B_e2 : own_B Z h0 e2 m) (ned : e2 ≠ d) (nbs : b ≠ s) (hcn : (c + m) = cn) (S_String_COMPACT_STRINGS : Sta Z h0 "java/lang/String" "COMPACT_STRINGS" "Z" (.int cs)) (hcs : ¬ cs = 0) (B_d : own_B Z h0 d (34 : Int32)) (hno : ¬ 0 < (cn - (34 : Int32))) (hcp : own_cp (0 : Int32) c m m (34 : Int32)) :
    MetFree l (⟨"java/lang/AbstractStringBuilder", "append", "(Ljava/lang/String;)Ljava/lang/AbstractStringBuilder;"⟩ : MethodName) (head1 (Jvm.Cond.code (⟨"java/lang/AbstractStringBuilder", "append", "(Ljava/lang/String;)Ljava/lang/AbstractStringBuilder;"⟩ : MethodName) jdk_68_method_22_code 3 (some (.object "java/lang/AbstractStringBuilder")) :: ws) oR10) (fun aa_ U_ => aa_ = #[(.ref b), (.ref s)] ∧ Z.Warmed39 U_.vm ∧ U_.heap = h0) (fun _ _ _ _ _ => True) (fun _ U_ o_ U'_ => ∃ v_ L_, o_ = .returned v_ ∧ Q_aa34 Z b s e2 d m c cn cs h0 n0 v_ U'_.heap L_ ∧ FrameEnd U_ o_ U'_ L_ oR10.cells oR10.slots) := by
  refine MetFree.of_bodySF (plainFor_of_name pn_0) hisR ?_
  intro pP eE sS mM argsA below meth cC s₁ Bd hml0 hP hK
  obtain ⟨rfl, hZ, hh⟩ := hP
  have hx := Bd.exec
  have hby := Bd.bytes
  have hml : cC.maxLocals = 3 := hml0
  have hown : sS.vm.findClass "java/lang/AbstractStringBuilder" = some mM.cls := findClass_of_methodNamed Bd.named
  have hnm := (name_of_methodNamed Bd.named Bd.method).1
  have X0 : Stand pP l eE oR10 sS mM #[(.ref b), (.ref s)] below meth cC s₁ [] 0 0 := Stand.of_body Bd
  have e0 : s₁.heap = h0 := by rw [← hh, Bd.state]; rfl
  have N0 := Fr.nil n0
  have pre0 : ∀ t_, Steps pP.tables eE below (s₁.setTop (mkF mM 0 #[.val (.ref b), .val (.ref s), .unset] [])) t_ → Steps pP.tables eE below (s₁.setTop (entryFrame mM #[(.ref b), (.ref s)] 3)) t_ := fun t_ k_ => castTop (ef_aa34 mM b s) k_
  obtain ⟨cq_1, kq_1, q_1a, q_1b, q_1c⟩ := isOf hZ e0 E_s
  obtain ⟨_, _, ⟨T_1, L_1, k_1, n_1⟩, -, X_1, ⟨Lc_1, hQ_1, l_1, y_1, z_1⟩, st_1⟩ := X0.virtualBack hx (y := MN9) (z := MN9) hown (mvT hZ (ow hw 59 rfl)) (mvT hZ (ow hw 60 rfl)) (notFace_of_selects (args := #[]) (mvT hZ (ow hw 62 rfl))) (mvT hZ (ow hw 62 rfl)) (mvT hZ (ow hw 61 rfl)) (by decide) (backOf (W := 0) (rm_slen l Z a0 hw [] s e2 m cs h0 n0 Z0 F_value_s F_coder_s E_s B_e2 S_String_COMPACT_STRINGS hcs) hZ (ow hw 63 rfl) (ow hw 37 rfl) (by decide) (by decide)) q_1a q_1c (g := (mkF mM 10 #[.val (.ref b), .val (.ref s), .unset] [(.ref s)])) rfl (by rw [hml]; rfl) (Steps.refl _) (argsL := []) (rest := []) (lenOf pd_8 rfl) rfl (by show 2 * 0 + _ ≤ _; exact Nat.le_of_eq rfl) (hb hby d_jdk_68m22_10) (fun _ _ => ⟨rfl, e0, (by decide : 0 + 0 ≤ _), (by decide : 0 + 0 ≤ _)⟩)
  dsimp only [Pt.U, Pt.locs, Pt.cells, Pt.slots] at X_1 l_1 y_1 z_1 st_1 hQ_1
  subst l_1 y_1 z_1
  obtain ⟨rfl, N_1q, eh_1⟩ := hQ_1
  have N_1 := Fr.app N0 N_1q
  obtain ⟨T_2, X_2, e_2, st_2⟩ := getF X_1 hx hZ hown (host := "") (Or.inl (ow hw 72 rfl)) Via.refl eh_1 F_count_b (g := (mkF mM 16 #[.val (.ref b), .val (.ref s), .val (.int m)] [(.ref b), (.ref b)])) rfl rfl (hb hby d_jdk_68m22_16)
  obtain ⟨cq_3, kq_3, q_3a, q_3b, q_3c⟩ := isOf hZ e_2 E_b
  obtain ⟨_, _, ⟨T_3, L_3, k_3, n_3⟩, -, X_3, ⟨Lc_3, hQ_3, l_3, y_3, z_3⟩, st_3⟩ := X_2.virtualBack hx (y := MN10) (z := MN10) hown (mvT hZ (ow hw 74 rfl)) (own_decl (mvT hZ (ow hw 75 rfl)) (mvT hZ (ow hw 78 rfl))) (notFace_of_selects (args := #[]) (mvT hZ (ow hw 77 rfl))) (mvT hZ (ow hw 77 rfl)) (mvT hZ (ow hw 75 rfl)) (by decide) (backOf (W := 0) (rm_ens34 l Z a0 hw [] b d cn h0 n0 Z0 F_value_b F_coder_b B_d hno) hZ (ow hw 78 rfl) (ow hw 33 rfl) (by decide) (by decide)) q_3a q_3c (g := (mkF mM 21 #[.val (.ref b), .val (.ref s), .val (.int m)] [(.int cn), (.ref b)])) rfl (by rw [hml]; rfl) (Steps.refl _) (argsL := [(.int cn)]) (rest := []) (lenOf pd_0 rfl) rfl (by show 2 * 0 + _ ≤ _; exact Nat.le_of_eq rfl) (hb hby d_jdk_68m22_21) (fun _ _ => ⟨rfl, e_2, (by decide : 0 + 0 ≤ _), (by decide : 0 + 0 ≤ _)⟩)
  dsimp only [Pt.U, Pt.locs, Pt.cells, Pt.slots] at X_3 l_3 y_3 z_3 st_3 hQ_3
  subst l_3 y_3 z_3
  obtain ⟨rfl, N_3q, eh_3⟩ := hQ_3
  have N_3 := Fr.app N_1 N_3q
  obtain ⟨T_4, X_4, e_4, st_4⟩ := getF X_3 hx hZ hown (host := "") (Or.inl (ow hw 72 rfl)) Via.refl eh_3 F_count_b (g := (mkF mM 26 #[.val (.ref b), .val (.ref s), .val (.int m)] [(.ref b), (.ref b)])) rfl rfl (hb hby d_jdk_68m22_26)
  obtain ⟨cq_5, kq_5, q_5a, q_5b, q_5c⟩ := isOf hZ e_4 E_b
  obtain ⟨_, _, ⟨T_5, L_5, k_5, n_5⟩, -, X_5, ⟨Lc_5, hQ_5, l_5, y_5, z_5⟩, st_5⟩ := X_4.virtualBack hx (y := MN11) (z := MN11) hown (mvT hZ (ow hw 79 rfl)) (own_decl (mvT hZ (ow hw 80 rfl)) (mvT hZ (ow hw 83 rfl))) (notFace_of_selects (args := #[]) (mvT hZ (ow hw 82 rfl))) (mvT hZ (ow hw 82 rfl)) (mvT hZ (ow hw 80 rfl)) (by decide) (backOf (W := 0) (rm_put l Z a0 hw [] b s e2 d m c (34 : Int32) cs h0 n0 Z0 F_value_b F_coder_b E_b F_value_s F_coder_s E_s B_e2 B_d g_d ned hcp S_String_COMPACT_STRINGS hcs) hZ (ow hw 83 rfl) (ow hw 33 rfl) (by decide) (by decide)) q_5a q_5c (g := (mkF mM 30 #[.val (.ref b), .val (.ref s), .val (.int m)] [(.ref s), (.int c), (.ref b)])) rfl (by rw [hml]; rfl) (Steps.refl _) (argsL := [(.int c), (.ref s)]) (rest := []) (lenOf pd_9 rfl) rfl (by show 2 * 0 + _ ≤ _; exact Nat.le_of_eq rfl) (hb hby d_jdk_68m22_30) (fun _ _ => ⟨rfl, e_4, (by decide : 0 + 0 ≤ _), (by decide : 0 + 0 ≤ _)⟩)
  dsimp only [Pt.U, Pt.locs, Pt.cells, Pt.slots] at X_5 l_5 y_5 z_5 st_5 hQ_5
  subst l_5 y_5 z_5
  obtain ⟨rfl, N_5q, Kc_5, pfB_d_5⟩ := hQ_5
  have Z_5 : n0 ≤ T_5.heap.size := (Nat.le_trans Z0 Kc_5.1)
  have K_5 : Keep h0 T_5.heap [b, d] := (Keep.refl h0 [b, d]).trans Kc_5 (allS (Or.inl (List.mem_of_getElem? (i := 1) rfl)) all0)
  have N_5 := Fr.app N_3 N_5q
  obtain ⟨T_6, X_6, e_6, st_6⟩ := getF X_5 hx hZ hown (host := "") (Or.inl (ow hw 72 rfl)) Via.refl rfl (F_count_b.keep Kc_5 (ninS (own_B.neE B_d E_b (ow hw 24 rfl)) nin0)) (g := (mkF mM 35 #[.val (.ref b), .val (.ref s), .val (.int m)] [(.ref b), (.ref b)])) rfl rfl (hb hby d_jdk_68m22_35)
  obtain ⟨T_7, h_7, X_7, e_7, W_7, st_7⟩ := putF X_6 hx hZ hown (host := "") (Or.inl (ow hw 72 rfl)) Via.refl e_6 (F_count_b.keep Kc_5 (ninS (own_B.neE B_d E_b (ow hw 24 rfl)) nin0)) (E_b.keep Kc_5) (Or.inl (ow hw 73 rfl)) (ow hw 24 rfl) (ty := .int) (by decide) rfl rfl (g := (mkF mM 40 #[.val (.ref b), .val (.ref s), .val (.int m)] [(.int cn), (.ref b)])) rfl rfl (hb hby d_jdk_68m22_40)
  have Fw_7 := (F_count_b.keep Kc_5 (ninS (own_B.neE B_d E_b (ow hw 24 rfl)) nin0)).same W_7
  have Z_7 : n0 ≤ h_7.size := (Nat.le_trans Z_5 (Keep.of_wr W_7).1)
  have K_7 : Keep h0 h_7 [b, d] := K_5.wr W_7 (Or.inl (List.mem_of_getElem? (i := 0) rfl))
  have N_7 := Fr.snoc X_7 N_5 g_b
  obtain ⟨fs, hr, hrun, hended, hW, hsame⟩ := X_7.leave (v := some (.ref b)) (fun h => by rw [Bd.returns] at h; cases h)
  refine ⟨_, _, pre0 _ ?_, hrun, hended, _, _, rfl, ?_, ⟨_, rfl⟩, hW, hsame.mono (by decide) (by decide)⟩
  · show oS pP eE below s₁ (mkF mM 0 #[.val (.ref b), .val (.ref s), .unset] []) _
    refine XS.aloadN X0.here hx rfl (hb hby d_jdk_68m22_0) rfl rfl ?_
    show oS pP eE below s₁ (mkF mM 1 #[.val (.ref b), .val (.ref s), .unset] [(.ref s)]) _
    refine XT.ifnonnullYes X0.here hx rfl (pc0 := 1) (pc' := 9) rfl (hb hby d_jdk_68m22_1) rfl (by decide) (by decide) ?_
    refine XS.aloadN X0.here hx rfl (hb hby d_jdk_68m22_9) rfl rfl ?_
    show oS pP eE below s₁ (mkF mM 10 #[.val (.ref b), .val (.ref s), .unset] [(.ref s)]) _
    refine st_1.trans ?_
    show oS pP eE below T_1 (mkF mM 13 #[.val (.ref b), .val (.ref s), .unset] [(.int m)]) _
    refine XS.istoreN X_1.here hx rfl (hb hby d_jdk_68m22_13) rfl (l' := #[.val (.ref b), .val (.ref s), .val (.int m)]) rfl ?_
    refine XS.aloadN X_1.here hx rfl (hb hby d_jdk_68m22_14) rfl rfl ?_
    refine XS.aloadN X_1.here hx rfl (hb hby d_jdk_68m22_15) rfl rfl ?_
    show oS pP eE below T_1 (mkF mM 16 #[.val (.ref b), .val (.ref s), .val (.int m)] [(.ref b), (.ref b)]) _
    refine st_2 _ ?_
    show oS pP eE below T_2 (mkF mM 19 #[.val (.ref b), .val (.ref s), .val (.int m)] [(.int c), (.ref b)]) _
    refine XS.iloadN X_2.here hx rfl (hb hby d_jdk_68m22_19) rfl ?_
    show oS pP eE below T_2 (mkF mM 20 #[.val (.ref b), .val (.ref s), .val (.int m)] [(.int m), (.int c), (.ref b)]) _
    refine XS.iadd X_2.here hx rfl (hb hby d_jdk_68m22_20) rfl ?_
    show Steps pP.tables eE below (T_2.setTop (mkF mM 21 #[.val (.ref b), .val (.ref s), .val (.int m)] [(.int (c + m)), (.ref b)])) _
    rw [hcn]
    show oS pP eE below T_2 (mkF mM 21 #[.val (.ref b), .val (.ref s), .val (.int m)] [(.int cn), (.ref b)]) _
    refine st_3.trans ?_
    show oS pP eE below T_3 (mkF mM 24 #[.val (.ref b), .val (.ref s), .val (.int m)] []) _
    refine XS.aloadN X_3.here hx rfl (hb hby d_jdk_68m22_24) rfl rfl ?_
    refine XS.aloadN X_3.here hx rfl (hb hby d_jdk_68m22_25) rfl rfl ?_
    show oS pP eE below T_3 (mkF mM 26 #[.val (.ref b), .val (.ref s), .val (.int m)] [(.ref b), (.ref b)]) _
    refine st_4 _ ?_
    show oS pP eE below T_4 (mkF mM 29 #[.val (.ref b), .val (.ref s), .val (.int m)] [(.int c), (.ref b)]) _
    refine XS.aloadN X_4.here hx rfl (hb hby d_jdk_68m22_29) rfl rfl ?_
    show oS pP eE below T_4 (mkF mM 30 #[.val (.ref b), .val (.ref s), .val (.int m)] [(.ref s), (.int c), (.ref b)]) _
    refine st_5.trans ?_
    show oS pP eE below T_5 (mkF mM 33 #[.val (.ref b), .val (.ref s), .val (.int m)] []) _
    refine XS.aloadN X_5.here hx rfl (hb hby d_jdk_68m22_33) rfl rfl ?_
    refine XS.dup X_5.here hx rfl (hb hby d_jdk_68m22_34) rfl rfl ?_
    show oS pP eE below T_5 (mkF mM 35 #[.val (.ref b), .val (.ref s), .val (.int m)] [(.ref b), (.ref b)]) _
    refine st_6 _ ?_
    show oS pP eE below T_6 (mkF mM 38 #[.val (.ref b), .val (.ref s), .val (.int m)] [(.int c), (.ref b)]) _
    refine XS.iloadN X_6.here hx rfl (hb hby d_jdk_68m22_38) rfl ?_
    show oS pP eE below T_6 (mkF mM 39 #[.val (.ref b), .val (.ref s), .val (.int m)] [(.int m), (.int c), (.ref b)]) _
    refine XS.iadd X_6.here hx rfl (hb hby d_jdk_68m22_39) rfl ?_
    show Steps pP.tables eE below (T_6.setTop (mkF mM 40 #[.val (.ref b), .val (.ref s), .val (.int m)] [(.int (c + m)), (.ref b)])) _
    rw [hcn]
    show oS pP eE below T_6 (mkF mM 40 #[.val (.ref b), .val (.ref s), .val (.int m)] [(.int cn), (.ref b)]) _
    refine st_7 _ ?_
    show oS pP eE below T_7 (mkF mM 43 #[.val (.ref b), .val (.ref s), .val (.int m)] []) _
    refine XS.aloadN X_7.here hx rfl (hb hby d_jdk_68m22_43) rfl rfl ?_
    show oS pP eE below T_7 (mkF mM 44 #[.val (.ref b), .val (.ref s), .val (.int m)] [(.ref b)]) _
    exact retOut X_7 hx Bd.returns rfl (Or.inr (Or.inr (Or.inr (Or.inr ⟨rfl, rfl, rfl⟩)))) (hb hby d_jdk_68m22_44) hr
  · show Q_aa34 Z b s e2 d m c cn cs h0 n0 _ T_7.heap _
    rw [e_7]
    exact ⟨rfl, N_7, K_7, ((F_value_b.keep Kc_5 (ninS (own_B.neE B_d E_b (ow hw 24 rfl)) nin0)).other W_7 (Or.inr (slot_ne (Or.inl (ow hw 40 rfl)) (Or.inl (ow hw 73 rfl)) (by decide) (t := (.array .byte)) (t' := .int) (by decide) (by decide)))), ((F_coder_b.keep Kc_5 (ninS (own_B.neE B_d E_b (ow hw 24 rfl)) nin0)).other W_7 (Or.inr (slot_ne (Or.inl (ow hw 42 rfl)) (Or.inl (ow hw 73 rfl)) (by decide) (t := .byte) (t' := .int) (by decide) (by decide)))), Fw_7, ((E_b.keep Kc_5).wr W_7), (pfB_d_5.other W_7 (Ne.symm (own_B.neE B_d E_b (ow hw 24 rfl))))⟩
theorem ef_aaG (mM : MethodId) (x0 : Addr) (x1 : Addr) : entryFrame mM #[(.ref x0), (.ref x1)] 3 = mkF mM 0 #[.val (.ref x0), .val (.ref x1), .unset] [] := by first | (simp [entryFrame, mkF, argsToLocals, Value.category]; done) | rfl
def Q_aaG (Z : State) (b : Addr) (s : Addr) (e2 : Addr) (d : Addr) (m : Int32) (c : Int32) (cn : Int32) (cs : Int32) (h0 : Heap) (n0 : Nat) (v_ : Option Value) (h_ : Heap) (L_ : List Loc) : Prop := ∃ d2 : Addr, v_ = some (.ref b) ∧ Fr n0 L_ ∧ Keep h0 h_ [b] ∧ h0.size ≤ d2 ∧ Fld Z h_ b "java/lang/AbstractStringBuilder" "value" "[B" (.ref d2) ∧ Fld Z h_ b "java/lang/AbstractStringBuilder" "coder" "B" (.int (0 : Int32)) ∧ Fld Z h_ b "java/lang/AbstractStringBuilder" "count" "I" (.int cn) ∧ Exa Z h_ b "java/lang/StringBuilder" ∧ own_B Z h_ d2 (34 : Int32)
set_option maxRecDepth 65536 in
set_option maxHeartbeats 40000000 in
theorem rm_aaG (l : Launch) (Z : State) (a0 : Array Value) (hw : ∀ d ∈ tables_1, d.before a0 Z = true) (ws : List Jvm.Cond) (b : Addr) (s : Addr) (e2 : Addr) (d : Addr) (m : Int32) (c : Int32) (cn : Int32) (cs : Int32) (h0 : Heap) (n0 : Nat) (Z0 : n0 ≤ h0.size) (F_value_b : Fld Z h0 b "java/lang/AbstractStringBuilder" "value" "[B" (.ref d)) (F_coder_b : Fld Z h0 b "java/lang/AbstractStringBuilder" "coder" "B" (.int (0 : Int32))) (F_count_b : Fld Z h0 b "java/lang/AbstractStringBuilder" "count" "I" (.int c)) (E_b : Exa Z h0 b "java/lang/StringBuilder") (g_b : n0 ≤ b) (g_d : n0 ≤ d) (F_value_s : Fld Z h0 s "java/lang/String" "value" "[B" (.ref e2)) (F_coder_s : Fld Z h0 s "java/lang/String" "coder" "B" (.int (0 : Int32))) (E_s : Exa Z h0 s "java/lang/String") (B_e2 : own_B Z h0 e2 m) (ned : e2 ≠ d) (nbs : b ≠ s) (hcn : (c + m) = cn) (S_String_COMPACT_STRINGS : Sta Z h0 "java/lang/String" "COMPACT_STRINGS" "Z" (.int cs)) (hcs : ¬ cs = 0) (B_d : own_B Z h0 d (16 : Int32)) (hgt : 0 < (cn - (16 : Int32))) (hlt : (cn - (16 : Int32)) < (18 : Int32)) (hcp : own_cp (0 : Int32) c m m (34 : Int32)) :
    MetFree l (⟨"java/lang/AbstractStringBuilder", "append", "(Ljava/lang/String;)Ljava/lang/AbstractStringBuilder;"⟩ : MethodName) (head1 (Jvm.Cond.code (⟨"java/lang/AbstractStringBuilder", "append", "(Ljava/lang/String;)Ljava/lang/AbstractStringBuilder;"⟩ : MethodName) jdk_68_method_22_code 3 (some (.object "java/lang/AbstractStringBuilder")) :: ws) oR11) (fun aa_ U_ => aa_ = #[(.ref b), (.ref s)] ∧ Z.Warmed39 U_.vm ∧ U_.heap = h0) (fun _ _ _ _ _ => True) (fun _ U_ o_ U'_ => ∃ v_ L_, o_ = .returned v_ ∧ Q_aaG Z b s e2 d m c cn cs h0 n0 v_ U'_.heap L_ ∧ FrameEnd U_ o_ U'_ L_ oR11.cells oR11.slots) := by
  refine MetFree.of_bodySF (plainFor_of_name pn_0) hisR ?_
  intro pP eE sS mM argsA below meth cC s₁ Bd hml0 hP hK
  obtain ⟨rfl, hZ, hh⟩ := hP
  have hx := Bd.exec
  have hby := Bd.bytes
  have hml : cC.maxLocals = 3 := hml0
  have hown : sS.vm.findClass "java/lang/AbstractStringBuilder" = some mM.cls := findClass_of_methodNamed Bd.named
  have hnm := (name_of_methodNamed Bd.named Bd.method).1
  have X0 : Stand pP l eE oR11 sS mM #[(.ref b), (.ref s)] below meth cC s₁ [] 0 0 := Stand.of_body Bd
  have e0 : s₁.heap = h0 := by rw [← hh, Bd.state]; rfl
  have N0 := Fr.nil n0
  have pre0 : ∀ t_, Steps pP.tables eE below (s₁.setTop (mkF mM 0 #[.val (.ref b), .val (.ref s), .unset] [])) t_ → Steps pP.tables eE below (s₁.setTop (entryFrame mM #[(.ref b), (.ref s)] 3)) t_ := fun t_ k_ => castTop (ef_aaG mM b s) k_
  obtain ⟨cq_1, kq_1, q_1a, q_1b, q_1c⟩ := isOf hZ e0 E_s
  obtain ⟨_, _, ⟨T_1, L_1, k_1, n_1⟩, -, X_1, ⟨Lc_1, hQ_1, l_1, y_1, z_1⟩, st_1⟩ := X0.virtualBack hx (y := MN9) (z := MN9) hown (mvT hZ (ow hw 59 rfl)) (mvT hZ (ow hw 60 rfl)) (notFace_of_selects (args := #[]) (mvT hZ (ow hw 62 rfl))) (mvT hZ (ow hw 62 rfl)) (mvT hZ (ow hw 61 rfl)) (by decide) (backOf (W := 0) (rm_slen l Z a0 hw [] s e2 m cs h0 n0 Z0 F_value_s F_coder_s E_s B_e2 S_String_COMPACT_STRINGS hcs) hZ (ow hw 63 rfl) (ow hw 37 rfl) (by decide) (by decide)) q_1a q_1c (g := (mkF mM 10 #[.val (.ref b), .val (.ref s), .unset] [(.ref s)])) rfl (by rw [hml]; rfl) (Steps.refl _) (argsL := []) (rest := []) (lenOf pd_8 rfl) rfl (by show 2 * 0 + _ ≤ _; exact Nat.le_of_eq rfl) (hb hby d_jdk_68m22_10) (fun _ _ => ⟨rfl, e0, (by decide : 0 + 0 ≤ _), (by decide : 0 + 0 ≤ _)⟩)
  dsimp only [Pt.U, Pt.locs, Pt.cells, Pt.slots] at X_1 l_1 y_1 z_1 st_1 hQ_1
  subst l_1 y_1 z_1
  obtain ⟨rfl, N_1q, eh_1⟩ := hQ_1
  have N_1 := Fr.app N0 N_1q
  obtain ⟨T_2, X_2, e_2, st_2⟩ := getF X_1 hx hZ hown (host := "") (Or.inl (ow hw 72 rfl)) Via.refl eh_1 F_count_b (g := (mkF mM 16 #[.val (.ref b), .val (.ref s), .val (.int m)] [(.ref b), (.ref b)])) rfl rfl (hb hby d_jdk_68m22_16)
  obtain ⟨cq_3, kq_3, q_3a, q_3b, q_3c⟩ := isOf hZ e_2 E_b
  obtain ⟨_, _, ⟨T_3, L_3, k_3, n_3⟩, -, X_3, ⟨Lc_3, hQ_3, l_3, y_3, z_3⟩, st_3⟩ := X_2.virtualBack hx (y := MN10) (z := MN10) hown (mvT hZ (ow hw 74 rfl)) (own_decl (mvT hZ (ow hw 75 rfl)) (mvT hZ (ow hw 78 rfl))) (notFace_of_selects (args := #[]) (mvT hZ (ow hw 77 rfl))) (mvT hZ (ow hw 77 rfl)) (mvT hZ (ow hw 75 rfl)) (by decide) (backOf (W := 0) (rm_ensG l Z a0 hw [] b d cn c h0 n0 Z0 F_value_b F_coder_b F_count_b E_b g_b B_d hgt hlt) hZ (ow hw 78 rfl) (ow hw 33 rfl) (by decide) (by decide)) q_3a q_3c (g := (mkF mM 21 #[.val (.ref b), .val (.ref s), .val (.int m)] [(.int cn), (.ref b)])) rfl (by rw [hml]; rfl) (Steps.refl _) (argsL := [(.int cn)]) (rest := []) (lenOf pd_0 rfl) rfl (by show 2 * 0 + _ ≤ _; exact Nat.le_of_eq rfl) (hb hby d_jdk_68m22_21) (fun _ _ => ⟨rfl, e_2, (by decide : 0 + 1 ≤ _), (by decide : 0 + 34 ≤ _)⟩)
  dsimp only [Pt.U, Pt.locs, Pt.cells, Pt.slots] at X_3 l_3 y_3 z_3 st_3 hQ_3
  subst l_3 y_3 z_3
  obtain ⟨d2__3, ⟨rfl, N_3q, Kc_3, pfsz_d2_3, pfF_value_b_3, pfF_coder_b_3, pfF_count_b_3, pfE_b_3, pfB_d2_3⟩⟩ := hQ_3
  have Z_3 : n0 ≤ T_3.heap.size := (Nat.le_trans Z0 Kc_3.1)
  have K_3 : Keep h0 T_3.heap [b] := (Keep.refl h0 [b]).trans Kc_3 (allS (Or.inl (List.mem_of_getElem? (i := 0) rfl)) all0)
  have sz_d2__3 : h0.size ≤ d2__3 := Nat.le_trans (Keep.refl h0 [b]).1 pfsz_d2_3
  have g_d2__3 : n0 ≤ d2__3 := Nat.le_trans Z0 pfsz_d2_3
  have N_3 := Fr.app N_1 N_3q
  obtain ⟨T_4, X_4, e_4, st_4⟩ := getF X_3 hx hZ hown (host := "") (Or.inl (ow hw 72 rfl)) Via.refl rfl pfF_count_b_3 (g := (mkF mM 26 #[.val (.ref b), .val (.ref s), .val (.int m)] [(.ref b), (.ref b)])) rfl rfl (hb hby d_jdk_68m22_26)
  have St_1_13 := (own_sta_keep S_String_COMPACT_STRINGS Kc_3 (allS (own_exa_ns E_b) all0))
  obtain ⟨cq_5, kq_5, q_5a, q_5b, q_5c⟩ := isOf hZ e_4 pfE_b_3
  obtain ⟨_, _, ⟨T_5, L_5, k_5, n_5⟩, -, X_5, ⟨Lc_5, hQ_5, l_5, y_5, z_5⟩, st_5⟩ := X_4.virtualBack hx (y := MN11) (z := MN11) hown (mvT hZ (ow hw 79 rfl)) (own_decl (mvT hZ (ow hw 80 rfl)) (mvT hZ (ow hw 83 rfl))) (notFace_of_selects (args := #[]) (mvT hZ (ow hw 82 rfl))) (mvT hZ (ow hw 82 rfl)) (mvT hZ (ow hw 80 rfl)) (by decide) (backOf (W := 0) (rm_put l Z a0 hw [] b s e2 d2__3 m c (34 : Int32) cs T_3.heap n0 Z_3 pfF_value_b_3 pfF_coder_b_3 pfE_b_3 (F_value_s.keep Kc_3 (ninS (Ne.symm nbs) nin0)) (F_coder_s.keep Kc_3 (ninS (Ne.symm nbs) nin0)) (E_s.keep Kc_3) (B_e2.keep Kc_3 (ninS (Ne.symm (own_B.neE B_e2 E_b (ow hw 24 rfl))) nin0)) pfB_d2_3 g_d2__3 (Nat.ne_of_lt (Nat.lt_of_lt_of_le B_e2.lt pfsz_d2_3)) hcp St_1_13 hcs) hZ (ow hw 83 rfl) (ow hw 33 rfl) (by decide) (by decide)) q_5a q_5c (g := (mkF mM 30 #[.val (.ref b), .val (.ref s), .val (.int m)] [(.ref s), (.int c), (.ref b)])) rfl (by rw [hml]; rfl) (Steps.refl _) (argsL := [(.int c), (.ref s)]) (rest := []) (lenOf pd_9 rfl) rfl (by show 2 * 0 + _ ≤ _; exact Nat.le_of_eq rfl) (hb hby d_jdk_68m22_30) (fun _ _ => ⟨rfl, e_4, (by decide : 1 + 0 ≤ _), (by decide : 34 + 0 ≤ _)⟩)
  dsimp only [Pt.U, Pt.locs, Pt.cells, Pt.slots] at X_5 l_5 y_5 z_5 st_5 hQ_5
  subst l_5 y_5 z_5
  obtain ⟨rfl, N_5q, Kc_5, pfB_d_5⟩ := hQ_5
  have Z_5 : n0 ≤ T_5.heap.size := (Nat.le_trans Z_3 Kc_5.1)
  have K_5 : Keep h0 T_5.heap [b] := K_3.trans Kc_5 (allS (Or.inr sz_d2__3) all0)
  have N_5 := Fr.app N_3 N_5q
  obtain ⟨T_6, X_6, e_6, st_6⟩ := getF X_5 hx hZ hown (host := "") (Or.inl (ow hw 72 rfl)) Via.refl rfl (pfF_count_b_3.keep Kc_5 (ninS (Nat.ne_of_lt (Nat.lt_of_lt_of_le E_b.lt pfsz_d2_3)) nin0)) (g := (mkF mM 35 #[.val (.ref b), .val (.ref s), .val (.int m)] [(.ref b), (.ref b)])) rfl rfl (hb hby d_jdk_68m22_35)
  obtain ⟨T_7, h_7, X_7, e_7, W_7, st_7⟩ := putF X_6 hx hZ hown (host := "") (Or.inl (ow hw 72 rfl)) Via.refl e_6 (pfF_count_b_3.keep Kc_5 (ninS (Nat.ne_of_lt (Nat.lt_of_lt_of_le E_b.lt pfsz_d2_3)) nin0)) (pfE_b_3.keep Kc_5) (Or.inl (ow hw 73 rfl)) (ow hw 24 rfl) (ty := .int) (by decide) rfl rfl (g := (mkF mM 40 #[.val (.ref b), .val (.ref s), .val (.int m)] [(.int cn), (.ref b)])) rfl rfl (hb hby d_jdk_68m22_40)
  have Fw_7 := (pfF_count_b_3.keep Kc_5 (ninS (Nat.ne_of_lt (Nat.lt_of_lt_of_le E_b.lt pfsz_d2_3)) nin0)).same W_7
  have Z_7 : n0 ≤ h_7.size := (Nat.le_trans Z_5 (Keep.of_wr W_7).1)
  have K_7 : Keep h0 h_7 [b] := K_5.wr W_7 (Or.inl (List.mem_of_getElem? (i := 0) rfl))
  have N_7 := Fr.snoc X_7 N_5 g_b
  obtain ⟨fs, hr, hrun, hended, hW, hsame⟩ := X_7.leave (v := some (.ref b)) (fun h => by rw [Bd.returns] at h; cases h)
  refine ⟨_, _, pre0 _ ?_, hrun, hended, _, _, rfl, ?_, ⟨_, rfl⟩, hW, hsame.mono (by decide) (by decide)⟩
  · show oS pP eE below s₁ (mkF mM 0 #[.val (.ref b), .val (.ref s), .unset] []) _
    refine XS.aloadN X0.here hx rfl (hb hby d_jdk_68m22_0) rfl rfl ?_
    show oS pP eE below s₁ (mkF mM 1 #[.val (.ref b), .val (.ref s), .unset] [(.ref s)]) _
    refine XT.ifnonnullYes X0.here hx rfl (pc0 := 1) (pc' := 9) rfl (hb hby d_jdk_68m22_1) rfl (by decide) (by decide) ?_
    refine XS.aloadN X0.here hx rfl (hb hby d_jdk_68m22_9) rfl rfl ?_
    show oS pP eE below s₁ (mkF mM 10 #[.val (.ref b), .val (.ref s), .unset] [(.ref s)]) _
    refine st_1.trans ?_
    show oS pP eE below T_1 (mkF mM 13 #[.val (.ref b), .val (.ref s), .unset] [(.int m)]) _
    refine XS.istoreN X_1.here hx rfl (hb hby d_jdk_68m22_13) rfl (l' := #[.val (.ref b), .val (.ref s), .val (.int m)]) rfl ?_
    refine XS.aloadN X_1.here hx rfl (hb hby d_jdk_68m22_14) rfl rfl ?_
    refine XS.aloadN X_1.here hx rfl (hb hby d_jdk_68m22_15) rfl rfl ?_
    show oS pP eE below T_1 (mkF mM 16 #[.val (.ref b), .val (.ref s), .val (.int m)] [(.ref b), (.ref b)]) _
    refine st_2 _ ?_
    show oS pP eE below T_2 (mkF mM 19 #[.val (.ref b), .val (.ref s), .val (.int m)] [(.int c), (.ref b)]) _
    refine XS.iloadN X_2.here hx rfl (hb hby d_jdk_68m22_19) rfl ?_
    show oS pP eE below T_2 (mkF mM 20 #[.val (.ref b), .val (.ref s), .val (.int m)] [(.int m), (.int c), (.ref b)]) _
    refine XS.iadd X_2.here hx rfl (hb hby d_jdk_68m22_20) rfl ?_
    show Steps pP.tables eE below (T_2.setTop (mkF mM 21 #[.val (.ref b), .val (.ref s), .val (.int m)] [(.int (c + m)), (.ref b)])) _
    rw [hcn]
    show oS pP eE below T_2 (mkF mM 21 #[.val (.ref b), .val (.ref s), .val (.int m)] [(.int cn), (.ref b)]) _
    refine st_3.trans ?_
    show oS pP eE below T_3 (mkF mM 24 #[.val (.ref b), .val (.ref s), .val (.int m)] []) _
    refine XS.aloadN X_3.here hx rfl (hb hby d_jdk_68m22_24) rfl rfl ?_
    refine XS.aloadN X_3.here hx rfl (hb hby d_jdk_68m22_25) rfl rfl ?_
    show oS pP eE below T_3 (mkF mM 26 #[.val (.ref b), .val (.ref s), .val (.int m)] [(.ref b), (.ref b)]) _
    refine st_4 _ ?_
    show oS pP eE below T_4 (mkF mM 29 #[.val (.ref b), .val (.ref s), .val (.int m)] [(.int c), (.ref b)]) _
    refine XS.aloadN X_4.here hx rfl (hb hby d_jdk_68m22_29) rfl rfl ?_
    show oS pP eE below T_4 (mkF mM 30 #[.val (.ref b), .val (.ref s), .val (.int m)] [(.ref s), (.int c), (.ref b)]) _
    refine st_5.trans ?_
    show oS pP eE below T_5 (mkF mM 33 #[.val (.ref b), .val (.ref s), .val (.int m)] []) _
    refine XS.aloadN X_5.here hx rfl (hb hby d_jdk_68m22_33) rfl rfl ?_
    refine XS.dup X_5.here hx rfl (hb hby d_jdk_68m22_34) rfl rfl ?_
    show oS pP eE below T_5 (mkF mM 35 #[.val (.ref b), .val (.ref s), .val (.int m)] [(.ref b), (.ref b)]) _
    refine st_6 _ ?_
    show oS pP eE below T_6 (mkF mM 38 #[.val (.ref b), .val (.ref s), .val (.int m)] [(.int c), (.ref b)]) _
    refine XS.iloadN X_6.here hx rfl (hb hby d_jdk_68m22_38) rfl ?_
    show oS pP eE below T_6 (mkF mM 39 #[.val (.ref b), .val (.ref s), .val (.int m)] [(.int m), (.int c), (.ref b)]) _
    refine XS.iadd X_6.here hx rfl (hb hby d_jdk_68m22_39) rfl ?_
    show Steps pP.tables eE below (T_6.setTop (mkF mM 40 #[.val (.ref b), .val (.ref s), .val (.int m)] [(.int (c + m)), (.ref b)])) _
    rw [hcn]
    show oS pP eE below T_6 (mkF mM 40 #[.val (.ref b), .val (.ref s), .val (.int m)] [(.int cn), (.ref b)]) _
    refine st_7 _ ?_
    show oS pP eE below T_7 (mkF mM 43 #[.val (.ref b), .val (.ref s), .val (.int m)] []) _
    refine XS.aloadN X_7.here hx rfl (hb hby d_jdk_68m22_43) rfl rfl ?_
    show oS pP eE below T_7 (mkF mM 44 #[.val (.ref b), .val (.ref s), .val (.int m)] [(.ref b)]) _
    exact retOut X_7 hx Bd.returns rfl (Or.inr (Or.inr (Or.inr (Or.inr ⟨rfl, rfl, rfl⟩)))) (hb hby d_jdk_68m22_44) hr
  · show Q_aaG Z b s e2 d m c cn cs h0 n0 _ T_7.heap _
    rw [e_7]
    exact ⟨d2__3, rfl, N_7, K_7, sz_d2__3, ((pfF_value_b_3.keep Kc_5 (ninS (Nat.ne_of_lt (Nat.lt_of_lt_of_le E_b.lt pfsz_d2_3)) nin0)).other W_7 (Or.inr (slot_ne (Or.inl (ow hw 40 rfl)) (Or.inl (ow hw 73 rfl)) (by decide) (t := (.array .byte)) (t' := .int) (by decide) (by decide)))), ((pfF_coder_b_3.keep Kc_5 (ninS (Nat.ne_of_lt (Nat.lt_of_lt_of_le E_b.lt pfsz_d2_3)) nin0)).other W_7 (Or.inr (slot_ne (Or.inl (ow hw 42 rfl)) (Or.inl (ow hw 73 rfl)) (by decide) (t := .byte) (t' := .int) (by decide) (by decide)))), Fw_7, ((pfE_b_3.keep Kc_5).wr W_7), (pfB_d_5.other W_7 (Ne.symm (Nat.ne_of_lt (Nat.lt_of_lt_of_le E_b.lt pfsz_d2_3))))⟩
theorem d_jdk_67m7_0 : decode jdk_67_method_7_code 0 = .ok (.aload_n 0, 1) := by decide +kernel
theorem d_jdk_67m7_1 : decode jdk_67_method_7_code 1 = .ok (.aload_n 1, 1) := by decide +kernel
theorem d_jdk_67m7_2 : decode jdk_67_method_7_code 2 = .ok (.invokespecial 29, 3) := by decide +kernel
theorem pd_10 : parseMethodDescriptor "(Ljava/lang/String;)Ljava/lang/AbstractStringBuilder;" = some ⟨[(.object "java/lang/String")], some (.object "java/lang/AbstractStringBuilder")⟩ := by decide +kernel
abbrev MN12 : MethodName := ⟨"java/lang/AbstractStringBuilder", "append", "(Ljava/lang/String;)Ljava/lang/AbstractStringBuilder;"⟩
theorem d_jdk_67m7_5 : decode jdk_67_method_7_code 5 = .ok (.pop, 1) := by decide +kernel
theorem d_jdk_67m7_6 : decode jdk_67_method_7_code 6 = .ok (.aload_n 0, 1) := by decide +kernel
theorem d_jdk_67m7_7 : decode jdk_67_method_7_code 7 = .ok (.areturn, 1) := by decide +kernel
theorem ef_sa16 (mM : MethodId) (x0 : Addr) (x1 : Addr) : entryFrame mM #[(.ref x0), (.ref x1)] 2 = mkF mM 0 #[.val (.ref x0), .val (.ref x1)] [] := by first | (simp [entryFrame, mkF, argsToLocals, Value.category]; done) | rfl
def Q_sa16 (Z : State) (b : Addr) (s : Addr) (e2 : Addr) (d : Addr) (m : Int32) (c : Int32) (cn : Int32) (cs : Int32) (h0 : Heap) (n0 : Nat) (v_ : Option Value) (h_ : Heap) (L_ : List Loc) : Prop := v_ = some (.ref b) ∧ Fr n0 L_ ∧ Keep h0 h_ [b, d] ∧ Fld Z h_ b "java/lang/AbstractStringBuilder" "value" "[B" (.ref d) ∧ Fld Z h_ b "java/lang/AbstractStringBuilder" "coder" "B" (.int (0 : Int32)) ∧ Fld Z h_ b "java/lang/AbstractStringBuilder" "count" "I" (.int cn) ∧ Exa Z h_ b "java/lang/StringBuilder" ∧ own_B Z h_ d (16 : Int32)
set_option maxRecDepth 65536 in
set_option maxHeartbeats 40000000 in
theorem rm_sa16 (l : Launch) (Z : State) (a0 : Array Value) (hw : ∀ d ∈ tables_1, d.before a0 Z = true) (ws : List Jvm.Cond) (b : Addr) (s : Addr) (e2 : Addr) (d : Addr) (m : Int32) (c : Int32) (cn : Int32) (cs : Int32) (h0 : Heap) (n0 : Nat) (Z0 : n0 ≤ h0.size) (F_value_b : Fld Z h0 b "java/lang/AbstractStringBuilder" "value" "[B" (.ref d)) (F_coder_b : Fld Z h0 b "java/lang/AbstractStringBuilder" "coder" "B" (.int (0 : Int32))) (F_count_b : Fld Z h0 b "java/lang/AbstractStringBuilder" "count" "I" (.int c)) (E_b : Exa Z h0 b "java/lang/StringBuilder") (g_b : n0 ≤ b) (g_d : n0 ≤ d) (F_value_s : Fld Z h0 s "java/lang/String" "value" "[B" (.ref e2)) (F_coder_s : Fld Z h0 s "java/lang/String" "coder" "B" (.int (0 : Int32))) (E_s : Exa Z h0 s "java/lang/String") (B_e2 : own_B Z h0 e2 m) (ned : e2 ≠ d) (nbs : b ≠ s) (hcn : (c + m) = cn) (S_String_COMPACT_STRINGS : Sta Z h0 "java/lang/String" "COMPACT_STRINGS" "Z" (.int cs)) (hcs : ¬ cs = 0) (B_d : own_B Z h0 d (16 : Int32)) (hno : ¬ 0 < (cn - (16 : Int32))) (hcp : own_cp (0 : Int32) c m m (16 : Int32)) :
    MetFree l (⟨"java/lang/StringBuilder", "append", "(Ljava/lang/String;)Ljava/lang/StringBuilder;"⟩ : MethodName) (head1 (Jvm.Cond.code (⟨"java/lang/StringBuilder", "append", "(Ljava/lang/String;)Ljava/lang/StringBuilder;"⟩ : MethodName) jdk_67_method_7_code 2 (some (.object "java/lang/StringBuilder")) :: ws) oR12) (fun aa_ U_ => aa_ = #[(.ref b), (.ref s)] ∧ Z.Warmed39 U_.vm ∧ U_.heap = h0) (fun _ _ _ _ _ => True) (fun _ U_ o_ U'_ => ∃ v_ L_, o_ = .returned v_ ∧ Q_sa16 Z b s e2 d m c cn cs h0 n0 v_ U'_.heap L_ ∧ FrameEnd U_ o_ U'_ L_ oR12.cells oR12.slots) := by
  refine MetFree.of_bodySF (plainFor_of_name pn_1) hisR ?_
  intro pP eE sS mM argsA below meth cC s₁ Bd hml0 hP hK
  obtain ⟨rfl, hZ, hh⟩ := hP
  have hx := Bd.exec
  have hby := Bd.bytes
  have hml : cC.maxLocals = 2 := hml0
  have hown : sS.vm.findClass "java/lang/StringBuilder" = some mM.cls := findClass_of_methodNamed Bd.named
  have hnm := (name_of_methodNamed Bd.named Bd.method).1
  have X0 : Stand pP l eE oR12 sS mM #[(.ref b), (.ref s)] below meth cC s₁ [] 0 0 := Stand.of_body Bd
  have e0 : s₁.heap = h0 := by rw [← hh, Bd.state]; rfl
  have N0 := Fr.nil n0
  have pre0 : ∀ t_, Steps pP.tables eE below (s₁.setTop (mkF mM 0 #[.val (.ref b), .val (.ref s)] [])) t_ → Steps pP.tables eE below (s₁.setTop (entryFrame mM #[(.ref b), (.ref s)] 2)) t_ := fun t_ k_ => castTop (ef_sa16 mM b s) k_
  obtain ⟨_, _, ⟨T_1, L_1, k_1, n_1⟩, -, X_1, ⟨Lc_1, hQ_1, l_1, y_1, z_1⟩, st_1⟩ := superBack X0 hx hZ (y := MN12) hown (ow hw 54 rfl) (own_same (y := MN12) (z := MN10) (ow hw 55 rfl) (ow hw 77 rfl) rfl (by decide)) (ow hw 55 rfl) (ow hw 56 rfl) (by decide) (backOf (W := 0) (rm_aa16 l Z a0 hw [] b s e2 d m c cn cs h0 n0 Z0 F_value_b F_coder_b F_count_b E_b g_b g_d F_value_s F_coder_s E_s B_e2 ned nbs hcn S_String_COMPACT_STRINGS hcs B_d hno hcp) hZ (ow hw 58 rfl) (ow hw 33 rfl) (by decide) (by decide)) e0 (Ins.self E_b) (g := (mkF mM 2 #[.val (.ref b), .val (.ref s)] [(.ref s), (.ref b)])) rfl (by rw [hml]; rfl) (ow hw 58 rfl) (argsL := [(.ref s)]) (rest := []) (lenOf pd_10 rfl) rfl (by show 2 * 0 + _ ≤ _; exact Nat.le_of_eq rfl) (hb hby d_jdk_67m7_2) (fun _ _ => ⟨rfl, e0, (by decide : 0 + 0 ≤ _), (by decide : 0 + 0 ≤ _)⟩)
  dsimp only [Pt.U, Pt.locs, Pt.cells, Pt.slots] at X_1 l_1 y_1 z_1 st_1 hQ_1
  subst l_1 y_1 z_1
  obtain ⟨rfl, N_1q, Kc_1, pfF_value_b_1, pfF_coder_b_1, pfF_count_b_1, pfE_b_1, pfB_d_1⟩ := hQ_1
  have Z_1 : n0 ≤ T_1.heap.size := (Nat.le_trans Z0 Kc_1.1)
  have K_1 : Keep h0 T_1.heap [b, d] := (Keep.refl h0 [b, d]).trans Kc_1 (allS (Or.inl (List.mem_of_getElem? (i := 0) rfl)) (allS (Or.inl (List.mem_of_getElem? (i := 1) rfl)) all0))
  have N_1 := Fr.app N0 N_1q
  obtain ⟨fs, hr, hrun, hended, hW, hsame⟩ := X_1.leave (v := some (.ref b)) (fun h => by rw [Bd.returns] at h; cases h)
  refine ⟨_, _, pre0 _ ?_, hrun, hended, _, _, rfl, ?_, ⟨_, rfl⟩, hW, hsame.mono (by decide) (by decide)⟩
  · show oS pP eE below s₁ (mkF mM 0 #[.val (.ref b), .val (.ref s)] []) _
    refine XS.aloadN X0.here hx rfl (hb hby d_jdk_67m7_0) rfl rfl ?_
    refine XS.aloadN X0.here hx rfl (hb hby d_jdk_67m7_1) rfl rfl ?_
    show oS pP eE below s₁ (mkF mM 2 #[.val (.ref b), .val (.ref s)] [(.ref s), (.ref b)]) _
    refine st_1.trans ?_
    show oS pP eE below T_1 (mkF mM 5 #[.val (.ref b), .val (.ref s)] [(.ref b)]) _
    refine XT.pop X_1.here hx rfl (hb hby d_jdk_67m7_5) rfl rfl ?_
    refine XS.aloadN X_1.here hx rfl (hb hby d_jdk_67m7_6) rfl rfl ?_
    show oS pP eE below T_1 (mkF mM 7 #[.val (.ref b), .val (.ref s)] [(.ref b)]) _
    exact retOut X_1 hx Bd.returns rfl (Or.inr (Or.inr (Or.inr (Or.inr ⟨rfl, rfl, rfl⟩)))) (hb hby d_jdk_67m7_7) hr
  · show Q_sa16 Z b s e2 d m c cn cs h0 n0 _ T_1.heap _
    exact ⟨rfl, N_1, K_1, pfF_value_b_1, pfF_coder_b_1, pfF_count_b_1, pfE_b_1, pfB_d_1⟩
theorem ef_sa34 (mM : MethodId) (x0 : Addr) (x1 : Addr) : entryFrame mM #[(.ref x0), (.ref x1)] 2 = mkF mM 0 #[.val (.ref x0), .val (.ref x1)] [] := by first | (simp [entryFrame, mkF, argsToLocals, Value.category]; done) | rfl
def Q_sa34 (Z : State) (b : Addr) (s : Addr) (e2 : Addr) (d : Addr) (m : Int32) (c : Int32) (cn : Int32) (cs : Int32) (h0 : Heap) (n0 : Nat) (v_ : Option Value) (h_ : Heap) (L_ : List Loc) : Prop := v_ = some (.ref b) ∧ Fr n0 L_ ∧ Keep h0 h_ [b, d] ∧ Fld Z h_ b "java/lang/AbstractStringBuilder" "value" "[B" (.ref d) ∧ Fld Z h_ b "java/lang/AbstractStringBuilder" "coder" "B" (.int (0 : Int32)) ∧ Fld Z h_ b "java/lang/AbstractStringBuilder" "count" "I" (.int cn) ∧ Exa Z h_ b "java/lang/StringBuilder" ∧ own_B Z h_ d (34 : Int32)
set_option maxRecDepth 65536 in
set_option maxHeartbeats 40000000 in
theorem rm_sa34 (l : Launch) (Z : State) (a0 : Array Value) (hw : ∀ d ∈ tables_1, d.before a0 Z = true) (ws : List Jvm.Cond) (b : Addr) (s : Addr) (e2 : Addr) (d : Addr) (m : Int32) (c : Int32) (cn : Int32) (cs : Int32) (h0 : Heap) (n0 : Nat) (Z0 : n0 ≤ h0.size) (F_value_b : Fld Z h0 b "java/lang/AbstractStringBuilder" "value" "[B" (.ref d)) (F_coder_b : Fld Z h0 b "java/lang/AbstractStringBuilder" "coder" "B" (.int (0 : Int32))) (F_count_b : Fld Z h0 b "java/lang/AbstractStringBuilder" "count" "I" (.int c)) (E_b : Exa Z h0 b "java/lang/StringBuilder") (g_b : n0 ≤ b) (g_d : n0 ≤ d) (F_value_s : Fld Z h0 s "java/lang/String" "value" "[B" (.ref e2)) (F_coder_s : Fld Z h0 s "java/lang/String" "coder" "B" (.int (0 : Int32))) (E_s : Exa Z h0 s "java/lang/String") (B_e2 : own_B Z h0 e2 m) (ned : e2 ≠ d) (nbs : b ≠ s) (hcn : (c + m) = cn) (S_String_COMPACT_STRINGS : Sta Z h0 "java/lang/String" "COMPACT_STRINGS" "Z" (.int cs)) (hcs : ¬ cs = 0) (B_d : own_B Z h0 d (34 : Int32)) (hno : ¬ 0 < (cn - (34 : Int32))) (hcp : own_cp (0 : Int32) c m m (34 : Int32)) :
    MetFree l (⟨"java/lang/StringBuilder", "append", "(Ljava/lang/String;)Ljava/lang/StringBuilder;"⟩ : MethodName) (head1 (Jvm.Cond.code (⟨"java/lang/StringBuilder", "append", "(Ljava/lang/String;)Ljava/lang/StringBuilder;"⟩ : MethodName) jdk_67_method_7_code 2 (some (.object "java/lang/StringBuilder")) :: ws) oR12) (fun aa_ U_ => aa_ = #[(.ref b), (.ref s)] ∧ Z.Warmed39 U_.vm ∧ U_.heap = h0) (fun _ _ _ _ _ => True) (fun _ U_ o_ U'_ => ∃ v_ L_, o_ = .returned v_ ∧ Q_sa34 Z b s e2 d m c cn cs h0 n0 v_ U'_.heap L_ ∧ FrameEnd U_ o_ U'_ L_ oR12.cells oR12.slots) := by
  refine MetFree.of_bodySF (plainFor_of_name pn_1) hisR ?_
  intro pP eE sS mM argsA below meth cC s₁ Bd hml0 hP hK
  obtain ⟨rfl, hZ, hh⟩ := hP
  have hx := Bd.exec
  have hby := Bd.bytes
  have hml : cC.maxLocals = 2 := hml0
  have hown : sS.vm.findClass "java/lang/StringBuilder" = some mM.cls := findClass_of_methodNamed Bd.named
  have hnm := (name_of_methodNamed Bd.named Bd.method).1
  have X0 : Stand pP l eE oR12 sS mM #[(.ref b), (.ref s)] below meth cC s₁ [] 0 0 := Stand.of_body Bd
  have e0 : s₁.heap = h0 := by rw [← hh, Bd.state]; rfl
  have N0 := Fr.nil n0
  have pre0 : ∀ t_, Steps pP.tables eE below (s₁.setTop (mkF mM 0 #[.val (.ref b), .val (.ref s)] [])) t_ → Steps pP.tables eE below (s₁.setTop (entryFrame mM #[(.ref b), (.ref s)] 2)) t_ := fun t_ k_ => castTop (ef_sa34 mM b s) k_
  obtain ⟨_, _, ⟨T_1, L_1, k_1, n_1⟩, -, X_1, ⟨Lc_1, hQ_1, l_1, y_1, z_1⟩, st_1⟩ := superBack X0 hx hZ (y := MN12) hown (ow hw 54 rfl) (own_same (y := MN12) (z := MN10) (ow hw 55 rfl) (ow hw 77 rfl) rfl (by decide)) (ow hw 55 rfl) (ow hw 56 rfl) (by decide) (backOf (W := 0) (rm_aa34 l Z a0 hw [] b s e2 d m c cn cs h0 n0 Z0 F_value_b F_coder_b F_count_b E_b g_b g_d F_value_s F_coder_s E_s B_e2 ned nbs hcn S_String_COMPACT_STRINGS hcs B_d hno hcp) hZ (ow hw 58 rfl) (ow hw 33 rfl) (by decide) (by decide)) e0 (Ins.self E_b) (g := (mkF mM 2 #[.val (.ref b), .val (.ref s)] [(.ref s), (.ref b)])) rfl (by rw [hml]; rfl) (ow hw 58 rfl) (argsL := [(.ref s)]) (rest := []) (lenOf pd_10 rfl) rfl (by show 2 * 0 + _ ≤ _; exact Nat.le_of_eq rfl) (hb hby d_jdk_67m7_2) (fun _ _ => ⟨rfl, e0, (by decide : 0 + 0 ≤ _), (by decide : 0 + 0 ≤ _)⟩)
  dsimp only [Pt.U, Pt.locs, Pt.cells, Pt.slots] at X_1 l_1 y_1 z_1 st_1 hQ_1
  subst l_1 y_1 z_1
  obtain ⟨rfl, N_1q, Kc_1, pfF_value_b_1, pfF_coder_b_1, pfF_count_b_1, pfE_b_1, pfB_d_1⟩ := hQ_1
  have Z_1 : n0 ≤ T_1.heap.size := (Nat.le_trans Z0 Kc_1.1)
  have K_1 : Keep h0 T_1.heap [b, d] := (Keep.refl h0 [b, d]).trans Kc_1 (allS (Or.inl (List.mem_of_getElem? (i := 0) rfl)) (allS (Or.inl (List.mem_of_getElem? (i := 1) rfl)) all0))
  have N_1 := Fr.app N0 N_1q
  obtain ⟨fs, hr, hrun, hended, hW, hsame⟩ := X_1.leave (v := some (.ref b)) (fun h => by rw [Bd.returns] at h; cases h)
  refine ⟨_, _, pre0 _ ?_, hrun, hended, _, _, rfl, ?_, ⟨_, rfl⟩, hW, hsame.mono (by decide) (by decide)⟩
  · show oS pP eE below s₁ (mkF mM 0 #[.val (.ref b), .val (.ref s)] []) _
    refine XS.aloadN X0.here hx rfl (hb hby d_jdk_67m7_0) rfl rfl ?_
    refine XS.aloadN X0.here hx rfl (hb hby d_jdk_67m7_1) rfl rfl ?_
    show oS pP eE below s₁ (mkF mM 2 #[.val (.ref b), .val (.ref s)] [(.ref s), (.ref b)]) _
    refine st_1.trans ?_
    show oS pP eE below T_1 (mkF mM 5 #[.val (.ref b), .val (.ref s)] [(.ref b)]) _
    refine XT.pop X_1.here hx rfl (hb hby d_jdk_67m7_5) rfl rfl ?_
    refine XS.aloadN X_1.here hx rfl (hb hby d_jdk_67m7_6) rfl rfl ?_
    show oS pP eE below T_1 (mkF mM 7 #[.val (.ref b), .val (.ref s)] [(.ref b)]) _
    exact retOut X_1 hx Bd.returns rfl (Or.inr (Or.inr (Or.inr (Or.inr ⟨rfl, rfl, rfl⟩)))) (hb hby d_jdk_67m7_7) hr
  · show Q_sa34 Z b s e2 d m c cn cs h0 n0 _ T_1.heap _
    exact ⟨rfl, N_1, K_1, pfF_value_b_1, pfF_coder_b_1, pfF_count_b_1, pfE_b_1, pfB_d_1⟩
theorem ef_saG (mM : MethodId) (x0 : Addr) (x1 : Addr) : entryFrame mM #[(.ref x0), (.ref x1)] 2 = mkF mM 0 #[.val (.ref x0), .val (.ref x1)] [] := by first | (simp [entryFrame, mkF, argsToLocals, Value.category]; done) | rfl
def Q_saG (Z : State) (b : Addr) (s : Addr) (e2 : Addr) (d : Addr) (m : Int32) (c : Int32) (cn : Int32) (cs : Int32) (h0 : Heap) (n0 : Nat) (v_ : Option Value) (h_ : Heap) (L_ : List Loc) : Prop := ∃ d2 : Addr, v_ = some (.ref b) ∧ Fr n0 L_ ∧ Keep h0 h_ [b] ∧ h0.size ≤ d2 ∧ Fld Z h_ b "java/lang/AbstractStringBuilder" "value" "[B" (.ref d2) ∧ Fld Z h_ b "java/lang/AbstractStringBuilder" "coder" "B" (.int (0 : Int32)) ∧ Fld Z h_ b "java/lang/AbstractStringBuilder" "count" "I" (.int cn) ∧ Exa Z h_ b "java/lang/StringBuilder" ∧ own_B Z h_ d2 (34 : Int32)
set_option maxRecDepth 65536 in
set_option maxHeartbeats 40000000 in
theorem rm_saG (l : Launch) (Z : State) (a0 : Array Value) (hw : ∀ d ∈ tables_1, d.before a0 Z = true) (ws : List Jvm.Cond) (b : Addr) (s : Addr) (e2 : Addr) (d : Addr) (m : Int32) (c : Int32) (cn : Int32) (cs : Int32) (h0 : Heap) (n0 : Nat) (Z0 : n0 ≤ h0.size) (F_value_b : Fld Z h0 b "java/lang/AbstractStringBuilder" "value" "[B" (.ref d)) (F_coder_b : Fld Z h0 b "java/lang/AbstractStringBuilder" "coder" "B" (.int (0 : Int32))) (F_count_b : Fld Z h0 b "java/lang/AbstractStringBuilder" "count" "I" (.int c)) (E_b : Exa Z h0 b "java/lang/StringBuilder") (g_b : n0 ≤ b) (g_d : n0 ≤ d) (F_value_s : Fld Z h0 s "java/lang/String" "value" "[B" (.ref e2)) (F_coder_s : Fld Z h0 s "java/lang/String" "coder" "B" (.int (0 : Int32))) (E_s : Exa Z h0 s "java/lang/String") (B_e2 : own_B Z h0 e2 m) (ned : e2 ≠ d) (nbs : b ≠ s) (hcn : (c + m) = cn) (S_String_COMPACT_STRINGS : Sta Z h0 "java/lang/String" "COMPACT_STRINGS" "Z" (.int cs)) (hcs : ¬ cs = 0) (B_d : own_B Z h0 d (16 : Int32)) (hgt : 0 < (cn - (16 : Int32))) (hlt : (cn - (16 : Int32)) < (18 : Int32)) (hcp : own_cp (0 : Int32) c m m (34 : Int32)) :
    MetFree l (⟨"java/lang/StringBuilder", "append", "(Ljava/lang/String;)Ljava/lang/StringBuilder;"⟩ : MethodName) (head1 (Jvm.Cond.code (⟨"java/lang/StringBuilder", "append", "(Ljava/lang/String;)Ljava/lang/StringBuilder;"⟩ : MethodName) jdk_67_method_7_code 2 (some (.object "java/lang/StringBuilder")) :: ws) oR13) (fun aa_ U_ => aa_ = #[(.ref b), (.ref s)] ∧ Z.Warmed39 U_.vm ∧ U_.heap = h0) (fun _ _ _ _ _ => True) (fun _ U_ o_ U'_ => ∃ v_ L_, o_ = .returned v_ ∧ Q_saG Z b s e2 d m c cn cs h0 n0 v_ U'_.heap L_ ∧ FrameEnd U_ o_ U'_ L_ oR13.cells oR13.slots) := by
  refine MetFree.of_bodySF (plainFor_of_name pn_1) hisR ?_
  intro pP eE sS mM argsA below meth cC s₁ Bd hml0 hP hK
  obtain ⟨rfl, hZ, hh⟩ := hP
  have hx := Bd.exec
  have hby := Bd.bytes
  have hml : cC.maxLocals = 2 := hml0
  have hown : sS.vm.findClass "java/lang/StringBuilder" = some mM.cls := findClass_of_methodNamed Bd.named
  have hnm := (name_of_methodNamed Bd.named Bd.method).1
  have X0 : Stand pP l eE oR13 sS mM #[(.ref b), (.ref s)] below meth cC s₁ [] 0 0 := Stand.of_body Bd
  have e0 : s₁.heap = h0 := by rw [← hh, Bd.state]; rfl
  have N0 := Fr.nil n0
  have pre0 : ∀ t_, Steps pP.tables eE below (s₁.setTop (mkF mM 0 #[.val (.ref b), .val (.ref s)] [])) t_ → Steps pP.tables eE below (s₁.setTop (entryFrame mM #[(.ref b), (.ref s)] 2)) t_ := fun t_ k_ => castTop (ef_saG mM b s) k_
  obtain ⟨_, _, ⟨T_1, L_1, k_1, n_1⟩, -, X_1, ⟨Lc_1, hQ_1, l_1, y_1, z_1⟩, st_1⟩ := superBack X0 hx hZ (y := MN12) hown (ow hw 54 rfl) (own_same (y := MN12) (z := MN10) (ow hw 55 rfl) (ow hw 77 rfl) rfl (by decide)) (ow hw 55 rfl) (ow hw 56 rfl) (by decide) (backOf (W := 0) (rm_aaG l Z a0 hw [] b s e2 d m c cn cs h0 n0 Z0 F_value_b F_coder_b F_count_b E_b g_b g_d F_value_s F_coder_s E_s B_e2 ned nbs hcn S_String_COMPACT_STRINGS hcs B_d hgt hlt hcp) hZ (ow hw 58 rfl) (ow hw 33 rfl) (by decide) (by decide)) e0 (Ins.self E_b) (g := (mkF mM 2 #[.val (.ref b), .val (.ref s)] [(.ref s), (.ref b)])) rfl (by rw [hml]; rfl) (ow hw 58 rfl) (argsL := [(.ref s)]) (rest := []) (lenOf pd_10 rfl) rfl (by show 2 * 0 + _ ≤ _; exact Nat.le_of_eq rfl) (hb hby d_jdk_67m7_2) (fun _ _ => ⟨rfl, e0, (by decide : 0 + 1 ≤ _), (by decide : 0 + 34 ≤ _)⟩)
  dsimp only [Pt.U, Pt.locs, Pt.cells, Pt.slots] at X_1 l_1 y_1 z_1 st_1 hQ_1
  subst l_1 y_1 z_1
  obtain ⟨d2__1, ⟨rfl, N_1q, Kc_1, pfsz_d2_1, pfF_value_b_1, pfF_coder_b_1, pfF_count_b_1, pfE_b_1, pfB_d2_1⟩⟩ := hQ_1
  have Z_1 : n0 ≤ T_1.heap.size := (Nat.le_trans Z0 Kc_1.1)
  have K_1 : Keep h0 T_1.heap [b] := (Keep.refl h0 [b]).trans Kc_1 (allS (Or.inl (List.mem_of_getElem? (i := 0) rfl)) all0)
  have sz_d2__1 : h0.size ≤ d2__1 := Nat.le_trans (Keep.refl h0 [b]).1 pfsz_d2_1
  have g_d2__1 : n0 ≤ d2__1 := Nat.le_trans Z0 pfsz_d2_1
  have N_1 := Fr.app N0 N_1q
  obtain ⟨fs, hr, hrun, hended, hW, hsame⟩ := X_1.leave (v := some (.ref b)) (fun h => by rw [Bd.returns] at h; cases h)
  refine ⟨_, _, pre0 _ ?_, hrun, hended, _, _, rfl, ?_, ⟨_, rfl⟩, hW, hsame.mono (by decide) (by decide)⟩
  · show oS pP eE below s₁ (mkF mM 0 #[.val (.ref b), .val (.ref s)] []) _
    refine XS.aloadN X0.here hx rfl (hb hby d_jdk_67m7_0) rfl rfl ?_
    refine XS.aloadN X0.here hx rfl (hb hby d_jdk_67m7_1) rfl rfl ?_
    show oS pP eE below s₁ (mkF mM 2 #[.val (.ref b), .val (.ref s)] [(.ref s), (.ref b)]) _
    refine st_1.trans ?_
    show oS pP eE below T_1 (mkF mM 5 #[.val (.ref b), .val (.ref s)] [(.ref b)]) _
    refine XT.pop X_1.here hx rfl (hb hby d_jdk_67m7_5) rfl rfl ?_
    refine XS.aloadN X_1.here hx rfl (hb hby d_jdk_67m7_6) rfl rfl ?_
    show oS pP eE below T_1 (mkF mM 7 #[.val (.ref b), .val (.ref s)] [(.ref b)]) _
    exact retOut X_1 hx Bd.returns rfl (Or.inr (Or.inr (Or.inr (Or.inr ⟨rfl, rfl, rfl⟩)))) (hb hby d_jdk_67m7_7) hr
  · show Q_saG Z b s e2 d m c cn cs h0 n0 _ T_1.heap _
    exact ⟨d2__1, rfl, N_1, K_1, sz_d2__1, pfF_value_b_1, pfF_coder_b_1, pfF_count_b_1, pfE_b_1, pfB_d2_1⟩
def Q_ss (Z : State) (i : Int32) (h0 : Heap) (n0 : Nat) (v_ : Option Value) (h_ : Heap) (L_ : List Loc) : Prop := v_ = some (.int (own_sz i)) ∧ Fr n0 L_ ∧ h_ = h0
theorem d_jdk_33m13_0 : decode jdk_33_method_13_code 0 = .ok (.iconst 1, 1) := by decide +kernel
theorem d_jdk_33m13_1 : decode jdk_33_method_13_code 1 = .ok (.istore_n 1, 1) := by decide +kernel
theorem d_jdk_33m13_2 : decode jdk_33_method_13_code 2 = .ok (.iload_n 0, 1) := by decide +kernel
theorem d_jdk_33m13_3 : decode jdk_33_method_13_code 3 = .ok (.ifCond .lt 8, 3) := by decide +kernel
theorem d_jdk_33m13_6 : decode jdk_33_method_13_code 6 = .ok (.iconst 0, 1) := by decide +kernel
theorem d_jdk_33m13_7 : decode jdk_33_method_13_code 7 = .ok (.istore_n 1, 1) := by decide +kernel
theorem d_jdk_33m13_8 : decode jdk_33_method_13_code 8 = .ok (.iload_n 0, 1) := by decide +kernel
theorem d_jdk_33m13_9 : decode jdk_33_method_13_code 9 = .ok (.ineg, 1) := by decide +kernel
theorem d_jdk_33m13_10 : decode jdk_33_method_13_code 10 = .ok (.istore_n 0, 1) := by decide +kernel
theorem d_jdk_33m13_11 : decode jdk_33_method_13_code 11 = .ok (.bipush (-10), 2) := by decide +kernel
theorem d_jdk_33m13_13 : decode jdk_33_method_13_code 13 = .ok (.istore_n 2, 1) := by decide +kernel
theorem d_jdk_33m13_14 : decode jdk_33_method_13_code 14 = .ok (.iconst 1, 1) := by decide +kernel
theorem d_jdk_33m13_15 : decode jdk_33_method_13_code 15 = .ok (.istore_n 3, 1) := by decide +kernel
theorem d_jdk_33m13_16 : decode jdk_33_method_13_code 16 = .ok (.iload_n 3, 1) := by decide +kernel
theorem d_jdk_33m13_17 : decode jdk_33_method_13_code 17 = .ok (.bipush 10, 2) := by decide +kernel
theorem d_jdk_33m13_19 : decode jdk_33_method_13_code 19 = .ok (.if_icmp .ge 23, 3) := by decide +kernel
theorem d_jdk_33m13_22 : decode jdk_33_method_13_code 22 = .ok (.iload_n 0, 1) := by decide +kernel
theorem d_jdk_33m13_23 : decode jdk_33_method_13_code 23 = .ok (.iload_n 2, 1) := by decide +kernel
theorem d_jdk_33m13_24 : decode jdk_33_method_13_code 24 = .ok (.if_icmp .le 7, 3) := by decide +kernel
theorem d_jdk_33m13_27 : decode jdk_33_method_13_code 27 = .ok (.iload_n 3, 1) := by decide +kernel
theorem d_jdk_33m13_28 : decode jdk_33_method_13_code 28 = .ok (.iload_n 1, 1) := by decide +kernel
theorem d_jdk_33m13_29 : decode jdk_33_method_13_code 29 = .ok (.iadd, 1) := by decide +kernel
theorem d_jdk_33m13_30 : decode jdk_33_method_13_code 30 = .ok (.ireturn, 1) := by decide +kernel
theorem pn_5 : plainName "java/lang/Integer" = true := by first | (simp [plainName, overriddenIn]; done) | decide +kernel
theorem ef_ss_1 (mM : MethodId) (x0 : Int32) : entryFrame mM #[(.int x0)] 4 = mkF mM 0 #[.val (.int x0), .unset, .unset, .unset] [] := by first | (simp [entryFrame, mkF, argsToLocals, Value.category]; done) | rfl
set_option maxRecDepth 65536 in
set_option maxHeartbeats 40000000 in
theorem rm_ss_1 (l : Launch) (Z : State) (a0 : Array Value) (hw : ∀ d ∈ tables_1, d.before a0 Z = true) (ws : List Jvm.Cond) (i : Int32) (h0 : Heap) (n0 : Nat) (Z0 : n0 ≤ h0.size) (hi : own_i5 i) (z1 : i < (10 : Int32)) :
    MetFree l (⟨"java/lang/Integer", "stringSize", "(I)I"⟩ : MethodName) (head1 (Jvm.Cond.code (⟨"java/lang/Integer", "stringSize", "(I)I"⟩ : MethodName) jdk_33_method_13_code 4 (some .int) :: ws) oR2) (fun aa_ U_ => aa_ = #[(.int i)] ∧ Z.Warmed39 U_.vm ∧ U_.heap = h0) (fun _ _ _ _ _ => True) (fun _ U_ o_ U'_ => ∃ v_ L_, o_ = .returned v_ ∧ Q_ss Z i h0 n0 v_ U'_.heap L_ ∧ FrameEnd U_ o_ U'_ L_ oR2.cells oR2.slots) := by
  refine MetFree.of_bodySF (plainFor_of_name pn_5) hisR ?_
  intro pP eE sS mM argsA below meth cC s₁ Bd hml0 hP hK
  obtain ⟨rfl, hZ, hh⟩ := hP
  have hx := Bd.exec
  have hby := Bd.bytes
  have hml : cC.maxLocals = 4 := hml0
  have hown : sS.vm.findClass "java/lang/Integer" = some mM.cls := findClass_of_methodNamed Bd.named
  have hnm := (name_of_methodNamed Bd.named Bd.method).1
  have X0 : Stand pP l eE oR2 sS mM #[(.int i)] below meth cC s₁ [] 0 0 := Stand.of_body Bd
  have e0 : s₁.heap = h0 := by rw [← hh, Bd.state]; rfl
  have N0 := Fr.nil n0
  have pre0 : ∀ t_, Steps pP.tables eE below (s₁.setTop (mkF mM 0 #[.val (.int i), .unset, .unset, .unset] [])) t_ → Steps pP.tables eE below (s₁.setTop (entryFrame mM #[(.int i)] 4)) t_ := fun t_ k_ => castTop (ef_ss_1 mM i) k_
  obtain ⟨fs, hr, hrun, hended, hW, hsame⟩ := X0.leave (v := some (.int (1 : Int32))) (fun h => by rw [Bd.returns] at h; cases h)
  refine ⟨_, _, pre0 _ ?_, hrun, hended, _, _, rfl, ?_, ⟨_, rfl⟩, hW, hsame.mono (by decide) (by decide)⟩
  · show oS pP eE below s₁ (mkF mM 0 #[.val (.int i), .unset, .unset, .unset] []) _
    refine XS.iconst X0.here hx rfl (hb hby d_jdk_33m13_0) ?_
    refine XS.istoreN X0.here hx rfl (hb hby d_jdk_33m13_1) rfl (l' := #[.val (.int i), .val (.int (1 : Int32)), .unset, .unset]) rfl ?_
    refine XS.iloadN X0.here hx rfl (hb hby d_jdk_33m13_2) rfl ?_
    refine XS.ifNo X0.here hx rfl (hb hby d_jdk_33m13_3) rfl (XT.i0_lt_f (own_pos hi)) ?_
    refine XS.iconst X0.here hx rfl (hb hby d_jdk_33m13_6) ?_
    refine XS.istoreN X0.here hx rfl (hb hby d_jdk_33m13_7) rfl (l' := #[.val (.int i), .val (.int (0 : Int32)), .unset, .unset]) rfl ?_
    refine XS.iloadN X0.here hx rfl (hb hby d_jdk_33m13_8) rfl ?_
    show oS pP eE below s₁ (mkF mM 9 #[.val (.int i), .val (.int (0 : Int32)), .unset, .unset] [(.int i)]) _
    refine XS.ineg X0.here hx rfl (hb hby d_jdk_33m13_9) rfl ?_
    refine XS.istoreN X0.here hx rfl (hb hby d_jdk_33m13_10) rfl (l' := #[.val (.int (-i)), .val (.int (0 : Int32)), .unset, .unset]) rfl ?_
    refine XS.bipush X0.here hx rfl (hb hby d_jdk_33m13_11) ?_
    refine XS.istoreN X0.here hx rfl (hb hby d_jdk_33m13_13) rfl (l' := #[.val (.int (-i)), .val (.int (0 : Int32)), .val (.int (-10 : Int32)), .unset]) rfl ?_
    refine XS.iconst X0.here hx rfl (hb hby d_jdk_33m13_14) ?_
    refine XS.istoreN X0.here hx rfl (hb hby d_jdk_33m13_15) rfl (l' := #[.val (.int (-i)), .val (.int (0 : Int32)), .val (.int (-10 : Int32)), .val (.int (1 : Int32))]) rfl ?_
    refine XS.iloadN X0.here hx rfl (hb hby d_jdk_33m13_16) rfl ?_
    refine XS.bipush X0.here hx rfl (hb hby d_jdk_33m13_17) ?_
    refine XS.icmpNo X0.here hx rfl (hb hby d_jdk_33m13_19) rfl (by decide) ?_
    refine XS.iloadN X0.here hx rfl (hb hby d_jdk_33m13_22) rfl ?_
    refine XS.iloadN X0.here hx rfl (hb hby d_jdk_33m13_23) rfl ?_
    refine XS.icmpNo X0.here hx rfl (hb hby d_jdk_33m13_24) rfl (XT.ii_le_f ((own_nl hi (by decide)).mpr z1)) ?_
    refine XS.iloadN X0.here hx rfl (hb hby d_jdk_33m13_27) rfl ?_
    refine XS.iloadN X0.here hx rfl (hb hby d_jdk_33m13_28) rfl ?_
    show oS pP eE below s₁ (mkF mM 29 #[.val (.int (-i)), .val (.int (0 : Int32)), .val (.int (-10 : Int32)), .val (.int (1 : Int32))] [(.int (0 : Int32)), (.int (1 : Int32))]) _
    refine XS.iadd X0.here hx rfl (hb hby d_jdk_33m13_29) rfl ?_
    show Steps pP.tables eE below (s₁.setTop (mkF mM 30 #[.val (.int (-i)), .val (.int (0 : Int32)), .val (.int (-10 : Int32)), .val (.int (1 : Int32))] [(.int ((1 : Int32) + (0 : Int32)))])) _
    rw [(by decide : ((1 : Int32) + (0 : Int32)) = (1 : Int32))]
    show oS pP eE below s₁ (mkF mM 30 #[.val (.int (-i)), .val (.int (0 : Int32)), .val (.int (-10 : Int32)), .val (.int (1 : Int32))] [(.int (1 : Int32))]) _
    exact retI X0 hx Bd.returns (hb hby d_jdk_33m13_30) hr
  · show Q_ss Z i h0 n0 _ s₁.heap _
    rw [e0]
    exact ⟨(congrArg (fun z => some (Value.int z)) (by simp [own_sz, z1] : (1 : Int32) = own_sz i)), N0, rfl⟩
theorem d_jdk_33m13_31 : decode jdk_33_method_13_code 31 = .ok (.bipush 10, 2) := by decide +kernel
theorem d_jdk_33m13_33 : decode jdk_33_method_13_code 33 = .ok (.iload_n 2, 1) := by decide +kernel
theorem d_jdk_33m13_34 : decode jdk_33_method_13_code 34 = .ok (.imul, 1) := by decide +kernel
theorem d_jdk_33m13_35 : decode jdk_33_method_13_code 35 = .ok (.istore_n 2, 1) := by decide +kernel
theorem d_jdk_33m13_36 : decode jdk_33_method_13_code 36 = .ok (.iinc 3 1, 3) := by decide +kernel
theorem d_jdk_33m13_39 : decode jdk_33_method_13_code 39 = .ok (.goto (-23), 3) := by decide +kernel
theorem ef_ss_2 (mM : MethodId) (x0 : Int32) : entryFrame mM #[(.int x0)] 4 = mkF mM 0 #[.val (.int x0), .unset, .unset, .unset] [] := by first | (simp [entryFrame, mkF, argsToLocals, Value.category]; done) | rfl
set_option maxRecDepth 65536 in
set_option maxHeartbeats 40000000 in
theorem rm_ss_2 (l : Launch) (Z : State) (a0 : Array Value) (hw : ∀ d ∈ tables_1, d.before a0 Z = true) (ws : List Jvm.Cond) (i : Int32) (h0 : Heap) (n0 : Nat) (Z0 : n0 ≤ h0.size) (hi : own_i5 i) (z1 : ¬ i < (10 : Int32)) (z2 : i < (100 : Int32)) :
    MetFree l (⟨"java/lang/Integer", "stringSize", "(I)I"⟩ : MethodName) (head1 (Jvm.Cond.code (⟨"java/lang/Integer", "stringSize", "(I)I"⟩ : MethodName) jdk_33_method_13_code 4 (some .int) :: ws) oR2) (fun aa_ U_ => aa_ = #[(.int i)] ∧ Z.Warmed39 U_.vm ∧ U_.heap = h0) (fun _ _ _ _ _ => True) (fun _ U_ o_ U'_ => ∃ v_ L_, o_ = .returned v_ ∧ Q_ss Z i h0 n0 v_ U'_.heap L_ ∧ FrameEnd U_ o_ U'_ L_ oR2.cells oR2.slots) := by
  refine MetFree.of_bodySF (plainFor_of_name pn_5) hisR ?_
  intro pP eE sS mM argsA below meth cC s₁ Bd hml0 hP hK
  obtain ⟨rfl, hZ, hh⟩ := hP
  have hx := Bd.exec
  have hby := Bd.bytes
  have hml : cC.maxLocals = 4 := hml0
  have hown : sS.vm.findClass "java/lang/Integer" = some mM.cls := findClass_of_methodNamed Bd.named
  have hnm := (name_of_methodNamed Bd.named Bd.method).1
  have X0 : Stand pP l eE oR2 sS mM #[(.int i)] below meth cC s₁ [] 0 0 := Stand.of_body Bd
  have e0 : s₁.heap = h0 := by rw [← hh, Bd.state]; rfl
  have N0 := Fr.nil n0
  have pre0 : ∀ t_, Steps pP.tables eE below (s₁.setTop (mkF mM 0 #[.val (.int i), .unset, .unset, .unset] [])) t_ → Steps pP.tables eE below (s₁.setTop (entryFrame mM #[(.int i)] 4)) t_ := fun t_ k_ => castTop (ef_ss_2 mM i) k_
  obtain ⟨fs, hr, hrun, hended, hW, hsame⟩ := X0.leave (v := some (.int (2 : Int32))) (fun h => by rw [Bd.returns] at h; cases h)
  refine ⟨_, _, pre0 _ ?_, hrun, hended, _, _, rfl, ?_, ⟨_, rfl⟩, hW, hsame.mono (by decide) (by decide)⟩
  · show oS pP eE below s₁ (mkF mM 0 #[.val (.int i), .unset, .unset, .unset] []) _
    refine XS.iconst X0.here hx rfl (hb hby d_jdk_33m13_0) ?_
    refine XS.istoreN X0.here hx rfl (hb hby d_jdk_33m13_1) rfl (l' := #[.val (.int i), .val (.int (1 : Int32)), .unset, .unset]) rfl ?_
    refine XS.iloadN X0.here hx rfl (hb hby d_jdk_33m13_2) rfl ?_
    refine XS.ifNo X0.here hx rfl (hb hby d_jdk_33m13_3) rfl (XT.i0_lt_f (own_pos hi)) ?_
    refine XS.iconst X0.here hx rfl (hb hby d_jdk_33m13_6) ?_
    refine XS.istoreN X0.here hx rfl (hb hby d_jdk_33m13_7) rfl (l' := #[.val (.int i), .val (.int (0 : Int32)), .unset, .unset]) rfl ?_
    refine XS.iloadN X0.here hx rfl (hb hby d_jdk_33m13_8) rfl ?_
    show oS pP eE below s₁ (mkF mM 9 #[.val (.int i), .val (.int (0 : Int32)), .unset, .unset] [(.int i)]) _
    refine XS.ineg X0.here hx rfl (hb hby d_jdk_33m13_9) rfl ?_
    refine XS.istoreN X0.here hx rfl (hb hby d_jdk_33m13_10) rfl (l' := #[.val (.int (-i)), .val (.int (0 : Int32)), .unset, .unset]) rfl ?_
    refine XS.bipush X0.here hx rfl (hb hby d_jdk_33m13_11) ?_
    refine XS.istoreN X0.here hx rfl (hb hby d_jdk_33m13_13) rfl (l' := #[.val (.int (-i)), .val (.int (0 : Int32)), .val (.int (-10 : Int32)), .unset]) rfl ?_
    refine XS.iconst X0.here hx rfl (hb hby d_jdk_33m13_14) ?_
    refine XS.istoreN X0.here hx rfl (hb hby d_jdk_33m13_15) rfl (l' := #[.val (.int (-i)), .val (.int (0 : Int32)), .val (.int (-10 : Int32)), .val (.int (1 : Int32))]) rfl ?_
    refine XS.iloadN X0.here hx rfl (hb hby d_jdk_33m13_16) rfl ?_
    refine XS.bipush X0.here hx rfl (hb hby d_jdk_33m13_17) ?_
    refine XS.icmpNo X0.here hx rfl (hb hby d_jdk_33m13_19) rfl (by decide) ?_
    refine XS.iloadN X0.here hx rfl (hb hby d_jdk_33m13_22) rfl ?_
    refine XS.iloadN X0.here hx rfl (hb hby d_jdk_33m13_23) rfl ?_
    refine XS.icmpYes X0.here hx rfl (pc0 := 24) (pc' := 31) rfl (hb hby d_jdk_33m13_24) rfl (XT.ii_le_t (mt (own_nl hi (by decide)).mp z1)) (by decide) (by decide) ?_
    refine XS.bipush X0.here hx rfl (hb hby d_jdk_33m13_31) ?_
    refine XS.iloadN X0.here hx rfl (hb hby d_jdk_33m13_33) rfl ?_
    show oS pP eE below s₁ (mkF mM 34 #[.val (.int (-i)), .val (.int (0 : Int32)), .val (.int (-10 : Int32)), .val (.int (1 : Int32))] [(.int (-10 : Int32)), (.int (10 : Int32))]) _
    refine XS.imul X0.here hx rfl (hb hby d_jdk_33m13_34) rfl ?_
    show Steps pP.tables eE below (s₁.setTop (mkF mM 35 #[.val (.int (-i)), .val (.int (0 : Int32)), .val (.int (-10 : Int32)), .val (.int (1 : Int32))] [(.int ((10 : Int32) * (-10 : Int32)))])) _
    rw [(by decide : ((10 : Int32) * (-10 : Int32)) = (-100 : Int32))]
    refine XS.istoreN X0.here hx rfl (hb hby d_jdk_33m13_35) rfl (l' := #[.val (.int (-i)), .val (.int (0 : Int32)), .val (.int (-100 : Int32)), .val (.int (1 : Int32))]) rfl ?_
    show oS pP eE below s₁ (mkF mM 36 #[.val (.int (-i)), .val (.int (0 : Int32)), .val (.int (-100 : Int32)), .val (.int (1 : Int32))] []) _
    refine XS.iinc X0.here hx rfl (hb hby d_jdk_33m13_36) rfl (l' := #[.val (.int (-i)), .val (.int (0 : Int32)), .val (.int (-100 : Int32)), .val (.int ((1 : Int32) + (1 : Int32)))]) rfl ?_
    show Steps pP.tables eE below (s₁.setTop (mkF mM 39 #[.val (.int (-i)), .val (.int (0 : Int32)), .val (.int (-100 : Int32)), .val (.int ((1 : Int32) + (1 : Int32)))] [])) _
    rw [(by decide : ((1 : Int32) + (1 : Int32)) = (2 : Int32))]
    refine XS.goto X0.here hx rfl (pc0 := 39) (pc' := 16) rfl (hb hby d_jdk_33m13_39) (by decide) (by decide) ?_
    refine XS.iloadN X0.here hx rfl (hb hby d_jdk_33m13_16) rfl ?_
    refine XS.bipush X0.here hx rfl (hb hby d_jdk_33m13_17) ?_
    refine XS.icmpNo X0.here hx rfl (hb hby d_jdk_33m13_19) rfl (by decide) ?_
    refine XS.iloadN X0.here hx rfl (hb hby d_jdk_33m13_22) rfl ?_
    refine XS.iloadN X0.here hx rfl (hb hby d_jdk_33m13_23) rfl ?_
    refine XS.icmpNo X0.here hx rfl (hb hby d_jdk_33m13_24) rfl (XT.ii_le_f ((own_nl hi (by decide)).mpr z2)) ?_
    refine XS.iloadN X0.here hx rfl (hb hby d_jdk_33m13_27) rfl ?_
    refine XS.iloadN X0.here hx rfl (hb hby d_jdk_33m13_28) rfl ?_
    show oS pP eE below s₁ (mkF mM 29 #[.val (.int (-i)), .val (.int (0 : Int32)), .val (.int (-100 : Int32)), .val (.int (2 : Int32))] [(.int (0 : Int32)), (.int (2 : Int32))]) _
    refine XS.iadd X0.here hx rfl (hb hby d_jdk_33m13_29) rfl ?_
    show Steps pP.tables eE below (s₁.setTop (mkF mM 30 #[.val (.int (-i)), .val (.int (0 : Int32)), .val (.int (-100 : Int32)), .val (.int (2 : Int32))] [(.int ((2 : Int32) + (0 : Int32)))])) _
    rw [(by decide : ((2 : Int32) + (0 : Int32)) = (2 : Int32))]
    show oS pP eE below s₁ (mkF mM 30 #[.val (.int (-i)), .val (.int (0 : Int32)), .val (.int (-100 : Int32)), .val (.int (2 : Int32))] [(.int (2 : Int32))]) _
    exact retI X0 hx Bd.returns (hb hby d_jdk_33m13_30) hr
  · show Q_ss Z i h0 n0 _ s₁.heap _
    rw [e0]
    exact ⟨(congrArg (fun z => some (Value.int z)) (by simp [own_sz, z1, z2] : (2 : Int32) = own_sz i)), N0, rfl⟩
theorem ef_ss_3 (mM : MethodId) (x0 : Int32) : entryFrame mM #[(.int x0)] 4 = mkF mM 0 #[.val (.int x0), .unset, .unset, .unset] [] := by first | (simp [entryFrame, mkF, argsToLocals, Value.category]; done) | rfl
set_option maxRecDepth 65536 in
set_option maxHeartbeats 40000000 in
theorem rm_ss_3 (l : Launch) (Z : State) (a0 : Array Value) (hw : ∀ d ∈ tables_1, d.before a0 Z = true) (ws : List Jvm.Cond) (i : Int32) (h0 : Heap) (n0 : Nat) (Z0 : n0 ≤ h0.size) (hi : own_i5 i) (z1 : ¬ i < (10 : Int32)) (z2 : ¬ i < (100 : Int32)) (z3 : i < (1000 : Int32)) :
    MetFree l (⟨"java/lang/Integer", "stringSize", "(I)I"⟩ : MethodName) (head1 (Jvm.Cond.code (⟨"java/lang/Integer", "stringSize", "(I)I"⟩ : MethodName) jdk_33_method_13_code 4 (some .int) :: ws) oR2) (fun aa_ U_ => aa_ = #[(.int i)] ∧ Z.Warmed39 U_.vm ∧ U_.heap = h0) (fun _ _ _ _ _ => True) (fun _ U_ o_ U'_ => ∃ v_ L_, o_ = .returned v_ ∧ Q_ss Z i h0 n0 v_ U'_.heap L_ ∧ FrameEnd U_ o_ U'_ L_ oR2.cells oR2.slots) := by
  refine MetFree.of_bodySF (plainFor_of_name pn_5) hisR ?_
  intro pP eE sS mM argsA below meth cC s₁ Bd hml0 hP hK
  obtain ⟨rfl, hZ, hh⟩ := hP
  have hx := Bd.exec
  have hby := Bd.bytes
  have hml : cC.maxLocals = 4 := hml0
  have hown : sS.vm.findClass "java/lang/Integer" = some mM.cls := findClass_of_methodNamed Bd.named
  have hnm := (name_of_methodNamed Bd.named Bd.method).1
  have X0 : Stand pP l eE oR2 sS mM #[(.int i)] below meth cC s₁ [] 0 0 := Stand.of_body Bd
  have e0 : s₁.heap = h0 := by rw [← hh, Bd.state]; rfl
  have N0 := Fr.nil n0
  have pre0 : ∀ t_, Steps pP.tables eE below (s₁.setTop (mkF mM 0 #[.val (.int i), .unset, .unset, .unset] [])) t_ → Steps pP.tables eE below (s₁.setTop (entryFrame mM #[(.int i)] 4)) t_ := fun t_ k_ => castTop (ef_ss_3 mM i) k_
  obtain ⟨fs, hr, hrun, hended, hW, hsame⟩ := X0.leave (v := some (.int (3 : Int32))) (fun h => by rw [Bd.returns] at h; cases h)
  refine ⟨_, _, pre0 _ ?_, hrun, hended, _, _, rfl, ?_, ⟨_, rfl⟩, hW, hsame.mono (by decide) (by decide)⟩
  · show oS pP eE below s₁ (mkF mM 0 #[.val (.int i), .unset, .unset, .unset] []) _
    refine XS.iconst X0.here hx rfl (hb hby d_jdk_33m13_0) ?_
    refine XS.istoreN X0.here hx rfl (hb hby d_jdk_33m13_1) rfl (l' := #[.val (.int i), .val (.int (1 : Int32)), .unset, .unset]) rfl ?_
    refine XS.iloadN X0.here hx rfl (hb hby d_jdk_33m13_2) rfl ?_
    refine XS.ifNo X0.here hx rfl (hb hby d_jdk_33m13_3) rfl (XT.i0_lt_f (own_pos hi)) ?_
    refine XS.iconst X0.here hx rfl (hb hby d_jdk_33m13_6) ?_
    refine XS.istoreN X0.here hx rfl (hb hby d_jdk_33m13_7) rfl (l' := #[.val (.int i), .val (.int (0 : Int32)), .unset, .unset]) rfl ?_
    refine XS.iloadN X0.here hx rfl (hb hby d_jdk_33m13_8) rfl ?_
    show oS pP eE below s₁ (mkF mM 9 #[.val (.int i), .val (.int (0 : Int32)), .unset, .unset] [(.int i)]) _
    refine XS.ineg X0.here hx rfl (hb hby d_jdk_33m13_9) rfl ?_
    refine XS.istoreN X0.here hx rfl (hb hby d_jdk_33m13_10) rfl (l' := #[.val (.int (-i)), .val (.int (0 : Int32)), .unset, .unset]) rfl ?_
    refine XS.bipush X0.here hx rfl (hb hby d_jdk_33m13_11) ?_
    refine XS.istoreN X0.here hx rfl (hb hby d_jdk_33m13_13) rfl (l' := #[.val (.int (-i)), .val (.int (0 : Int32)), .val (.int (-10 : Int32)), .unset]) rfl ?_
    refine XS.iconst X0.here hx rfl (hb hby d_jdk_33m13_14) ?_
    refine XS.istoreN X0.here hx rfl (hb hby d_jdk_33m13_15) rfl (l' := #[.val (.int (-i)), .val (.int (0 : Int32)), .val (.int (-10 : Int32)), .val (.int (1 : Int32))]) rfl ?_
    refine XS.iloadN X0.here hx rfl (hb hby d_jdk_33m13_16) rfl ?_
    refine XS.bipush X0.here hx rfl (hb hby d_jdk_33m13_17) ?_
    refine XS.icmpNo X0.here hx rfl (hb hby d_jdk_33m13_19) rfl (by decide) ?_
    refine XS.iloadN X0.here hx rfl (hb hby d_jdk_33m13_22) rfl ?_
    refine XS.iloadN X0.here hx rfl (hb hby d_jdk_33m13_23) rfl ?_
    refine XS.icmpYes X0.here hx rfl (pc0 := 24) (pc' := 31) rfl (hb hby d_jdk_33m13_24) rfl (XT.ii_le_t (mt (own_nl hi (by decide)).mp z1)) (by decide) (by decide) ?_
    refine XS.bipush X0.here hx rfl (hb hby d_jdk_33m13_31) ?_
    refine XS.iloadN X0.here hx rfl (hb hby d_jdk_33m13_33) rfl ?_
    show oS pP eE below s₁ (mkF mM 34 #[.val (.int (-i)), .val (.int (0 : Int32)), .val (.int (-10 : Int32)), .val (.int (1 : Int32))] [(.int (-10 : Int32)), (.int (10 : Int32))]) _
    refine XS.imul X0.here hx rfl (hb hby d_jdk_33m13_34) rfl ?_
    show Steps pP.tables eE below (s₁.setTop (mkF mM 35 #[.val (.int (-i)), .val (.int (0 : Int32)), .val (.int (-10 : Int32)), .val (.int (1 : Int32))] [(.int ((10 : Int32) * (-10 : Int32)))])) _
    rw [(by decide : ((10 : Int32) * (-10 : Int32)) = (-100 : Int32))]
    refine XS.istoreN X0.here hx rfl (hb hby d_jdk_33m13_35) rfl (l' := #[.val (.int (-i)), .val (.int (0 : Int32)), .val (.int (-100 : Int32)), .val (.int (1 : Int32))]) rfl ?_
    show oS pP eE below s₁ (mkF mM 36 #[.val (.int (-i)), .val (.int (0 : Int32)), .val (.int (-100 : Int32)), .val (.int (1 : Int32))] []) _
    refine XS.iinc X0.here hx rfl (hb hby d_jdk_33m13_36) rfl (l' := #[.val (.int (-i)), .val (.int (0 : Int32)), .val (.int (-100 : Int32)), .val (.int ((1 : Int32) + (1 : Int32)))]) rfl ?_
    show Steps pP.tables eE below (s₁.setTop (mkF mM 39 #[.val (.int (-i)), .val (.int (0 : Int32)), .val (.int (-100 : Int32)), .val (.int ((1 : Int32) + (1 : Int32)))] [])) _
    rw [(by decide : ((1 : Int32) + (1 : Int32)) = (2 : Int32))]
    refine XS.goto X0.here hx rfl (pc0 := 39) (pc' := 16) rfl (hb hby d_jdk_33m13_39) (by decide) (by decide) ?_
    refine XS.iloadN X0.here hx rfl (hb hby d_jdk_33m13_16) rfl ?_
    refine XS.bipush X0.here hx rfl (hb hby d_jdk_33m13_17) ?_
    refine XS.icmpNo X0.here hx rfl (hb hby d_jdk_33m13_19) rfl (by decide) ?_
    refine XS.iloadN X0.here hx rfl (hb hby d_jdk_33m13_22) rfl ?_
    refine XS.iloadN X0.here hx rfl (hb hby d_jdk_33m13_23) rfl ?_
    refine XS.icmpYes X0.here hx rfl (pc0 := 24) (pc' := 31) rfl (hb hby d_jdk_33m13_24) rfl (XT.ii_le_t (mt (own_nl hi (by decide)).mp z2)) (by decide) (by decide) ?_
    refine XS.bipush X0.here hx rfl (hb hby d_jdk_33m13_31) ?_
    refine XS.iloadN X0.here hx rfl (hb hby d_jdk_33m13_33) rfl ?_
    show oS pP eE below s₁ (mkF mM 34 #[.val (.int (-i)), .val (.int (0 : Int32)), .val (.int (-100 : Int32)), .val (.int (2 : Int32))] [(.int (-100 : Int32)), (.int (10 : Int32))]) _
    refine XS.imul X0.here hx rfl (hb hby d_jdk_33m13_34) rfl ?_
    show Steps pP.tables eE below (s₁.setTop (mkF mM 35 #[.val (.int (-i)), .val (.int (0 : Int32)), .val (.int (-100 : Int32)), .val (.int (2 : Int32))] [(.int ((10 : Int32) * (-100 : Int32)))])) _
    rw [(by decide : ((10 : Int32) * (-100 : Int32)) = (-1000 : Int32))]
    refine XS.istoreN X0.here hx rfl (hb hby d_jdk_33m13_35) rfl (l' := #[.val (.int (-i)), .val (.int (0 : Int32)), .val (.int (-1000 : Int32)), .val (.int (2 : Int32))]) rfl ?_
    show oS pP eE below s₁ (mkF mM 36 #[.val (.int (-i)), .val (.int (0 : Int32)), .val (.int (-1000 : Int32)), .val (.int (2 : Int32))] []) _
    refine XS.iinc X0.here hx rfl (hb hby d_jdk_33m13_36) rfl (l' := #[.val (.int (-i)), .val (.int (0 : Int32)), .val (.int (-1000 : Int32)), .val (.int ((2 : Int32) + (1 : Int32)))]) rfl ?_
    show Steps pP.tables eE below (s₁.setTop (mkF mM 39 #[.val (.int (-i)), .val (.int (0 : Int32)), .val (.int (-1000 : Int32)), .val (.int ((2 : Int32) + (1 : Int32)))] [])) _
    rw [(by decide : ((2 : Int32) + (1 : Int32)) = (3 : Int32))]
    refine XS.goto X0.here hx rfl (pc0 := 39) (pc' := 16) rfl (hb hby d_jdk_33m13_39) (by decide) (by decide) ?_
    refine XS.iloadN X0.here hx rfl (hb hby d_jdk_33m13_16) rfl ?_
    refine XS.bipush X0.here hx rfl (hb hby d_jdk_33m13_17) ?_
    refine XS.icmpNo X0.here hx rfl (hb hby d_jdk_33m13_19) rfl (by decide) ?_
    refine XS.iloadN X0.here hx rfl (hb hby d_jdk_33m13_22) rfl ?_
    refine XS.iloadN X0.here hx rfl (hb hby d_jdk_33m13_23) rfl ?_
    refine XS.icmpNo X0.here hx rfl (hb hby d_jdk_33m13_24) rfl (XT.ii_le_f ((own_nl hi (by decide)).mpr z3)) ?_
    refine XS.iloadN X0.here hx rfl (hb hby d_jdk_33m13_27) rfl ?_
    refine XS.iloadN X0.here hx rfl (hb hby d_jdk_33m13_28) rfl ?_
    show oS pP eE below s₁ (mkF mM 29 #[.val (.int (-i)), .val (.int (0 : Int32)), .val (.int (-1000 : Int32)), .val (.int (3 : Int32))] [(.int (0 : Int32)), (.int (3 : Int32))]) _
    refine XS.iadd X0.here hx rfl (hb hby d_jdk_33m13_29) rfl ?_
    show Steps pP.tables eE below (s₁.setTop (mkF mM 30 #[.val (.int (-i)), .val (.int (0 : Int32)), .val (.int (-1000 : Int32)), .val (.int (3 : Int32))] [(.int ((3 : Int32) + (0 : Int32)))])) _
    rw [(by decide : ((3 : Int32) + (0 : Int32)) = (3 : Int32))]
    show oS pP eE below s₁ (mkF mM 30 #[.val (.int (-i)), .val (.int (0 : Int32)), .val (.int (-1000 : Int32)), .val (.int (3 : Int32))] [(.int (3 : Int32))]) _
    exact retI X0 hx Bd.returns (hb hby d_jdk_33m13_30) hr
  · show Q_ss Z i h0 n0 _ s₁.heap _
    rw [e0]
    exact ⟨(congrArg (fun z => some (Value.int z)) (by simp [own_sz, z1, z2, z3] : (3 : Int32) = own_sz i)), N0, rfl⟩
theorem ef_ss_4 (mM : MethodId) (x0 : Int32) : entryFrame mM #[(.int x0)] 4 = mkF mM 0 #[.val (.int x0), .unset, .unset, .unset] [] := by first | (simp [entryFrame, mkF, argsToLocals, Value.category]; done) | rfl
set_option maxRecDepth 65536 in
set_option maxHeartbeats 40000000 in
theorem rm_ss_4 (l : Launch) (Z : State) (a0 : Array Value) (hw : ∀ d ∈ tables_1, d.before a0 Z = true) (ws : List Jvm.Cond) (i : Int32) (h0 : Heap) (n0 : Nat) (Z0 : n0 ≤ h0.size) (hi : own_i5 i) (z1 : ¬ i < (10 : Int32)) (z2 : ¬ i < (100 : Int32)) (z3 : ¬ i < (1000 : Int32)) (z4 : i < (10000 : Int32)) :
    MetFree l (⟨"java/lang/Integer", "stringSize", "(I)I"⟩ : MethodName) (head1 (Jvm.Cond.code (⟨"java/lang/Integer", "stringSize", "(I)I"⟩ : MethodName) jdk_33_method_13_code 4 (some .int) :: ws) oR2) (fun aa_ U_ => aa_ = #[(.int i)] ∧ Z.Warmed39 U_.vm ∧ U_.heap = h0) (fun _ _ _ _ _ => True) (fun _ U_ o_ U'_ => ∃ v_ L_, o_ = .returned v_ ∧ Q_ss Z i h0 n0 v_ U'_.heap L_ ∧ FrameEnd U_ o_ U'_ L_ oR2.cells oR2.slots) := by
  refine MetFree.of_bodySF (plainFor_of_name pn_5) hisR ?_
  intro pP eE sS mM argsA below meth cC s₁ Bd hml0 hP hK
  obtain ⟨rfl, hZ, hh⟩ := hP
  have hx := Bd.exec
  have hby := Bd.bytes
  have hml : cC.maxLocals = 4 := hml0
  have hown : sS.vm.findClass "java/lang/Integer" = some mM.cls := findClass_of_methodNamed Bd.named
  have hnm := (name_of_methodNamed Bd.named Bd.method).1
  have X0 : Stand pP l eE oR2 sS mM #[(.int i)] below meth cC s₁ [] 0 0 := Stand.of_body Bd
  have e0 : s₁.heap = h0 := by rw [← hh, Bd.state]; rfl
  have N0 := Fr.nil n0
  have pre0 : ∀ t_, Steps pP.tables eE below (s₁.setTop (mkF mM 0 #[.val (.int i), .unset, .unset, .unset] [])) t_ → Steps pP.tables eE below (s₁.setTop (entryFrame mM #[(.int i)] 4)) t_ := fun t_ k_ => castTop (ef_ss_4 mM i) k_
  obtain ⟨fs, hr, hrun, hended, hW, hsame⟩ := X0.leave (v := some (.int (4 : Int32))) (fun h => by rw [Bd.returns] at h; cases h)
  refine ⟨_, _, pre0 _ ?_, hrun, hended, _, _, rfl, ?_, ⟨_, rfl⟩, hW, hsame.mono (by decide) (by decide)⟩
  · show oS pP eE below s₁ (mkF mM 0 #[.val (.int i), .unset, .unset, .unset] []) _
    refine XS.iconst X0.here hx rfl (hb hby d_jdk_33m13_0) ?_
    refine XS.istoreN X0.here hx rfl (hb hby d_jdk_33m13_1) rfl (l' := #[.val (.int i), .val (.int (1 : Int32)), .unset, .unset]) rfl ?_
    refine XS.iloadN X0.here hx rfl (hb hby d_jdk_33m13_2) rfl ?_
    refine XS.ifNo X0.here hx rfl (hb hby d_jdk_33m13_3) rfl (XT.i0_lt_f (own_pos hi)) ?_
    refine XS.iconst X0.here hx rfl (hb hby d_jdk_33m13_6) ?_
    refine XS.istoreN X0.here hx rfl (hb hby d_jdk_33m13_7) rfl (l' := #[.val (.int i), .val (.int (0 : Int32)), .unset, .unset]) rfl ?_
    refine XS.iloadN X0.here hx rfl (hb hby d_jdk_33m13_8) rfl ?_
    show oS pP eE below s₁ (mkF mM 9 #[.val (.int i), .val (.int (0 : Int32)), .unset, .unset] [(.int i)]) _
    refine XS.ineg X0.here hx rfl (hb hby d_jdk_33m13_9) rfl ?_
    refine XS.istoreN X0.here hx rfl (hb hby d_jdk_33m13_10) rfl (l' := #[.val (.int (-i)), .val (.int (0 : Int32)), .unset, .unset]) rfl ?_
    refine XS.bipush X0.here hx rfl (hb hby d_jdk_33m13_11) ?_
    refine XS.istoreN X0.here hx rfl (hb hby d_jdk_33m13_13) rfl (l' := #[.val (.int (-i)), .val (.int (0 : Int32)), .val (.int (-10 : Int32)), .unset]) rfl ?_
    refine XS.iconst X0.here hx rfl (hb hby d_jdk_33m13_14) ?_
    refine XS.istoreN X0.here hx rfl (hb hby d_jdk_33m13_15) rfl (l' := #[.val (.int (-i)), .val (.int (0 : Int32)), .val (.int (-10 : Int32)), .val (.int (1 : Int32))]) rfl ?_
    refine XS.iloadN X0.here hx rfl (hb hby d_jdk_33m13_16) rfl ?_
    refine XS.bipush X0.here hx rfl (hb hby d_jdk_33m13_17) ?_
    refine XS.icmpNo X0.here hx rfl (hb hby d_jdk_33m13_19) rfl (by decide) ?_
    refine XS.iloadN X0.here hx rfl (hb hby d_jdk_33m13_22) rfl ?_
    refine XS.iloadN X0.here hx rfl (hb hby d_jdk_33m13_23) rfl ?_
    refine XS.icmpYes X0.here hx rfl (pc0 := 24) (pc' := 31) rfl (hb hby d_jdk_33m13_24) rfl (XT.ii_le_t (mt (own_nl hi (by decide)).mp z1)) (by decide) (by decide) ?_
    refine XS.bipush X0.here hx rfl (hb hby d_jdk_33m13_31) ?_
    refine XS.iloadN X0.here hx rfl (hb hby d_jdk_33m13_33) rfl ?_
    show oS pP eE below s₁ (mkF mM 34 #[.val (.int (-i)), .val (.int (0 : Int32)), .val (.int (-10 : Int32)), .val (.int (1 : Int32))] [(.int (-10 : Int32)), (.int (10 : Int32))]) _
    refine XS.imul X0.here hx rfl (hb hby d_jdk_33m13_34) rfl ?_
    show Steps pP.tables eE below (s₁.setTop (mkF mM 35 #[.val (.int (-i)), .val (.int (0 : Int32)), .val (.int (-10 : Int32)), .val (.int (1 : Int32))] [(.int ((10 : Int32) * (-10 : Int32)))])) _
    rw [(by decide : ((10 : Int32) * (-10 : Int32)) = (-100 : Int32))]
    refine XS.istoreN X0.here hx rfl (hb hby d_jdk_33m13_35) rfl (l' := #[.val (.int (-i)), .val (.int (0 : Int32)), .val (.int (-100 : Int32)), .val (.int (1 : Int32))]) rfl ?_
    show oS pP eE below s₁ (mkF mM 36 #[.val (.int (-i)), .val (.int (0 : Int32)), .val (.int (-100 : Int32)), .val (.int (1 : Int32))] []) _
    refine XS.iinc X0.here hx rfl (hb hby d_jdk_33m13_36) rfl (l' := #[.val (.int (-i)), .val (.int (0 : Int32)), .val (.int (-100 : Int32)), .val (.int ((1 : Int32) + (1 : Int32)))]) rfl ?_
    show Steps pP.tables eE below (s₁.setTop (mkF mM 39 #[.val (.int (-i)), .val (.int (0 : Int32)), .val (.int (-100 : Int32)), .val (.int ((1 : Int32) + (1 : Int32)))] [])) _
    rw [(by decide : ((1 : Int32) + (1 : Int32)) = (2 : Int32))]
    refine XS.goto X0.here hx rfl (pc0 := 39) (pc' := 16) rfl (hb hby d_jdk_33m13_39) (by decide) (by decide) ?_
    refine XS.iloadN X0.here hx rfl (hb hby d_jdk_33m13_16) rfl ?_
    refine XS.bipush X0.here hx rfl (hb hby d_jdk_33m13_17) ?_
    refine XS.icmpNo X0.here hx rfl (hb hby d_jdk_33m13_19) rfl (by decide) ?_
    refine XS.iloadN X0.here hx rfl (hb hby d_jdk_33m13_22) rfl ?_
    refine XS.iloadN X0.here hx rfl (hb hby d_jdk_33m13_23) rfl ?_
    refine XS.icmpYes X0.here hx rfl (pc0 := 24) (pc' := 31) rfl (hb hby d_jdk_33m13_24) rfl (XT.ii_le_t (mt (own_nl hi (by decide)).mp z2)) (by decide) (by decide) ?_
    refine XS.bipush X0.here hx rfl (hb hby d_jdk_33m13_31) ?_
    refine XS.iloadN X0.here hx rfl (hb hby d_jdk_33m13_33) rfl ?_
    show oS pP eE below s₁ (mkF mM 34 #[.val (.int (-i)), .val (.int (0 : Int32)), .val (.int (-100 : Int32)), .val (.int (2 : Int32))] [(.int (-100 : Int32)), (.int (10 : Int32))]) _
    refine XS.imul X0.here hx rfl (hb hby d_jdk_33m13_34) rfl ?_
    show Steps pP.tables eE below (s₁.setTop (mkF mM 35 #[.val (.int (-i)), .val (.int (0 : Int32)), .val (.int (-100 : Int32)), .val (.int (2 : Int32))] [(.int ((10 : Int32) * (-100 : Int32)))])) _
    rw [(by decide : ((10 : Int32) * (-100 : Int32)) = (-1000 : Int32))]
    refine XS.istoreN X0.here hx rfl (hb hby d_jdk_33m13_35) rfl (l' := #[.val (.int (-i)), .val (.int (0 : Int32)), .val (.int (-1000 : Int32)), .val (.int (2 : Int32))]) rfl ?_
    show oS pP eE below s₁ (mkF mM 36 #[.val (.int (-i)), .val (.int (0 : Int32)), .val (.int (-1000 : Int32)), .val (.int (2 : Int32))] []) _
    refine XS.iinc X0.here hx rfl (hb hby d_jdk_33m13_36) rfl (l' := #[.val (.int (-i)), .val (.int (0 : Int32)), .val (.int (-1000 : Int32)), .val (.int ((2 : Int32) + (1 : Int32)))]) rfl ?_
    show Steps pP.tables eE below (s₁.setTop (mkF mM 39 #[.val (.int (-i)), .val (.int (0 : Int32)), .val (.int (-1000 : Int32)), .val (.int ((2 : Int32) + (1 : Int32)))] [])) _
    rw [(by decide : ((2 : Int32) + (1 : Int32)) = (3 : Int32))]
    refine XS.goto X0.here hx rfl (pc0 := 39) (pc' := 16) rfl (hb hby d_jdk_33m13_39) (by decide) (by decide) ?_
    refine XS.iloadN X0.here hx rfl (hb hby d_jdk_33m13_16) rfl ?_
    refine XS.bipush X0.here hx rfl (hb hby d_jdk_33m13_17) ?_
    refine XS.icmpNo X0.here hx rfl (hb hby d_jdk_33m13_19) rfl (by decide) ?_
    refine XS.iloadN X0.here hx rfl (hb hby d_jdk_33m13_22) rfl ?_
    refine XS.iloadN X0.here hx rfl (hb hby d_jdk_33m13_23) rfl ?_
    refine XS.icmpYes X0.here hx rfl (pc0 := 24) (pc' := 31) rfl (hb hby d_jdk_33m13_24) rfl (XT.ii_le_t (mt (own_nl hi (by decide)).mp z3)) (by decide) (by decide) ?_
    refine XS.bipush X0.here hx rfl (hb hby d_jdk_33m13_31) ?_
    refine XS.iloadN X0.here hx rfl (hb hby d_jdk_33m13_33) rfl ?_
    show oS pP eE below s₁ (mkF mM 34 #[.val (.int (-i)), .val (.int (0 : Int32)), .val (.int (-1000 : Int32)), .val (.int (3 : Int32))] [(.int (-1000 : Int32)), (.int (10 : Int32))]) _
    refine XS.imul X0.here hx rfl (hb hby d_jdk_33m13_34) rfl ?_
    show Steps pP.tables eE below (s₁.setTop (mkF mM 35 #[.val (.int (-i)), .val (.int (0 : Int32)), .val (.int (-1000 : Int32)), .val (.int (3 : Int32))] [(.int ((10 : Int32) * (-1000 : Int32)))])) _
    rw [(by decide : ((10 : Int32) * (-1000 : Int32)) = (-10000 : Int32))]
    refine XS.istoreN X0.here hx rfl (hb hby d_jdk_33m13_35) rfl (l' := #[.val (.int (-i)), .val (.int (0 : Int32)), .val (.int (-10000 : Int32)), .val (.int (3 : Int32))]) rfl ?_
    show oS pP eE below s₁ (mkF mM 36 #[.val (.int (-i)), .val (.int (0 : Int32)), .val (.int (-10000 : Int32)), .val (.int (3 : Int32))] []) _
    refine XS.iinc X0.here hx rfl (hb hby d_jdk_33m13_36) rfl (l' := #[.val (.int (-i)), .val (.int (0 : Int32)), .val (.int (-10000 : Int32)), .val (.int ((3 : Int32) + (1 : Int32)))]) rfl ?_
    show Steps pP.tables eE below (s₁.setTop (mkF mM 39 #[.val (.int (-i)), .val (.int (0 : Int32)), .val (.int (-10000 : Int32)), .val (.int ((3 : Int32) + (1 : Int32)))] [])) _
    rw [(by decide : ((3 : Int32) + (1 : Int32)) = (4 : Int32))]
    refine XS.goto X0.here hx rfl (pc0 := 39) (pc' := 16) rfl (hb hby d_jdk_33m13_39) (by decide) (by decide) ?_
    refine XS.iloadN X0.here hx rfl (hb hby d_jdk_33m13_16) rfl ?_
    refine XS.bipush X0.here hx rfl (hb hby d_jdk_33m13_17) ?_
    refine XS.icmpNo X0.here hx rfl (hb hby d_jdk_33m13_19) rfl (by decide) ?_
    refine XS.iloadN X0.here hx rfl (hb hby d_jdk_33m13_22) rfl ?_
    refine XS.iloadN X0.here hx rfl (hb hby d_jdk_33m13_23) rfl ?_
    refine XS.icmpNo X0.here hx rfl (hb hby d_jdk_33m13_24) rfl (XT.ii_le_f ((own_nl hi (by decide)).mpr z4)) ?_
    refine XS.iloadN X0.here hx rfl (hb hby d_jdk_33m13_27) rfl ?_
    refine XS.iloadN X0.here hx rfl (hb hby d_jdk_33m13_28) rfl ?_
    show oS pP eE below s₁ (mkF mM 29 #[.val (.int (-i)), .val (.int (0 : Int32)), .val (.int (-10000 : Int32)), .val (.int (4 : Int32))] [(.int (0 : Int32)), (.int (4 : Int32))]) _
    refine XS.iadd X0.here hx rfl (hb hby d_jdk_33m13_29) rfl ?_
    show Steps pP.tables eE below (s₁.setTop (mkF mM 30 #[.val (.int (-i)), .val (.int (0 : Int32)), .val (.int (-10000 : Int32)), .val (.int (4 : Int32))] [(.int ((4 : Int32) + (0 : Int32)))])) _
    rw [(by decide : ((4 : Int32) + (0 : Int32)) = (4 : Int32))]
    show oS pP eE below s₁ (mkF mM 30 #[.val (.int (-i)), .val (.int (0 : Int32)), .val (.int (-10000 : Int32)), .val (.int (4 : Int32))] [(.int (4 : Int32))]) _
    exact retI X0 hx Bd.returns (hb hby d_jdk_33m13_30) hr
  · show Q_ss Z i h0 n0 _ s₁.heap _
    rw [e0]
    exact ⟨(congrArg (fun z => some (Value.int z)) (by simp [own_sz, z1, z2, z3, z4] : (4 : Int32) = own_sz i)), N0, rfl⟩
theorem ef_ss_5 (mM : MethodId) (x0 : Int32) : entryFrame mM #[(.int x0)] 4 = mkF mM 0 #[.val (.int x0), .unset, .unset, .unset] [] := by first | (simp [entryFrame, mkF, argsToLocals, Value.category]; done) | rfl
set_option maxRecDepth 65536 in
set_option maxHeartbeats 40000000 in
theorem rm_ss_5 (l : Launch) (Z : State) (a0 : Array Value) (hw : ∀ d ∈ tables_1, d.before a0 Z = true) (ws : List Jvm.Cond) (i : Int32) (h0 : Heap) (n0 : Nat) (Z0 : n0 ≤ h0.size) (hi : own_i5 i) (z1 : ¬ i < (10 : Int32)) (z2 : ¬ i < (100 : Int32)) (z3 : ¬ i < (1000 : Int32)) (z4 : ¬ i < (10000 : Int32)) :
    MetFree l (⟨"java/lang/Integer", "stringSize", "(I)I"⟩ : MethodName) (head1 (Jvm.Cond.code (⟨"java/lang/Integer", "stringSize", "(I)I"⟩ : MethodName) jdk_33_method_13_code 4 (some .int) :: ws) oR2) (fun aa_ U_ => aa_ = #[(.int i)] ∧ Z.Warmed39 U_.vm ∧ U_.heap = h0) (fun _ _ _ _ _ => True) (fun _ U_ o_ U'_ => ∃ v_ L_, o_ = .returned v_ ∧ Q_ss Z i h0 n0 v_ U'_.heap L_ ∧ FrameEnd U_ o_ U'_ L_ oR2.cells oR2.slots) := by
  refine MetFree.of_bodySF (plainFor_of_name pn_5) hisR ?_
  intro pP eE sS mM argsA below meth cC s₁ Bd hml0 hP hK
  obtain ⟨rfl, hZ, hh⟩ := hP
  have hx := Bd.exec
  have hby := Bd.bytes
  have hml : cC.maxLocals = 4 := hml0
  have hown : sS.vm.findClass "java/lang/Integer" = some mM.cls := findClass_of_methodNamed Bd.named
  have hnm := (name_of_methodNamed Bd.named Bd.method).1
  have X0 : Stand pP l eE oR2 sS mM #[(.int i)] below meth cC s₁ [] 0 0 := Stand.of_body Bd
  have e0 : s₁.heap = h0 := by rw [← hh, Bd.state]; rfl
  have N0 := Fr.nil n0
  have pre0 : ∀ t_, Steps pP.tables eE below (s₁.setTop (mkF mM 0 #[.val (.int i), .unset, .unset, .unset] [])) t_ → Steps pP.tables eE below (s₁.setTop (entryFrame mM #[(.int i)] 4)) t_ := fun t_ k_ => castTop (ef_ss_5 mM i) k_
  obtain ⟨fs, hr, hrun, hended, hW, hsame⟩ := X0.leave (v := some (.int (5 : Int32))) (fun h => by rw [Bd.returns] at h; cases h)
  refine ⟨_, _, pre0 _ ?_, hrun, hended, _, _, rfl, ?_, ⟨_, rfl⟩, hW, hsame.mono (by decide) (by decide)⟩
  · show oS pP eE below s₁ (mkF mM 0 #[.val (.int i), .unset, .unset, .unset] []) _
    refine XS.iconst X0.here hx rfl (hb hby d_jdk_33m13_0) ?_
    refine XS.istoreN X0.here hx rfl (hb hby d_jdk_33m13_1) rfl (l' := #[.val (.int i), .val (.int (1 : Int32)), .unset, .unset]) rfl ?_
    refine XS.iloadN X0.here hx rfl (hb hby d_jdk_33m13_2) rfl ?_
    refine XS.ifNo X0.here hx rfl (hb hby d_jdk_33m13_3) rfl (XT.i0_lt_f (own_pos hi)) ?_
    refine XS.iconst X0.here hx rfl (hb hby d_jdk_33m13_6) ?_
    refine XS.istoreN X0.here hx rfl (hb hby d_jdk_33m13_7) rfl (l' := #[.val (.int i), .val (.int (0 : Int32)), .unset, .unset]) rfl ?_
    refine XS.iloadN X0.here hx rfl (hb hby d_jdk_33m13_8) rfl ?_
    show oS pP eE below s₁ (mkF mM 9 #[.val (.int i), .val (.int (0 : Int32)), .unset, .unset] [(.int i)]) _
    refine XS.ineg X0.here hx rfl (hb hby d_jdk_33m13_9) rfl ?_
    refine XS.istoreN X0.here hx rfl (hb hby d_jdk_33m13_10) rfl (l' := #[.val (.int (-i)), .val (.int (0 : Int32)), .unset, .unset]) rfl ?_
    refine XS.bipush X0.here hx rfl (hb hby d_jdk_33m13_11) ?_
    refine XS.istoreN X0.here hx rfl (hb hby d_jdk_33m13_13) rfl (l' := #[.val (.int (-i)), .val (.int (0 : Int32)), .val (.int (-10 : Int32)), .unset]) rfl ?_
    refine XS.iconst X0.here hx rfl (hb hby d_jdk_33m13_14) ?_
    refine XS.istoreN X0.here hx rfl (hb hby d_jdk_33m13_15) rfl (l' := #[.val (.int (-i)), .val (.int (0 : Int32)), .val (.int (-10 : Int32)), .val (.int (1 : Int32))]) rfl ?_
    refine XS.iloadN X0.here hx rfl (hb hby d_jdk_33m13_16) rfl ?_
    refine XS.bipush X0.here hx rfl (hb hby d_jdk_33m13_17) ?_
    refine XS.icmpNo X0.here hx rfl (hb hby d_jdk_33m13_19) rfl (by decide) ?_
    refine XS.iloadN X0.here hx rfl (hb hby d_jdk_33m13_22) rfl ?_
    refine XS.iloadN X0.here hx rfl (hb hby d_jdk_33m13_23) rfl ?_
    refine XS.icmpYes X0.here hx rfl (pc0 := 24) (pc' := 31) rfl (hb hby d_jdk_33m13_24) rfl (XT.ii_le_t (mt (own_nl hi (by decide)).mp z1)) (by decide) (by decide) ?_
    refine XS.bipush X0.here hx rfl (hb hby d_jdk_33m13_31) ?_
    refine XS.iloadN X0.here hx rfl (hb hby d_jdk_33m13_33) rfl ?_
    show oS pP eE below s₁ (mkF mM 34 #[.val (.int (-i)), .val (.int (0 : Int32)), .val (.int (-10 : Int32)), .val (.int (1 : Int32))] [(.int (-10 : Int32)), (.int (10 : Int32))]) _
    refine XS.imul X0.here hx rfl (hb hby d_jdk_33m13_34) rfl ?_
    show Steps pP.tables eE below (s₁.setTop (mkF mM 35 #[.val (.int (-i)), .val (.int (0 : Int32)), .val (.int (-10 : Int32)), .val (.int (1 : Int32))] [(.int ((10 : Int32) * (-10 : Int32)))])) _
    rw [(by decide : ((10 : Int32) * (-10 : Int32)) = (-100 : Int32))]
    refine XS.istoreN X0.here hx rfl (hb hby d_jdk_33m13_35) rfl (l' := #[.val (.int (-i)), .val (.int (0 : Int32)), .val (.int (-100 : Int32)), .val (.int (1 : Int32))]) rfl ?_
    show oS pP eE below s₁ (mkF mM 36 #[.val (.int (-i)), .val (.int (0 : Int32)), .val (.int (-100 : Int32)), .val (.int (1 : Int32))] []) _
    refine XS.iinc X0.here hx rfl (hb hby d_jdk_33m13_36) rfl (l' := #[.val (.int (-i)), .val (.int (0 : Int32)), .val (.int (-100 : Int32)), .val (.int ((1 : Int32) + (1 : Int32)))]) rfl ?_
    show Steps pP.tables eE below (s₁.setTop (mkF mM 39 #[.val (.int (-i)), .val (.int (0 : Int32)), .val (.int (-100 : Int32)), .val (.int ((1 : Int32) + (1 : Int32)))] [])) _
    rw [(by decide : ((1 : Int32) + (1 : Int32)) = (2 : Int32))]
    refine XS.goto X0.here hx rfl (pc0 := 39) (pc' := 16) rfl (hb hby d_jdk_33m13_39) (by decide) (by decide) ?_
    refine XS.iloadN X0.here hx rfl (hb hby d_jdk_33m13_16) rfl ?_
    refine XS.bipush X0.here hx rfl (hb hby d_jdk_33m13_17) ?_
    refine XS.icmpNo X0.here hx rfl (hb hby d_jdk_33m13_19) rfl (by decide) ?_
    refine XS.iloadN X0.here hx rfl (hb hby d_jdk_33m13_22) rfl ?_
    refine XS.iloadN X0.here hx rfl (hb hby d_jdk_33m13_23) rfl ?_
    refine XS.icmpYes X0.here hx rfl (pc0 := 24) (pc' := 31) rfl (hb hby d_jdk_33m13_24) rfl (XT.ii_le_t (mt (own_nl hi (by decide)).mp z2)) (by decide) (by decide) ?_
    refine XS.bipush X0.here hx rfl (hb hby d_jdk_33m13_31) ?_
    refine XS.iloadN X0.here hx rfl (hb hby d_jdk_33m13_33) rfl ?_
    show oS pP eE below s₁ (mkF mM 34 #[.val (.int (-i)), .val (.int (0 : Int32)), .val (.int (-100 : Int32)), .val (.int (2 : Int32))] [(.int (-100 : Int32)), (.int (10 : Int32))]) _
    refine XS.imul X0.here hx rfl (hb hby d_jdk_33m13_34) rfl ?_
    show Steps pP.tables eE below (s₁.setTop (mkF mM 35 #[.val (.int (-i)), .val (.int (0 : Int32)), .val (.int (-100 : Int32)), .val (.int (2 : Int32))] [(.int ((10 : Int32) * (-100 : Int32)))])) _
    rw [(by decide : ((10 : Int32) * (-100 : Int32)) = (-1000 : Int32))]
    refine XS.istoreN X0.here hx rfl (hb hby d_jdk_33m13_35) rfl (l' := #[.val (.int (-i)), .val (.int (0 : Int32)), .val (.int (-1000 : Int32)), .val (.int (2 : Int32))]) rfl ?_
    show oS pP eE below s₁ (mkF mM 36 #[.val (.int (-i)), .val (.int (0 : Int32)), .val (.int (-1000 : Int32)), .val (.int (2 : Int32))] []) _
    refine XS.iinc X0.here hx rfl (hb hby d_jdk_33m13_36) rfl (l' := #[.val (.int (-i)), .val (.int (0 : Int32)), .val (.int (-1000 : Int32)), .val (.int ((2 : Int32) + (1 : Int32)))]) rfl ?_
    show Steps pP.tables eE below (s₁.setTop (mkF mM 39 #[.val (.int (-i)), .val (.int (0 : Int32)), .val (.int (-1000 : Int32)), .val (.int ((2 : Int32) + (1 : Int32)))] [])) _
    rw [(by decide : ((2 : Int32) + (1 : Int32)) = (3 : Int32))]
    refine XS.goto X0.here hx rfl (pc0 := 39) (pc' := 16) rfl (hb hby d_jdk_33m13_39) (by decide) (by decide) ?_
    refine XS.iloadN X0.here hx rfl (hb hby d_jdk_33m13_16) rfl ?_
    refine XS.bipush X0.here hx rfl (hb hby d_jdk_33m13_17) ?_
    refine XS.icmpNo X0.here hx rfl (hb hby d_jdk_33m13_19) rfl (by decide) ?_
    refine XS.iloadN X0.here hx rfl (hb hby d_jdk_33m13_22) rfl ?_
    refine XS.iloadN X0.here hx rfl (hb hby d_jdk_33m13_23) rfl ?_
    refine XS.icmpYes X0.here hx rfl (pc0 := 24) (pc' := 31) rfl (hb hby d_jdk_33m13_24) rfl (XT.ii_le_t (mt (own_nl hi (by decide)).mp z3)) (by decide) (by decide) ?_
    refine XS.bipush X0.here hx rfl (hb hby d_jdk_33m13_31) ?_
    refine XS.iloadN X0.here hx rfl (hb hby d_jdk_33m13_33) rfl ?_
    show oS pP eE below s₁ (mkF mM 34 #[.val (.int (-i)), .val (.int (0 : Int32)), .val (.int (-1000 : Int32)), .val (.int (3 : Int32))] [(.int (-1000 : Int32)), (.int (10 : Int32))]) _
    refine XS.imul X0.here hx rfl (hb hby d_jdk_33m13_34) rfl ?_
    show Steps pP.tables eE below (s₁.setTop (mkF mM 35 #[.val (.int (-i)), .val (.int (0 : Int32)), .val (.int (-1000 : Int32)), .val (.int (3 : Int32))] [(.int ((10 : Int32) * (-1000 : Int32)))])) _
    rw [(by decide : ((10 : Int32) * (-1000 : Int32)) = (-10000 : Int32))]
    refine XS.istoreN X0.here hx rfl (hb hby d_jdk_33m13_35) rfl (l' := #[.val (.int (-i)), .val (.int (0 : Int32)), .val (.int (-10000 : Int32)), .val (.int (3 : Int32))]) rfl ?_
    show oS pP eE below s₁ (mkF mM 36 #[.val (.int (-i)), .val (.int (0 : Int32)), .val (.int (-10000 : Int32)), .val (.int (3 : Int32))] []) _
    refine XS.iinc X0.here hx rfl (hb hby d_jdk_33m13_36) rfl (l' := #[.val (.int (-i)), .val (.int (0 : Int32)), .val (.int (-10000 : Int32)), .val (.int ((3 : Int32) + (1 : Int32)))]) rfl ?_
    show Steps pP.tables eE below (s₁.setTop (mkF mM 39 #[.val (.int (-i)), .val (.int (0 : Int32)), .val (.int (-10000 : Int32)), .val (.int ((3 : Int32) + (1 : Int32)))] [])) _
    rw [(by decide : ((3 : Int32) + (1 : Int32)) = (4 : Int32))]
    refine XS.goto X0.here hx rfl (pc0 := 39) (pc' := 16) rfl (hb hby d_jdk_33m13_39) (by decide) (by decide) ?_
    refine XS.iloadN X0.here hx rfl (hb hby d_jdk_33m13_16) rfl ?_
    refine XS.bipush X0.here hx rfl (hb hby d_jdk_33m13_17) ?_
    refine XS.icmpNo X0.here hx rfl (hb hby d_jdk_33m13_19) rfl (by decide) ?_
    refine XS.iloadN X0.here hx rfl (hb hby d_jdk_33m13_22) rfl ?_
    refine XS.iloadN X0.here hx rfl (hb hby d_jdk_33m13_23) rfl ?_
    refine XS.icmpYes X0.here hx rfl (pc0 := 24) (pc' := 31) rfl (hb hby d_jdk_33m13_24) rfl (XT.ii_le_t (mt (own_nl hi (by decide)).mp z4)) (by decide) (by decide) ?_
    refine XS.bipush X0.here hx rfl (hb hby d_jdk_33m13_31) ?_
    refine XS.iloadN X0.here hx rfl (hb hby d_jdk_33m13_33) rfl ?_
    show oS pP eE below s₁ (mkF mM 34 #[.val (.int (-i)), .val (.int (0 : Int32)), .val (.int (-10000 : Int32)), .val (.int (4 : Int32))] [(.int (-10000 : Int32)), (.int (10 : Int32))]) _
    refine XS.imul X0.here hx rfl (hb hby d_jdk_33m13_34) rfl ?_
    show Steps pP.tables eE below (s₁.setTop (mkF mM 35 #[.val (.int (-i)), .val (.int (0 : Int32)), .val (.int (-10000 : Int32)), .val (.int (4 : Int32))] [(.int ((10 : Int32) * (-10000 : Int32)))])) _
    rw [(by decide : ((10 : Int32) * (-10000 : Int32)) = (-100000 : Int32))]
    refine XS.istoreN X0.here hx rfl (hb hby d_jdk_33m13_35) rfl (l' := #[.val (.int (-i)), .val (.int (0 : Int32)), .val (.int (-100000 : Int32)), .val (.int (4 : Int32))]) rfl ?_
    show oS pP eE below s₁ (mkF mM 36 #[.val (.int (-i)), .val (.int (0 : Int32)), .val (.int (-100000 : Int32)), .val (.int (4 : Int32))] []) _
    refine XS.iinc X0.here hx rfl (hb hby d_jdk_33m13_36) rfl (l' := #[.val (.int (-i)), .val (.int (0 : Int32)), .val (.int (-100000 : Int32)), .val (.int ((4 : Int32) + (1 : Int32)))]) rfl ?_
    show Steps pP.tables eE below (s₁.setTop (mkF mM 39 #[.val (.int (-i)), .val (.int (0 : Int32)), .val (.int (-100000 : Int32)), .val (.int ((4 : Int32) + (1 : Int32)))] [])) _
    rw [(by decide : ((4 : Int32) + (1 : Int32)) = (5 : Int32))]
    refine XS.goto X0.here hx rfl (pc0 := 39) (pc' := 16) rfl (hb hby d_jdk_33m13_39) (by decide) (by decide) ?_
    refine XS.iloadN X0.here hx rfl (hb hby d_jdk_33m13_16) rfl ?_
    refine XS.bipush X0.here hx rfl (hb hby d_jdk_33m13_17) ?_
    refine XS.icmpNo X0.here hx rfl (hb hby d_jdk_33m13_19) rfl (by decide) ?_
    refine XS.iloadN X0.here hx rfl (hb hby d_jdk_33m13_22) rfl ?_
    refine XS.iloadN X0.here hx rfl (hb hby d_jdk_33m13_23) rfl ?_
    refine XS.icmpNo X0.here hx rfl (hb hby d_jdk_33m13_24) rfl (XT.ii_le_f ((own_nl hi (by decide)).mpr (own_lt32.mpr hi.2))) ?_
    refine XS.iloadN X0.here hx rfl (hb hby d_jdk_33m13_27) rfl ?_
    refine XS.iloadN X0.here hx rfl (hb hby d_jdk_33m13_28) rfl ?_
    show oS pP eE below s₁ (mkF mM 29 #[.val (.int (-i)), .val (.int (0 : Int32)), .val (.int (-100000 : Int32)), .val (.int (5 : Int32))] [(.int (0 : Int32)), (.int (5 : Int32))]) _
    refine XS.iadd X0.here hx rfl (hb hby d_jdk_33m13_29) rfl ?_
    show Steps pP.tables eE below (s₁.setTop (mkF mM 30 #[.val (.int (-i)), .val (.int (0 : Int32)), .val (.int (-100000 : Int32)), .val (.int (5 : Int32))] [(.int ((5 : Int32) + (0 : Int32)))])) _
    rw [(by decide : ((5 : Int32) + (0 : Int32)) = (5 : Int32))]
    show oS pP eE below s₁ (mkF mM 30 #[.val (.int (-i)), .val (.int (0 : Int32)), .val (.int (-100000 : Int32)), .val (.int (5 : Int32))] [(.int (5 : Int32))]) _
    exact retI X0 hx Bd.returns (hb hby d_jdk_33m13_30) hr
  · show Q_ss Z i h0 n0 _ s₁.heap _
    rw [e0]
    exact ⟨(congrArg (fun z => some (Value.int z)) (by simp [own_sz, z1, z2, z3, z4] : (5 : Int32) = own_sz i)), N0, rfl⟩
set_option maxRecDepth 65536 in
set_option maxHeartbeats 40000000 in
theorem rm_ss (l : Launch) (Z : State) (a0 : Array Value) (hw : ∀ d ∈ tables_1, d.before a0 Z = true) (ws : List Jvm.Cond) (i : Int32) (h0 : Heap) (n0 : Nat) (Z0 : n0 ≤ h0.size) (hi : own_i5 i) :
    MetFree l (⟨"java/lang/Integer", "stringSize", "(I)I"⟩ : MethodName) (head1 (Jvm.Cond.code (⟨"java/lang/Integer", "stringSize", "(I)I"⟩ : MethodName) jdk_33_method_13_code 4 (some .int) :: ws) oR2) (fun aa_ U_ => aa_ = #[(.int i)] ∧ Z.Warmed39 U_.vm ∧ U_.heap = h0) (fun _ _ _ _ _ => True) (fun _ U_ o_ U'_ => ∃ v_ L_, o_ = .returned v_ ∧ Q_ss Z i h0 n0 v_ U'_.heap L_ ∧ FrameEnd U_ o_ U'_ L_ oR2.cells oR2.slots) := by
  by_cases z1 : i < (10 : Int32)
  · exact rm_ss_1 l Z a0 hw ws i h0 n0 Z0 hi z1
  · by_cases z2 : i < (100 : Int32)
    · exact rm_ss_2 l Z a0 hw ws i h0 n0 Z0 hi z1 z2
    · by_cases z3 : i < (1000 : Int32)
      · exact rm_ss_3 l Z a0 hw ws i h0 n0 Z0 hi z1 z2 z3
      · by_cases z4 : i < (10000 : Int32)
        · exact rm_ss_4 l Z a0 hw ws i h0 n0 Z0 hi z1 z2 z3 z4
        · exact rm_ss_5 l Z a0 hw ws i h0 n0 Z0 hi z1 z2 z3 z4
def Q_gc (Z : State) (i : Int32) (idx : Int32) (d : Addr) (L : Int32) (o1 : Addr) (o2 : Addr) (h0 : Heap) (n0 : Nat) (v_ : Option Value) (h_ : Heap) (L_ : List Loc) : Prop := ∃ rv : Int32, v_ = some (.int rv) ∧ Fr n0 L_ ∧ Keep h0 h_ [d] ∧ own_B Z h_ d L
abbrev lc5 (i : Int32) (idx : Int32) (d : Addr) : Array Slot := #[.val (.int i), .val (.int idx), .val (.ref d), .unset, .unset, .unset, .unset]
theorem d_jdk_33m12_0 : decode jdk_33_method_12_code 0 = .ok (.iload_n 1, 1) := by decide +kernel
theorem d_jdk_33m12_1 : decode jdk_33_method_12_code 1 = .ok (.istore 5, 2) := by decide +kernel
abbrev lc6 (i : Int32) (idx : Int32) (d : Addr) : Array Slot := #[.val (.int i), .val (.int idx), .val (.ref d), .unset, .unset, .val (.int idx), .unset]
theorem d_jdk_33m12_3 : decode jdk_33_method_12_code 3 = .ok (.iload_n 0, 1) := by decide +kernel
theorem d_jdk_33m12_4 : decode jdk_33_method_12_code 4 = .ok (.ifCond .ge 7, 3) := by decide +kernel
theorem d_jdk_33m12_11 : decode jdk_33_method_12_code 11 = .ok (.iconst 0, 1) := by decide +kernel
theorem d_jdk_33m12_12 : decode jdk_33_method_12_code 12 = .ok (.istore 6, 2) := by decide +kernel
abbrev lc7 (i : Int32) (idx : Int32) (d : Addr) : Array Slot := #[.val (.int i), .val (.int idx), .val (.ref d), .unset, .unset, .val (.int idx), .val (.int (0 : Int32))]
theorem d_jdk_33m12_14 : decode jdk_33_method_12_code 14 = .ok (.iload 6, 2) := by decide +kernel
theorem d_jdk_33m12_16 : decode jdk_33_method_12_code 16 = .ok (.ifCond .ne 6, 3) := by decide +kernel
theorem d_jdk_33m12_19 : decode jdk_33_method_12_code 19 = .ok (.iload_n 0, 1) := by decide +kernel
theorem d_jdk_33m12_20 : decode jdk_33_method_12_code 20 = .ok (.ineg, 1) := by decide +kernel
theorem d_jdk_33m12_21 : decode jdk_33_method_12_code 21 = .ok (.istore_n 0, 1) := by decide +kernel
abbrev lc8 (i : Int32) (idx : Int32) (d : Addr) : Array Slot := #[.val (.int (-i)), .val (.int idx), .val (.ref d), .unset, .unset, .val (.int idx), .val (.int (0 : Int32))]
theorem d_jdk_33m12_22 : decode jdk_33_method_12_code 22 = .ok (.iload_n 0, 1) := by decide +kernel
theorem d_jdk_33m12_23 : decode jdk_33_method_12_code 23 = .ok (.bipush (-100), 2) := by decide +kernel
theorem d_jdk_33m12_25 : decode jdk_33_method_12_code 25 = .ok (.if_icmp .gt 47, 3) := by decide +kernel
theorem d_jdk_33m12_72 : decode jdk_33_method_12_code 72 = .ok (.aload_n 2, 1) := by decide +kernel
theorem d_jdk_33m12_73 : decode jdk_33_method_12_code 73 = .ok (.iinc 5 (-1), 3) := by decide +kernel
abbrev lc9 (i : Int32) (idx : Int32) (d : Addr) : Array Slot := #[.val (.int (-i)), .val (.int idx), .val (.ref d), .unset, .unset, .val (.int (idx + (-1 : Int32))), .val (.int (0 : Int32))]
theorem d_jdk_33m12_76 : decode jdk_33_method_12_code 76 = .ok (.iload 5, 2) := by decide +kernel
theorem d_jdk_33m12_78 : decode jdk_33_method_12_code 78 = .ok (.getstatic 83, 3) := by decide +kernel
theorem d_jdk_33m12_81 : decode jdk_33_method_12_code 81 = .ok (.iload_n 0, 1) := by decide +kernel
theorem d_jdk_33m12_82 : decode jdk_33_method_12_code 82 = .ok (.ineg, 1) := by decide +kernel
theorem d_jdk_33m12_83 : decode jdk_33_method_12_code 83 = .ok (.baload, 1) := by decide +kernel
theorem d_jdk_33m12_84 : decode jdk_33_method_12_code 84 = .ok (.bastore, 1) := by decide +kernel
theorem d_jdk_33m12_85 : decode jdk_33_method_12_code 85 = .ok (.iload_n 0, 1) := by decide +kernel
theorem d_jdk_33m12_86 : decode jdk_33_method_12_code 86 = .ok (.bipush (-9), 2) := by decide +kernel
theorem d_jdk_33m12_88 : decode jdk_33_method_12_code 88 = .ok (.if_icmp .ge 16, 3) := by decide +kernel
theorem d_jdk_33m12_104 : decode jdk_33_method_12_code 104 = .ok (.iload 6, 2) := by decide +kernel
theorem d_jdk_33m12_106 : decode jdk_33_method_12_code 106 = .ok (.ifCond .eq 12, 3) := by decide +kernel
theorem d_jdk_33m12_118 : decode jdk_33_method_12_code 118 = .ok (.iload 5, 2) := by decide +kernel
theorem d_jdk_33m12_120 : decode jdk_33_method_12_code 120 = .ok (.ireturn, 1) := by decide +kernel
theorem ef_gc_1 (mM : MethodId) (x0 : Int32) (x1 : Int32) (x2 : Addr) : entryFrame mM #[(.int x0), (.int x1), (.ref x2)] 7 = mkF mM 0 #[.val (.int x0), .val (.int x1), .val (.ref x2), .unset, .unset, .unset, .unset] [] := by first | (simp [entryFrame, mkF, argsToLocals, Value.category]; done) | rfl
set_option maxRecDepth 65536 in
set_option maxHeartbeats 40000000 in
theorem rm_gc_1 (l : Launch) (Z : State) (a0 : Array Value) (hw : ∀ d ∈ tables_1, d.before a0 Z = true) (ws : List Jvm.Cond) (i : Int32) (idx : Int32) (d : Addr) (L : Int32) (o1 : Addr) (o2 : Addr) (h0 : Heap) (n0 : Nat) (Z0 : n0 ≤ h0.size) (S_Integer_DigitOnes : Sta Z h0 "java/lang/Integer" "DigitOnes" "[B" (.ref o1)) (S_Integer_DigitTens : Sta Z h0 "java/lang/Integer" "DigitTens" "[B" (.ref o2)) (B_o1 : own_B Z h0 o1 (100 : Int32)) (B_o2 : own_B Z h0 o2 (100 : Int32)) (B_d : own_B Z h0 d L) (g_d : n0 ≤ d) (n1d : o1 ≠ d) (n2d : o2 ≠ d) (hpos : ¬ i < 0) (ix1 : own_ix (idx + (-1 : Int32)) L) (w0 : (-100 : Int32) < (-i)) (rx : own_ix (-(-i)) (100 : Int32)) (w9 : ¬ (-i) < (-9 : Int32)) :
    MetFree l (⟨"java/lang/Integer", "getChars", "(II[B)I"⟩ : MethodName) (head1 (Jvm.Cond.code (⟨"java/lang/Integer", "getChars", "(II[B)I"⟩ : MethodName) jdk_33_method_12_code 7 (some .int) :: ws) oR2) (fun aa_ U_ => aa_ = #[(.int i), (.int idx), (.ref d)] ∧ Z.Warmed39 U_.vm ∧ U_.heap = h0) (fun _ _ _ _ _ => True) (fun _ U_ o_ U'_ => ∃ v_ L_, o_ = .returned v_ ∧ Q_gc Z i idx d L o1 o2 h0 n0 v_ U'_.heap L_ ∧ FrameEnd U_ o_ U'_ L_ oR2.cells oR2.slots) := by
  refine MetFree.of_bodySF (plainFor_of_name pn_5) hisR ?_
  intro pP eE sS mM argsA below meth cC s₁ Bd hml0 hP hK
  obtain ⟨rfl, hZ, hh⟩ := hP
  have hx := Bd.exec
  have hby := Bd.bytes
  have hml : cC.maxLocals = 7 := hml0
  have hown : sS.vm.findClass "java/lang/Integer" = some mM.cls := findClass_of_methodNamed Bd.named
  have hnm := (name_of_methodNamed Bd.named Bd.method).1
  have X0 : Stand pP l eE oR2 sS mM #[(.int i), (.int idx), (.ref d)] below meth cC s₁ [] 0 0 := Stand.of_body Bd
  have e0 : s₁.heap = h0 := by rw [← hh, Bd.state]; rfl
  have N0 := Fr.nil n0
  have pre0 : ∀ t_, Steps pP.tables eE below (s₁.setTop (mkF mM 0 #[.val (.int i), .val (.int idx), .val (.ref d), .unset, .unset, .unset, .unset] [])) t_ → Steps pP.tables eE below (s₁.setTop (entryFrame mM #[(.int i), (.int idx), (.ref d)] 7)) t_ := fun t_ k_ => castTop (ef_gc_1 mM i idx d) k_
  obtain ⟨T_1, X_1, e_1, st_1⟩ := getS2 X0 hx hZ hown (host := "") (Or.inl (ow hw 120 rfl)) Via.refl e0 S_Integer_DigitOnes (g := (mkF mM 78 (lc9 i idx d) [(.int (idx + (-1 : Int32))), (.ref d)])) rfl (hb hby d_jdk_33m12_78)
  have ix_2 : own_ix (-(-i)) (100 : Int32) := rx
  obtain ⟨cl_2, Ar_2, hin_2, v_2, hat_2⟩ := own_B.get B_o1 ix_2
  have ix_3 : own_ix (idx + (-1 : Int32)) L := ix1
  obtain ⟨cl_3, Ar_3, hin_3, Bs_3⟩ := own_B.at B_d ix_3
  obtain ⟨T_3, h_3, X_3, e_3, W_3, st_3⟩ := stB X_1 hx hZ e_1 Ar_3 (j := (idx + (-1 : Int32))) hin_3 (g := (mkF mM 84 (lc9 i idx d) [(.int v_2), (.int (idx + (-1 : Int32))), (.ref d)])) rfl rfl (hb hby d_jdk_33m12_84)
  have B_3 : own_B Z h_3 d L := Bs_3 _ _ W_3
  have Z_3 : n0 ≤ h_3.size := (Nat.le_trans Z0 (Keep.of_wr W_3).1)
  have K_3 : Keep h0 h_3 [d] := (Keep.refl h0 [d]).wr W_3 (Or.inl (List.mem_of_getElem? (i := 0) rfl))
  have N_3 := Fr.snoc X_3 N0 g_d
  obtain ⟨fs, hr, hrun, hended, hW, hsame⟩ := X_3.leave (v := some (.int (idx + (-1 : Int32)))) (fun h => by rw [Bd.returns] at h; cases h)
  refine ⟨_, _, pre0 _ ?_, hrun, hended, _, _, rfl, ?_, ⟨_, rfl⟩, hW, hsame.mono (by decide) (by decide)⟩
  · show oS pP eE below s₁ (mkF mM 0 (lc5 i idx d) []) _
    refine XS.iloadN X0.here hx rfl (hb hby d_jdk_33m12_0) rfl ?_
    refine XS.istore X0.here hx rfl (hb hby d_jdk_33m12_1) rfl (l' := (lc6 i idx d)) rfl ?_
    refine XS.iloadN X0.here hx rfl (hb hby d_jdk_33m12_3) rfl ?_
    refine XS.ifYes X0.here hx rfl (pc0 := 4) (pc' := 11) rfl (hb hby d_jdk_33m12_4) rfl (XT.i0_ge_t hpos) (by decide) (by decide) ?_
    refine XS.iconst X0.here hx rfl (hb hby d_jdk_33m12_11) ?_
    refine XS.istore X0.here hx rfl (hb hby d_jdk_33m12_12) rfl (l' := (lc7 i idx d)) rfl ?_
    refine XS.iload X0.here hx rfl (hb hby d_jdk_33m12_14) rfl ?_
    refine XS.ifNo X0.here hx rfl (hb hby d_jdk_33m12_16) rfl (by decide) ?_
    refine XS.iloadN X0.here hx rfl (hb hby d_jdk_33m12_19) rfl ?_
    show oS pP eE below s₁ (mkF mM 20 (lc7 i idx d) [(.int i)]) _
    refine XS.ineg X0.here hx rfl (hb hby d_jdk_33m12_20) rfl ?_
    refine XS.istoreN X0.here hx rfl (hb hby d_jdk_33m12_21) rfl (l' := (lc8 i idx d)) rfl ?_
    refine XS.iloadN X0.here hx rfl (hb hby d_jdk_33m12_22) rfl ?_
    refine XS.bipush X0.here hx rfl (hb hby d_jdk_33m12_23) ?_
    refine XS.icmpYes X0.here hx rfl (pc0 := 25) (pc' := 72) rfl (hb hby d_jdk_33m12_25) rfl (XT.ii_gt_t w0) (by decide) (by decide) ?_
    refine XS.aloadN X0.here hx rfl (hb hby d_jdk_33m12_72) rfl rfl ?_
    show oS pP eE below s₁ (mkF mM 73 (lc8 i idx d) [(.ref d)]) _
    refine XS.iinc X0.here hx rfl (hb hby d_jdk_33m12_73) rfl (l' := (lc9 i idx d)) rfl ?_
    refine XS.iload X0.here hx rfl (hb hby d_jdk_33m12_76) rfl ?_
    show oS pP eE below s₁ (mkF mM 78 (lc9 i idx d) [(.int (idx + (-1 : Int32))), (.ref d)]) _
    refine st_1 _ ?_
    show oS pP eE below T_1 (mkF mM 81 (lc9 i idx d) [(.ref o1), (.int (idx + (-1 : Int32))), (.ref d)]) _
    refine XS.iloadN X_1.here hx rfl (hb hby d_jdk_33m12_81) rfl ?_
    show oS pP eE below T_1 (mkF mM 82 (lc9 i idx d) [(.int (-i)), (.ref o1), (.int (idx + (-1 : Int32))), (.ref d)]) _
    refine XS.ineg X_1.here hx rfl (hb hby d_jdk_33m12_82) rfl ?_
    show oS pP eE below T_1 (mkF mM 83 (lc9 i idx d) [(.int (-(-i))), (.ref o1), (.int (idx + (-1 : Int32))), (.ref d)]) _
    refine X_1.baloadBytes hx (j := (-(-i))) (v := .int v_2) (by rw [e_1]; exact Ar_2.1) (State.isArrayOf_alike hZ.alike Ar_2.2.1) Ar_2.2.2 hin_2 hat_2 (g := (mkF mM 83 (lc9 i idx d) [(.int (-(-i))), (.ref o1), (.int (idx + (-1 : Int32))), (.ref d)])) rfl rfl (hb hby d_jdk_33m12_83) _ ?_
    show oS pP eE below T_1 (mkF mM 84 (lc9 i idx d) [(.int v_2), (.int (idx + (-1 : Int32))), (.ref d)]) _
    refine st_3 _ ?_
    show oS pP eE below T_3 (mkF mM 85 (lc9 i idx d) []) _
    refine XS.iloadN X_3.here hx rfl (hb hby d_jdk_33m12_85) rfl ?_
    refine XS.bipush X_3.here hx rfl (hb hby d_jdk_33m12_86) ?_
    refine XS.icmpYes X_3.here hx rfl (pc0 := 88) (pc' := 104) rfl (hb hby d_jdk_33m12_88) rfl (XT.ii_ge_t w9) (by decide) (by decide) ?_
    refine XS.iload X_3.here hx rfl (hb hby d_jdk_33m12_104) rfl ?_
    refine XS.ifYes X_3.here hx rfl (pc0 := 106) (pc' := 118) rfl (hb hby d_jdk_33m12_106) rfl (by decide) (by decide) (by decide) ?_
    refine XS.iload X_3.here hx rfl (hb hby d_jdk_33m12_118) rfl ?_
    show oS pP eE below T_3 (mkF mM 120 (lc9 i idx d) [(.int (idx + (-1 : Int32)))]) _
    exact retI X_3 hx Bd.returns (hb hby d_jdk_33m12_120) hr
  · show Q_gc Z i idx d L o1 o2 h0 n0 _ T_3.heap _
    rw [e_3]
    exact ⟨(idx + (-1 : Int32)), rfl, N_3, K_3, B_3⟩
theorem d_jdk_33m12_91 : decode jdk_33_method_12_code 91 = .ok (.aload_n 2, 1) := by decide +kernel
theorem d_jdk_33m12_92 : decode jdk_33_method_12_code 92 = .ok (.iinc 5 (-1), 3) := by decide +kernel
abbrev lc10 (i : Int32) (idx : Int32) (d : Addr) : Array Slot := #[.val (.int (-i)), .val (.int idx), .val (.ref d), .unset, .unset, .val (.int ((idx + (-1 : Int32)) + (-1 : Int32))), .val (.int (0 : Int32))]
theorem d_jdk_33m12_95 : decode jdk_33_method_12_code 95 = .ok (.iload 5, 2) := by decide +kernel
theorem d_jdk_33m12_97 : decode jdk_33_method_12_code 97 = .ok (.getstatic 87, 3) := by decide +kernel
theorem d_jdk_33m12_100 : decode jdk_33_method_12_code 100 = .ok (.iload_n 0, 1) := by decide +kernel
theorem d_jdk_33m12_101 : decode jdk_33_method_12_code 101 = .ok (.ineg, 1) := by decide +kernel
theorem d_jdk_33m12_102 : decode jdk_33_method_12_code 102 = .ok (.baload, 1) := by decide +kernel
theorem d_jdk_33m12_103 : decode jdk_33_method_12_code 103 = .ok (.bastore, 1) := by decide +kernel
theorem ef_gc_2 (mM : MethodId) (x0 : Int32) (x1 : Int32) (x2 : Addr) : entryFrame mM #[(.int x0), (.int x1), (.ref x2)] 7 = mkF mM 0 #[.val (.int x0), .val (.int x1), .val (.ref x2), .unset, .unset, .unset, .unset] [] := by first | (simp [entryFrame, mkF, argsToLocals, Value.category]; done) | rfl
set_option maxRecDepth 65536 in
set_option maxHeartbeats 40000000 in
theorem rm_gc_2 (l : Launch) (Z : State) (a0 : Array Value) (hw : ∀ d ∈ tables_1, d.before a0 Z = true) (ws : List Jvm.Cond) (i : Int32) (idx : Int32) (d : Addr) (L : Int32) (o1 : Addr) (o2 : Addr) (h0 : Heap) (n0 : Nat) (Z0 : n0 ≤ h0.size) (S_Integer_DigitOnes : Sta Z h0 "java/lang/Integer" "DigitOnes" "[B" (.ref o1)) (S_Integer_DigitTens : Sta Z h0 "java/lang/Integer" "DigitTens" "[B" (.ref o2)) (B_o1 : own_B Z h0 o1 (100 : Int32)) (B_o2 : own_B Z h0 o2 (100 : Int32)) (B_d : own_B Z h0 d L) (g_d : n0 ≤ d) (n1d : o1 ≠ d) (n2d : o2 ≠ d) (hpos : ¬ i < 0) (ix1 : own_ix (idx + (-1 : Int32)) L) (ix2 : own_ix ((idx + (-1 : Int32)) + (-1 : Int32)) L) (w0 : (-100 : Int32) < (-i)) (rx : own_ix (-(-i)) (100 : Int32)) (w9 : (-i) < (-9 : Int32)) :
    MetFree l (⟨"java/lang/Integer", "getChars", "(II[B)I"⟩ : MethodName) (head1 (Jvm.Cond.code (⟨"java/lang/Integer", "getChars", "(II[B)I"⟩ : MethodName) jdk_33_method_12_code 7 (some .int) :: ws) oR2) (fun aa_ U_ => aa_ = #[(.int i), (.int idx), (.ref d)] ∧ Z.Warmed39 U_.vm ∧ U_.heap = h0) (fun _ _ _ _ _ => True) (fun _ U_ o_ U'_ => ∃ v_ L_, o_ = .returned v_ ∧ Q_gc Z i idx d L o1 o2 h0 n0 v_ U'_.heap L_ ∧ FrameEnd U_ o_ U'_ L_ oR2.cells oR2.slots) := by
  refine MetFree.of_bodySF (plainFor_of_name pn_5) hisR ?_
  intro pP eE sS mM argsA below meth cC s₁ Bd hml0 hP hK
  obtain ⟨rfl, hZ, hh⟩ := hP
  have hx := Bd.exec
  have hby := Bd.bytes
  have hml : cC.maxLocals = 7 := hml0
  have hown : sS.vm.findClass "java/lang/Integer" = some mM.cls := findClass_of_methodNamed Bd.named
  have hnm := (name_of_methodNamed Bd.named Bd.method).1
  have X0 : Stand pP l eE oR2 sS mM #[(.int i), (.int idx), (.ref d)] below meth cC s₁ [] 0 0 := Stand.of_body Bd
  have e0 : s₁.heap = h0 := by rw [← hh, Bd.state]; rfl
  have N0 := Fr.nil n0
  have pre0 : ∀ t_, Steps pP.tables eE below (s₁.setTop (mkF mM 0 #[.val (.int i), .val (.int idx), .val (.ref d), .unset, .unset, .unset, .unset] [])) t_ → Steps pP.tables eE below (s₁.setTop (entryFrame mM #[(.int i), (.int idx), (.ref d)] 7)) t_ := fun t_ k_ => castTop (ef_gc_2 mM i idx d) k_
  obtain ⟨T_1, X_1, e_1, st_1⟩ := getS2 X0 hx hZ hown (host := "") (Or.inl (ow hw 120 rfl)) Via.refl e0 S_Integer_DigitOnes (g := (mkF mM 78 (lc9 i idx d) [(.int (idx + (-1 : Int32))), (.ref d)])) rfl (hb hby d_jdk_33m12_78)
  have ix_2 : own_ix (-(-i)) (100 : Int32) := rx
  obtain ⟨cl_2, Ar_2, hin_2, v_2, hat_2⟩ := own_B.get B_o1 ix_2
  have ix_3 : own_ix (idx + (-1 : Int32)) L := ix1
  obtain ⟨cl_3, Ar_3, hin_3, Bs_3⟩ := own_B.at B_d ix_3
  obtain ⟨T_3, h_3, X_3, e_3, W_3, st_3⟩ := stB X_1 hx hZ e_1 Ar_3 (j := (idx + (-1 : Int32))) hin_3 (g := (mkF mM 84 (lc9 i idx d) [(.int v_2), (.int (idx + (-1 : Int32))), (.ref d)])) rfl rfl (hb hby d_jdk_33m12_84)
  have B_3 : own_B Z h_3 d L := Bs_3 _ _ W_3
  have Z_3 : n0 ≤ h_3.size := (Nat.le_trans Z0 (Keep.of_wr W_3).1)
  have K_3 : Keep h0 h_3 [d] := (Keep.refl h0 [d]).wr W_3 (Or.inl (List.mem_of_getElem? (i := 0) rfl))
  have N_3 := Fr.snoc X_3 N0 g_d
  obtain ⟨T_4, X_4, e_4, st_4⟩ := getS2 X_3 hx hZ hown (host := "") (Or.inl (ow hw 211 rfl)) Via.refl e_3 (S_Integer_DigitTens.wr W_3) (g := (mkF mM 97 (lc10 i idx d) [(.int ((idx + (-1 : Int32)) + (-1 : Int32))), (.ref d)])) rfl (hb hby d_jdk_33m12_97)
  have ix_5 : own_ix (-(-i)) (100 : Int32) := rx
  obtain ⟨cl_5, Ar_5, hin_5, v_5, hat_5⟩ := own_B.get (B_o2.other W_3 n2d) ix_5
  have ix_6 : own_ix ((idx + (-1 : Int32)) + (-1 : Int32)) L := ix2
  obtain ⟨cl_6, Ar_6, hin_6, Bs_6⟩ := own_B.at B_3 ix_6
  obtain ⟨T_6, h_6, X_6, e_6, W_6, st_6⟩ := stB X_4 hx hZ e_4 Ar_6 (j := ((idx + (-1 : Int32)) + (-1 : Int32))) hin_6 (g := (mkF mM 103 (lc10 i idx d) [(.int v_5), (.int ((idx + (-1 : Int32)) + (-1 : Int32))), (.ref d)])) rfl rfl (hb hby d_jdk_33m12_103)
  have B_6 : own_B Z h_6 d L := Bs_6 _ _ W_6
  have Z_6 : n0 ≤ h_6.size := (Nat.le_trans Z_3 (Keep.of_wr W_6).1)
  have K_6 : Keep h0 h_6 [d] := K_3.wr W_6 (Or.inl (List.mem_of_getElem? (i := 0) rfl))
  have N_6 := Fr.snoc X_6 N_3 g_d
  obtain ⟨fs, hr, hrun, hended, hW, hsame⟩ := X_6.leave (v := some (.int ((idx + (-1 : Int32)) + (-1 : Int32)))) (fun h => by rw [Bd.returns] at h; cases h)
  refine ⟨_, _, pre0 _ ?_, hrun, hended, _, _, rfl, ?_, ⟨_, rfl⟩, hW, hsame.mono (by decide) (by decide)⟩
  · show oS pP eE below s₁ (mkF mM 0 (lc5 i idx d) []) _
    refine XS.iloadN X0.here hx rfl (hb hby d_jdk_33m12_0) rfl ?_
    refine XS.istore X0.here hx rfl (hb hby d_jdk_33m12_1) rfl (l' := (lc6 i idx d)) rfl ?_
    refine XS.iloadN X0.here hx rfl (hb hby d_jdk_33m12_3) rfl ?_
    refine XS.ifYes X0.here hx rfl (pc0 := 4) (pc' := 11) rfl (hb hby d_jdk_33m12_4) rfl (XT.i0_ge_t hpos) (by decide) (by decide) ?_
    refine XS.iconst X0.here hx rfl (hb hby d_jdk_33m12_11) ?_
    refine XS.istore X0.here hx rfl (hb hby d_jdk_33m12_12) rfl (l' := (lc7 i idx d)) rfl ?_
    refine XS.iload X0.here hx rfl (hb hby d_jdk_33m12_14) rfl ?_
    refine XS.ifNo X0.here hx rfl (hb hby d_jdk_33m12_16) rfl (by decide) ?_
    refine XS.iloadN X0.here hx rfl (hb hby d_jdk_33m12_19) rfl ?_
    show oS pP eE below s₁ (mkF mM 20 (lc7 i idx d) [(.int i)]) _
    refine XS.ineg X0.here hx rfl (hb hby d_jdk_33m12_20) rfl ?_
    refine XS.istoreN X0.here hx rfl (hb hby d_jdk_33m12_21) rfl (l' := (lc8 i idx d)) rfl ?_
    refine XS.iloadN X0.here hx rfl (hb hby d_jdk_33m12_22) rfl ?_
    refine XS.bipush X0.here hx rfl (hb hby d_jdk_33m12_23) ?_
    refine XS.icmpYes X0.here hx rfl (pc0 := 25) (pc' := 72) rfl (hb hby d_jdk_33m12_25) rfl (XT.ii_gt_t w0) (by decide) (by decide) ?_
    refine XS.aloadN X0.here hx rfl (hb hby d_jdk_33m12_72) rfl rfl ?_
    show oS pP eE below s₁ (mkF mM 73 (lc8 i idx d) [(.ref d)]) _
    refine XS.iinc X0.here hx rfl (hb hby d_jdk_33m12_73) rfl (l' := (lc9 i idx d)) rfl ?_
    refine XS.iload X0.here hx rfl (hb hby d_jdk_33m12_76) rfl ?_
    show oS pP eE below s₁ (mkF mM 78 (lc9 i idx d) [(.int (idx + (-1 : Int32))), (.ref d)]) _
    refine st_1 _ ?_
    show oS pP eE below T_1 (mkF mM 81 (lc9 i idx d) [(.ref o1), (.int (idx + (-1 : Int32))), (.ref d)]) _
    refine XS.iloadN X_1.here hx rfl (hb hby d_jdk_33m12_81) rfl ?_
    show oS pP eE below T_1 (mkF mM 82 (lc9 i idx d) [(.int (-i)), (.ref o1), (.int (idx + (-1 : Int32))), (.ref d)]) _
    refine XS.ineg X_1.here hx rfl (hb hby d_jdk_33m12_82) rfl ?_
    show oS pP eE below T_1 (mkF mM 83 (lc9 i idx d) [(.int (-(-i))), (.ref o1), (.int (idx + (-1 : Int32))), (.ref d)]) _
    refine X_1.baloadBytes hx (j := (-(-i))) (v := .int v_2) (by rw [e_1]; exact Ar_2.1) (State.isArrayOf_alike hZ.alike Ar_2.2.1) Ar_2.2.2 hin_2 hat_2 (g := (mkF mM 83 (lc9 i idx d) [(.int (-(-i))), (.ref o1), (.int (idx + (-1 : Int32))), (.ref d)])) rfl rfl (hb hby d_jdk_33m12_83) _ ?_
    show oS pP eE below T_1 (mkF mM 84 (lc9 i idx d) [(.int v_2), (.int (idx + (-1 : Int32))), (.ref d)]) _
    refine st_3 _ ?_
    show oS pP eE below T_3 (mkF mM 85 (lc9 i idx d) []) _
    refine XS.iloadN X_3.here hx rfl (hb hby d_jdk_33m12_85) rfl ?_
    refine XS.bipush X_3.here hx rfl (hb hby d_jdk_33m12_86) ?_
    refine XS.icmpNo X_3.here hx rfl (hb hby d_jdk_33m12_88) rfl (XT.ii_ge_f w9) ?_
    refine XS.aloadN X_3.here hx rfl (hb hby d_jdk_33m12_91) rfl rfl ?_
    show oS pP eE below T_3 (mkF mM 92 (lc9 i idx d) [(.ref d)]) _
    refine XS.iinc X_3.here hx rfl (hb hby d_jdk_33m12_92) rfl (l' := (lc10 i idx d)) rfl ?_
    refine XS.iload X_3.here hx rfl (hb hby d_jdk_33m12_95) rfl ?_
    show oS pP eE below T_3 (mkF mM 97 (lc10 i idx d) [(.int ((idx + (-1 : Int32)) + (-1 : Int32))), (.ref d)]) _
    refine st_4 _ ?_
    show oS pP eE below T_4 (mkF mM 100 (lc10 i idx d) [(.ref o2), (.int ((idx + (-1 : Int32)) + (-1 : Int32))), (.ref d)]) _
    refine XS.iloadN X_4.here hx rfl (hb hby d_jdk_33m12_100) rfl ?_
    show oS pP eE below T_4 (mkF mM 101 (lc10 i idx d) [(.int (-i)), (.ref o2), (.int ((idx + (-1 : Int32)) + (-1 : Int32))), (.ref d)]) _
    refine XS.ineg X_4.here hx rfl (hb hby d_jdk_33m12_101) rfl ?_
    show oS pP eE below T_4 (mkF mM 102 (lc10 i idx d) [(.int (-(-i))), (.ref o2), (.int ((idx + (-1 : Int32)) + (-1 : Int32))), (.ref d)]) _
    refine X_4.baloadBytes hx (j := (-(-i))) (v := .int v_5) (by rw [e_4]; exact Ar_5.1) (State.isArrayOf_alike hZ.alike Ar_5.2.1) Ar_5.2.2 hin_5 hat_5 (g := (mkF mM 102 (lc10 i idx d) [(.int (-(-i))), (.ref o2), (.int ((idx + (-1 : Int32)) + (-1 : Int32))), (.ref d)])) rfl rfl (hb hby d_jdk_33m12_102) _ ?_
    show oS pP eE below T_4 (mkF mM 103 (lc10 i idx d) [(.int v_5), (.int ((idx + (-1 : Int32)) + (-1 : Int32))), (.ref d)]) _
    refine st_6 _ ?_
    show oS pP eE below T_6 (mkF mM 104 (lc10 i idx d) []) _
    refine XS.iload X_6.here hx rfl (hb hby d_jdk_33m12_104) rfl ?_
    refine XS.ifYes X_6.here hx rfl (pc0 := 106) (pc' := 118) rfl (hb hby d_jdk_33m12_106) rfl (by decide) (by decide) (by decide) ?_
    refine XS.iload X_6.here hx rfl (hb hby d_jdk_33m12_118) rfl ?_
    show oS pP eE below T_6 (mkF mM 120 (lc10 i idx d) [(.int ((idx + (-1 : Int32)) + (-1 : Int32)))]) _
    exact retI X_6 hx Bd.returns (hb hby d_jdk_33m12_120) hr
  · show Q_gc Z i idx d L o1 o2 h0 n0 _ T_6.heap _
    rw [e_6]
    exact ⟨((idx + (-1 : Int32)) + (-1 : Int32)), rfl, N_6, K_6, B_6⟩
theorem d_jdk_33m12_28 : decode jdk_33_method_12_code 28 = .ok (.iload_n 0, 1) := by decide +kernel
theorem d_jdk_33m12_29 : decode jdk_33_method_12_code 29 = .ok (.bipush 100, 2) := by decide +kernel
theorem d_jdk_33m12_31 : decode jdk_33_method_12_code 31 = .ok (.idiv, 1) := by decide +kernel
theorem d_jdk_33m12_32 : decode jdk_33_method_12_code 32 = .ok (.istore_n 3, 1) := by decide +kernel
abbrev lc11 (i : Int32) (idx : Int32) (d : Addr) : Array Slot := #[.val (.int (-i)), .val (.int idx), .val (.ref d), .val (.int ((-i) / (100 : Int32))), .unset, .val (.int idx), .val (.int (0 : Int32))]
theorem d_jdk_33m12_33 : decode jdk_33_method_12_code 33 = .ok (.iload_n 3, 1) := by decide +kernel
theorem d_jdk_33m12_34 : decode jdk_33_method_12_code 34 = .ok (.bipush 100, 2) := by decide +kernel
theorem d_jdk_33m12_36 : decode jdk_33_method_12_code 36 = .ok (.imul, 1) := by decide +kernel
theorem d_jdk_33m12_37 : decode jdk_33_method_12_code 37 = .ok (.iload_n 0, 1) := by decide +kernel
theorem d_jdk_33m12_38 : decode jdk_33_method_12_code 38 = .ok (.isub, 1) := by decide +kernel
theorem d_jdk_33m12_39 : decode jdk_33_method_12_code 39 = .ok (.istore 4, 2) := by decide +kernel
abbrev lc12 (i : Int32) (idx : Int32) (d : Addr) : Array Slot := #[.val (.int (-i)), .val (.int idx), .val (.ref d), .val (.int ((-i) / (100 : Int32))), .val (.int ((((-i) / (100 : Int32)) * (100 : Int32)) - (-i))), .val (.int idx), .val (.int (0 : Int32))]
theorem d_jdk_33m12_41 : decode jdk_33_method_12_code 41 = .ok (.iload_n 3, 1) := by decide +kernel
theorem d_jdk_33m12_42 : decode jdk_33_method_12_code 42 = .ok (.istore_n 0, 1) := by decide +kernel
abbrev lc13 (i : Int32) (idx : Int32) (d : Addr) : Array Slot := #[.val (.int ((-i) / (100 : Int32))), .val (.int idx), .val (.ref d), .val (.int ((-i) / (100 : Int32))), .val (.int ((((-i) / (100 : Int32)) * (100 : Int32)) - (-i))), .val (.int idx), .val (.int (0 : Int32))]
theorem d_jdk_33m12_43 : decode jdk_33_method_12_code 43 = .ok (.aload_n 2, 1) := by decide +kernel
theorem d_jdk_33m12_44 : decode jdk_33_method_12_code 44 = .ok (.iinc 5 (-1), 3) := by decide +kernel
abbrev lc14 (i : Int32) (idx : Int32) (d : Addr) : Array Slot := #[.val (.int ((-i) / (100 : Int32))), .val (.int idx), .val (.ref d), .val (.int ((-i) / (100 : Int32))), .val (.int ((((-i) / (100 : Int32)) * (100 : Int32)) - (-i))), .val (.int (idx + (-1 : Int32))), .val (.int (0 : Int32))]
theorem d_jdk_33m12_47 : decode jdk_33_method_12_code 47 = .ok (.iload 5, 2) := by decide +kernel
theorem d_jdk_33m12_49 : decode jdk_33_method_12_code 49 = .ok (.getstatic 83, 3) := by decide +kernel
theorem d_jdk_33m12_52 : decode jdk_33_method_12_code 52 = .ok (.iload 4, 2) := by decide +kernel
theorem d_jdk_33m12_54 : decode jdk_33_method_12_code 54 = .ok (.baload, 1) := by decide +kernel
theorem d_jdk_33m12_55 : decode jdk_33_method_12_code 55 = .ok (.bastore, 1) := by decide +kernel
theorem d_jdk_33m12_56 : decode jdk_33_method_12_code 56 = .ok (.aload_n 2, 1) := by decide +kernel
theorem d_jdk_33m12_57 : decode jdk_33_method_12_code 57 = .ok (.iinc 5 (-1), 3) := by decide +kernel
abbrev lc15 (i : Int32) (idx : Int32) (d : Addr) : Array Slot := #[.val (.int ((-i) / (100 : Int32))), .val (.int idx), .val (.ref d), .val (.int ((-i) / (100 : Int32))), .val (.int ((((-i) / (100 : Int32)) * (100 : Int32)) - (-i))), .val (.int ((idx + (-1 : Int32)) + (-1 : Int32))), .val (.int (0 : Int32))]
theorem d_jdk_33m12_60 : decode jdk_33_method_12_code 60 = .ok (.iload 5, 2) := by decide +kernel
theorem d_jdk_33m12_62 : decode jdk_33_method_12_code 62 = .ok (.getstatic 87, 3) := by decide +kernel
theorem d_jdk_33m12_65 : decode jdk_33_method_12_code 65 = .ok (.iload 4, 2) := by decide +kernel
theorem d_jdk_33m12_67 : decode jdk_33_method_12_code 67 = .ok (.baload, 1) := by decide +kernel
theorem d_jdk_33m12_68 : decode jdk_33_method_12_code 68 = .ok (.bastore, 1) := by decide +kernel
theorem d_jdk_33m12_69 : decode jdk_33_method_12_code 69 = .ok (.goto (-47), 3) := by decide +kernel
abbrev lc16 (i : Int32) (idx : Int32) (d : Addr) : Array Slot := #[.val (.int ((-i) / (100 : Int32))), .val (.int idx), .val (.ref d), .val (.int ((-i) / (100 : Int32))), .val (.int ((((-i) / (100 : Int32)) * (100 : Int32)) - (-i))), .val (.int (((idx + (-1 : Int32)) + (-1 : Int32)) + (-1 : Int32))), .val (.int (0 : Int32))]
theorem ef_gc_3 (mM : MethodId) (x0 : Int32) (x1 : Int32) (x2 : Addr) : entryFrame mM #[(.int x0), (.int x1), (.ref x2)] 7 = mkF mM 0 #[.val (.int x0), .val (.int x1), .val (.ref x2), .unset, .unset, .unset, .unset] [] := by first | (simp [entryFrame, mkF, argsToLocals, Value.category]; done) | rfl
set_option maxRecDepth 65536 in
set_option maxHeartbeats 40000000 in
theorem rm_gc_3 (l : Launch) (Z : State) (a0 : Array Value) (hw : ∀ d ∈ tables_1, d.before a0 Z = true) (ws : List Jvm.Cond) (i : Int32) (idx : Int32) (d : Addr) (L : Int32) (o1 : Addr) (o2 : Addr) (h0 : Heap) (n0 : Nat) (Z0 : n0 ≤ h0.size) (S_Integer_DigitOnes : Sta Z h0 "java/lang/Integer" "DigitOnes" "[B" (.ref o1)) (S_Integer_DigitTens : Sta Z h0 "java/lang/Integer" "DigitTens" "[B" (.ref o2)) (B_o1 : own_B Z h0 o1 (100 : Int32)) (B_o2 : own_B Z h0 o2 (100 : Int32)) (B_d : own_B Z h0 d L) (g_d : n0 ≤ d) (n1d : o1 ≠ d) (n2d : o2 ≠ d) (hpos : ¬ i < 0) (ix1 : own_ix (idx + (-1 : Int32)) L) (ix2 : own_ix ((idx + (-1 : Int32)) + (-1 : Int32)) L) (ix3 : own_ix (((idx + (-1 : Int32)) + (-1 : Int32)) + (-1 : Int32)) L) (w0 : ¬ (-100 : Int32) < (-i)) (w1 : (-100 : Int32) < ((-i) / (100 : Int32))) (rr0 : own_ix ((((-i) / (100 : Int32)) * (100 : Int32)) - (-i)) (100 : Int32)) (rx : own_ix (-((-i) / (100 : Int32))) (100 : Int32)) (w9 : ¬ ((-i) / (100 : Int32)) < (-9 : Int32)) :
    MetFree l (⟨"java/lang/Integer", "getChars", "(II[B)I"⟩ : MethodName) (head1 (Jvm.Cond.code (⟨"java/lang/Integer", "getChars", "(II[B)I"⟩ : MethodName) jdk_33_method_12_code 7 (some .int) :: ws) oR2) (fun aa_ U_ => aa_ = #[(.int i), (.int idx), (.ref d)] ∧ Z.Warmed39 U_.vm ∧ U_.heap = h0) (fun _ _ _ _ _ => True) (fun _ U_ o_ U'_ => ∃ v_ L_, o_ = .returned v_ ∧ Q_gc Z i idx d L o1 o2 h0 n0 v_ U'_.heap L_ ∧ FrameEnd U_ o_ U'_ L_ oR2.cells oR2.slots) := by
  refine MetFree.of_bodySF (plainFor_of_name pn_5) hisR ?_
  intro pP eE sS mM argsA below meth cC s₁ Bd hml0 hP hK
  obtain ⟨rfl, hZ, hh⟩ := hP
  have hx := Bd.exec
  have hby := Bd.bytes
  have hml : cC.maxLocals = 7 := hml0
  have hown : sS.vm.findClass "java/lang/Integer" = some mM.cls := findClass_of_methodNamed Bd.named
  have hnm := (name_of_methodNamed Bd.named Bd.method).1
  have X0 : Stand pP l eE oR2 sS mM #[(.int i), (.int idx), (.ref d)] below meth cC s₁ [] 0 0 := Stand.of_body Bd
  have e0 : s₁.heap = h0 := by rw [← hh, Bd.state]; rfl
  have N0 := Fr.nil n0
  have pre0 : ∀ t_, Steps pP.tables eE below (s₁.setTop (mkF mM 0 #[.val (.int i), .val (.int idx), .val (.ref d), .unset, .unset, .unset, .unset] [])) t_ → Steps pP.tables eE below (s₁.setTop (entryFrame mM #[(.int i), (.int idx), (.ref d)] 7)) t_ := fun t_ k_ => castTop (ef_gc_3 mM i idx d) k_
  obtain ⟨T_1, X_1, e_1, st_1⟩ := getS2 X0 hx hZ hown (host := "") (Or.inl (ow hw 120 rfl)) Via.refl e0 S_Integer_DigitOnes (g := (mkF mM 49 (lc14 i idx d) [(.int (idx + (-1 : Int32))), (.ref d)])) rfl (hb hby d_jdk_33m12_49)
  have ix_2 : own_ix ((((-i) / (100 : Int32)) * (100 : Int32)) - (-i)) (100 : Int32) := rr0
  obtain ⟨cl_2, Ar_2, hin_2, v_2, hat_2⟩ := own_B.get B_o1 ix_2
  have ix_3 : own_ix (idx + (-1 : Int32)) L := ix1
  obtain ⟨cl_3, Ar_3, hin_3, Bs_3⟩ := own_B.at B_d ix_3
  obtain ⟨T_3, h_3, X_3, e_3, W_3, st_3⟩ := stB X_1 hx hZ e_1 Ar_3 (j := (idx + (-1 : Int32))) hin_3 (g := (mkF mM 55 (lc14 i idx d) [(.int v_2), (.int (idx + (-1 : Int32))), (.ref d)])) rfl rfl (hb hby d_jdk_33m12_55)
  have B_3 : own_B Z h_3 d L := Bs_3 _ _ W_3
  have Z_3 : n0 ≤ h_3.size := (Nat.le_trans Z0 (Keep.of_wr W_3).1)
  have K_3 : Keep h0 h_3 [d] := (Keep.refl h0 [d]).wr W_3 (Or.inl (List.mem_of_getElem? (i := 0) rfl))
  have N_3 := Fr.snoc X_3 N0 g_d
  obtain ⟨T_4, X_4, e_4, st_4⟩ := getS2 X_3 hx hZ hown (host := "") (Or.inl (ow hw 211 rfl)) Via.refl e_3 (S_Integer_DigitTens.wr W_3) (g := (mkF mM 62 (lc15 i idx d) [(.int ((idx + (-1 : Int32)) + (-1 : Int32))), (.ref d)])) rfl (hb hby d_jdk_33m12_62)
  have ix_5 : own_ix ((((-i) / (100 : Int32)) * (100 : Int32)) - (-i)) (100 : Int32) := rr0
  obtain ⟨cl_5, Ar_5, hin_5, v_5, hat_5⟩ := own_B.get (B_o2.other W_3 n2d) ix_5
  have ix_6 : own_ix ((idx + (-1 : Int32)) + (-1 : Int32)) L := ix2
  obtain ⟨cl_6, Ar_6, hin_6, Bs_6⟩ := own_B.at B_3 ix_6
  obtain ⟨T_6, h_6, X_6, e_6, W_6, st_6⟩ := stB X_4 hx hZ e_4 Ar_6 (j := ((idx + (-1 : Int32)) + (-1 : Int32))) hin_6 (g := (mkF mM 68 (lc15 i idx d) [(.int v_5), (.int ((idx + (-1 : Int32)) + (-1 : Int32))), (.ref d)])) rfl rfl (hb hby d_jdk_33m12_68)
  have B_6 : own_B Z h_6 d L := Bs_6 _ _ W_6
  have Z_6 : n0 ≤ h_6.size := (Nat.le_trans Z_3 (Keep.of_wr W_6).1)
  have K_6 : Keep h0 h_6 [d] := K_3.wr W_6 (Or.inl (List.mem_of_getElem? (i := 0) rfl))
  have N_6 := Fr.snoc X_6 N_3 g_d
  obtain ⟨T_7, X_7, e_7, st_7⟩ := getS2 X_6 hx hZ hown (host := "") (Or.inl (ow hw 120 rfl)) Via.refl e_6 ((S_Integer_DigitOnes.wr W_3).wr W_6) (g := (mkF mM 78 (lc16 i idx d) [(.int (((idx + (-1 : Int32)) + (-1 : Int32)) + (-1 : Int32))), (.ref d)])) rfl (hb hby d_jdk_33m12_78)
  have ix_8 : own_ix (-((-i) / (100 : Int32))) (100 : Int32) := rx
  obtain ⟨cl_8, Ar_8, hin_8, v_8, hat_8⟩ := own_B.get ((B_o1.other W_3 n1d).other W_6 n1d) ix_8
  have ix_9 : own_ix (((idx + (-1 : Int32)) + (-1 : Int32)) + (-1 : Int32)) L := ix3
  obtain ⟨cl_9, Ar_9, hin_9, Bs_9⟩ := own_B.at B_6 ix_9
  obtain ⟨T_9, h_9, X_9, e_9, W_9, st_9⟩ := stB X_7 hx hZ e_7 Ar_9 (j := (((idx + (-1 : Int32)) + (-1 : Int32)) + (-1 : Int32))) hin_9 (g := (mkF mM 84 (lc16 i idx d) [(.int v_8), (.int (((idx + (-1 : Int32)) + (-1 : Int32)) + (-1 : Int32))), (.ref d)])) rfl rfl (hb hby d_jdk_33m12_84)
  have B_9 : own_B Z h_9 d L := Bs_9 _ _ W_9
  have Z_9 : n0 ≤ h_9.size := (Nat.le_trans Z_6 (Keep.of_wr W_9).1)
  have K_9 : Keep h0 h_9 [d] := K_6.wr W_9 (Or.inl (List.mem_of_getElem? (i := 0) rfl))
  have N_9 := Fr.snoc X_9 N_6 g_d
  obtain ⟨fs, hr, hrun, hended, hW, hsame⟩ := X_9.leave (v := some (.int (((idx + (-1 : Int32)) + (-1 : Int32)) + (-1 : Int32)))) (fun h => by rw [Bd.returns] at h; cases h)
  refine ⟨_, _, pre0 _ ?_, hrun, hended, _, _, rfl, ?_, ⟨_, rfl⟩, hW, hsame.mono (by decide) (by decide)⟩
  · show oS pP eE below s₁ (mkF mM 0 (lc5 i idx d) []) _
    refine XS.iloadN X0.here hx rfl (hb hby d_jdk_33m12_0) rfl ?_
    refine XS.istore X0.here hx rfl (hb hby d_jdk_33m12_1) rfl (l' := (lc6 i idx d)) rfl ?_
    refine XS.iloadN X0.here hx rfl (hb hby d_jdk_33m12_3) rfl ?_
    refine XS.ifYes X0.here hx rfl (pc0 := 4) (pc' := 11) rfl (hb hby d_jdk_33m12_4) rfl (XT.i0_ge_t hpos) (by decide) (by decide) ?_
    refine XS.iconst X0.here hx rfl (hb hby d_jdk_33m12_11) ?_
    refine XS.istore X0.here hx rfl (hb hby d_jdk_33m12_12) rfl (l' := (lc7 i idx d)) rfl ?_
    refine XS.iload X0.here hx rfl (hb hby d_jdk_33m12_14) rfl ?_
    refine XS.ifNo X0.here hx rfl (hb hby d_jdk_33m12_16) rfl (by decide) ?_
    refine XS.iloadN X0.here hx rfl (hb hby d_jdk_33m12_19) rfl ?_
    show oS pP eE below s₁ (mkF mM 20 (lc7 i idx d) [(.int i)]) _
    refine XS.ineg X0.here hx rfl (hb hby d_jdk_33m12_20) rfl ?_
    refine XS.istoreN X0.here hx rfl (hb hby d_jdk_33m12_21) rfl (l' := (lc8 i idx d)) rfl ?_
    refine XS.iloadN X0.here hx rfl (hb hby d_jdk_33m12_22) rfl ?_
    refine XS.bipush X0.here hx rfl (hb hby d_jdk_33m12_23) ?_
    refine XS.icmpNo X0.here hx rfl (hb hby d_jdk_33m12_25) rfl (XT.ii_gt_f w0) ?_
    refine XS.iloadN X0.here hx rfl (hb hby d_jdk_33m12_28) rfl ?_
    refine XS.bipush X0.here hx rfl (hb hby d_jdk_33m12_29) ?_
    show oS pP eE below s₁ (mkF mM 31 (lc8 i idx d) [(.int (100 : Int32)), (.int (-i))]) _
    refine XS.idiv X0.here hx rfl (hb hby d_jdk_33m12_31) rfl (by decide) ?_
    refine XS.istoreN X0.here hx rfl (hb hby d_jdk_33m12_32) rfl (l' := (lc11 i idx d)) rfl ?_
    refine XS.iloadN X0.here hx rfl (hb hby d_jdk_33m12_33) rfl ?_
    refine XS.bipush X0.here hx rfl (hb hby d_jdk_33m12_34) ?_
    show oS pP eE below s₁ (mkF mM 36 (lc11 i idx d) [(.int (100 : Int32)), (.int ((-i) / (100 : Int32)))]) _
    refine XS.imul X0.here hx rfl (hb hby d_jdk_33m12_36) rfl ?_
    refine XS.iloadN X0.here hx rfl (hb hby d_jdk_33m12_37) rfl ?_
    show oS pP eE below s₁ (mkF mM 38 (lc11 i idx d) [(.int (-i)), (.int (((-i) / (100 : Int32)) * (100 : Int32)))]) _
    refine XS.isub X0.here hx rfl (hb hby d_jdk_33m12_38) rfl ?_
    refine XS.istore X0.here hx rfl (hb hby d_jdk_33m12_39) rfl (l' := (lc12 i idx d)) rfl ?_
    refine XS.iloadN X0.here hx rfl (hb hby d_jdk_33m12_41) rfl ?_
    refine XS.istoreN X0.here hx rfl (hb hby d_jdk_33m12_42) rfl (l' := (lc13 i idx d)) rfl ?_
    refine XS.aloadN X0.here hx rfl (hb hby d_jdk_33m12_43) rfl rfl ?_
    show oS pP eE below s₁ (mkF mM 44 (lc13 i idx d) [(.ref d)]) _
    refine XS.iinc X0.here hx rfl (hb hby d_jdk_33m12_44) rfl (l' := (lc14 i idx d)) rfl ?_
    refine XS.iload X0.here hx rfl (hb hby d_jdk_33m12_47) rfl ?_
    show oS pP eE below s₁ (mkF mM 49 (lc14 i idx d) [(.int (idx + (-1 : Int32))), (.ref d)]) _
    refine st_1 _ ?_
    show oS pP eE below T_1 (mkF mM 52 (lc14 i idx d) [(.ref o1), (.int (idx + (-1 : Int32))), (.ref d)]) _
    refine XS.iload X_1.here hx rfl (hb hby d_jdk_33m12_52) rfl ?_
    show oS pP eE below T_1 (mkF mM 54 (lc14 i idx d) [(.int ((((-i) / (100 : Int32)) * (100 : Int32)) - (-i))), (.ref o1), (.int (idx + (-1 : Int32))), (.ref d)]) _
    refine X_1.baloadBytes hx (j := ((((-i) / (100 : Int32)) * (100 : Int32)) - (-i))) (v := .int v_2) (by rw [e_1]; exact Ar_2.1) (State.isArrayOf_alike hZ.alike Ar_2.2.1) Ar_2.2.2 hin_2 hat_2 (g := (mkF mM 54 (lc14 i idx d) [(.int ((((-i) / (100 : Int32)) * (100 : Int32)) - (-i))), (.ref o1), (.int (idx + (-1 : Int32))), (.ref d)])) rfl rfl (hb hby d_jdk_33m12_54) _ ?_
    show oS pP eE below T_1 (mkF mM 55 (lc14 i idx d) [(.int v_2), (.int (idx + (-1 : Int32))), (.ref d)]) _
    refine st_3 _ ?_
    show oS pP eE below T_3 (mkF mM 56 (lc14 i idx d) []) _
    refine XS.aloadN X_3.here hx rfl (hb hby d_jdk_33m12_56) rfl rfl ?_
    show oS pP eE below T_3 (mkF mM 57 (lc14 i idx d) [(.ref d)]) _
    refine XS.iinc X_3.here hx rfl (hb hby d_jdk_33m12_57) rfl (l' := (lc15 i idx d)) rfl ?_
    refine XS.iload X_3.here hx rfl (hb hby d_jdk_33m12_60) rfl ?_
    show oS pP eE below T_3 (mkF mM 62 (lc15 i idx d) [(.int ((idx + (-1 : Int32)) + (-1 : Int32))), (.ref d)]) _
    refine st_4 _ ?_
    show oS pP eE below T_4 (mkF mM 65 (lc15 i idx d) [(.ref o2), (.int ((idx + (-1 : Int32)) + (-1 : Int32))), (.ref d)]) _
    refine XS.iload X_4.here hx rfl (hb hby d_jdk_33m12_65) rfl ?_
    show oS pP eE below T_4 (mkF mM 67 (lc15 i idx d) [(.int ((((-i) / (100 : Int32)) * (100 : Int32)) - (-i))), (.ref o2), (.int ((idx + (-1 : Int32)) + (-1 : Int32))), (.ref d)]) _
    refine X_4.baloadBytes hx (j := ((((-i) / (100 : Int32)) * (100 : Int32)) - (-i))) (v := .int v_5) (by rw [e_4]; exact Ar_5.1) (State.isArrayOf_alike hZ.alike Ar_5.2.1) Ar_5.2.2 hin_5 hat_5 (g := (mkF mM 67 (lc15 i idx d) [(.int ((((-i) / (100 : Int32)) * (100 : Int32)) - (-i))), (.ref o2), (.int ((idx + (-1 : Int32)) + (-1 : Int32))), (.ref d)])) rfl rfl (hb hby d_jdk_33m12_67) _ ?_
    show oS pP eE below T_4 (mkF mM 68 (lc15 i idx d) [(.int v_5), (.int ((idx + (-1 : Int32)) + (-1 : Int32))), (.ref d)]) _
    refine st_6 _ ?_
    show oS pP eE below T_6 (mkF mM 69 (lc15 i idx d) []) _
    refine XS.goto X_6.here hx rfl (pc0 := 69) (pc' := 22) rfl (hb hby d_jdk_33m12_69) (by decide) (by decide) ?_
    refine XS.iloadN X_6.here hx rfl (hb hby d_jdk_33m12_22) rfl ?_
    refine XS.bipush X_6.here hx rfl (hb hby d_jdk_33m12_23) ?_
    refine XS.icmpYes X_6.here hx rfl (pc0 := 25) (pc' := 72) rfl (hb hby d_jdk_33m12_25) rfl (XT.ii_gt_t w1) (by decide) (by decide) ?_
    refine XS.aloadN X_6.here hx rfl (hb hby d_jdk_33m12_72) rfl rfl ?_
    show oS pP eE below T_6 (mkF mM 73 (lc15 i idx d) [(.ref d)]) _
    refine XS.iinc X_6.here hx rfl (hb hby d_jdk_33m12_73) rfl (l' := (lc16 i idx d)) rfl ?_
    refine XS.iload X_6.here hx rfl (hb hby d_jdk_33m12_76) rfl ?_
    show oS pP eE below T_6 (mkF mM 78 (lc16 i idx d) [(.int (((idx + (-1 : Int32)) + (-1 : Int32)) + (-1 : Int32))), (.ref d)]) _
    refine st_7 _ ?_
    show oS pP eE below T_7 (mkF mM 81 (lc16 i idx d) [(.ref o1), (.int (((idx + (-1 : Int32)) + (-1 : Int32)) + (-1 : Int32))), (.ref d)]) _
    refine XS.iloadN X_7.here hx rfl (hb hby d_jdk_33m12_81) rfl ?_
    show oS pP eE below T_7 (mkF mM 82 (lc16 i idx d) [(.int ((-i) / (100 : Int32))), (.ref o1), (.int (((idx + (-1 : Int32)) + (-1 : Int32)) + (-1 : Int32))), (.ref d)]) _
    refine XS.ineg X_7.here hx rfl (hb hby d_jdk_33m12_82) rfl ?_
    show oS pP eE below T_7 (mkF mM 83 (lc16 i idx d) [(.int (-((-i) / (100 : Int32)))), (.ref o1), (.int (((idx + (-1 : Int32)) + (-1 : Int32)) + (-1 : Int32))), (.ref d)]) _
    refine X_7.baloadBytes hx (j := (-((-i) / (100 : Int32)))) (v := .int v_8) (by rw [e_7]; exact Ar_8.1) (State.isArrayOf_alike hZ.alike Ar_8.2.1) Ar_8.2.2 hin_8 hat_8 (g := (mkF mM 83 (lc16 i idx d) [(.int (-((-i) / (100 : Int32)))), (.ref o1), (.int (((idx + (-1 : Int32)) + (-1 : Int32)) + (-1 : Int32))), (.ref d)])) rfl rfl (hb hby d_jdk_33m12_83) _ ?_
    show oS pP eE below T_7 (mkF mM 84 (lc16 i idx d) [(.int v_8), (.int (((idx + (-1 : Int32)) + (-1 : Int32)) + (-1 : Int32))), (.ref d)]) _
    refine st_9 _ ?_
    show oS pP eE below T_9 (mkF mM 85 (lc16 i idx d) []) _
    refine XS.iloadN X_9.here hx rfl (hb hby d_jdk_33m12_85) rfl ?_
    refine XS.bipush X_9.here hx rfl (hb hby d_jdk_33m12_86) ?_
    refine XS.icmpYes X_9.here hx rfl (pc0 := 88) (pc' := 104) rfl (hb hby d_jdk_33m12_88) rfl (XT.ii_ge_t w9) (by decide) (by decide) ?_
    refine XS.iload X_9.here hx rfl (hb hby d_jdk_33m12_104) rfl ?_
    refine XS.ifYes X_9.here hx rfl (pc0 := 106) (pc' := 118) rfl (hb hby d_jdk_33m12_106) rfl (by decide) (by decide) (by decide) ?_
    refine XS.iload X_9.here hx rfl (hb hby d_jdk_33m12_118) rfl ?_
    show oS pP eE below T_9 (mkF mM 120 (lc16 i idx d) [(.int (((idx + (-1 : Int32)) + (-1 : Int32)) + (-1 : Int32)))]) _
    exact retI X_9 hx Bd.returns (hb hby d_jdk_33m12_120) hr
  · show Q_gc Z i idx d L o1 o2 h0 n0 _ T_9.heap _
    rw [e_9]
    exact ⟨(((idx + (-1 : Int32)) + (-1 : Int32)) + (-1 : Int32)), rfl, N_9, K_9, B_9⟩
abbrev lc17 (i : Int32) (idx : Int32) (d : Addr) : Array Slot := #[.val (.int ((-i) / (100 : Int32))), .val (.int idx), .val (.ref d), .val (.int ((-i) / (100 : Int32))), .val (.int ((((-i) / (100 : Int32)) * (100 : Int32)) - (-i))), .val (.int ((((idx + (-1 : Int32)) + (-1 : Int32)) + (-1 : Int32)) + (-1 : Int32))), .val (.int (0 : Int32))]
theorem ef_gc_4 (mM : MethodId) (x0 : Int32) (x1 : Int32) (x2 : Addr) : entryFrame mM #[(.int x0), (.int x1), (.ref x2)] 7 = mkF mM 0 #[.val (.int x0), .val (.int x1), .val (.ref x2), .unset, .unset, .unset, .unset] [] := by first | (simp [entryFrame, mkF, argsToLocals, Value.category]; done) | rfl
set_option maxRecDepth 65536 in
set_option maxHeartbeats 40000000 in
theorem rm_gc_4 (l : Launch) (Z : State) (a0 : Array Value) (hw : ∀ d ∈ tables_1, d.before a0 Z = true) (ws : List Jvm.Cond) (i : Int32) (idx : Int32) (d : Addr) (L : Int32) (o1 : Addr) (o2 : Addr) (h0 : Heap) (n0 : Nat) (Z0 : n0 ≤ h0.size) (S_Integer_DigitOnes : Sta Z h0 "java/lang/Integer" "DigitOnes" "[B" (.ref o1)) (S_Integer_DigitTens : Sta Z h0 "java/lang/Integer" "DigitTens" "[B" (.ref o2)) (B_o1 : own_B Z h0 o1 (100 : Int32)) (B_o2 : own_B Z h0 o2 (100 : Int32)) (B_d : own_B Z h0 d L) (g_d : n0 ≤ d) (n1d : o1 ≠ d) (n2d : o2 ≠ d) (hpos : ¬ i < 0) (ix1 : own_ix (idx + (-1 : Int32)) L) (ix2 : own_ix ((idx + (-1 : Int32)) + (-1 : Int32)) L) (ix3 : own_ix (((idx + (-1 : Int32)) + (-1 : Int32)) + (-1 : Int32)) L) (ix4 : own_ix ((((idx + (-1 : Int32)) + (-1 : Int32)) + (-1 : Int32)) + (-1 : Int32)) L) (w0 : ¬ (-100 : Int32) < (-i)) (w1 : (-100 : Int32) < ((-i) / (100 : Int32))) (rr0 : own_ix ((((-i) / (100 : Int32)) * (100 : Int32)) - (-i)) (100 : Int32)) (rx : own_ix (-((-i) / (100 : Int32))) (100 : Int32)) (w9 : ((-i) / (100 : Int32)) < (-9 : Int32)) :
    MetFree l (⟨"java/lang/Integer", "getChars", "(II[B)I"⟩ : MethodName) (head1 (Jvm.Cond.code (⟨"java/lang/Integer", "getChars", "(II[B)I"⟩ : MethodName) jdk_33_method_12_code 7 (some .int) :: ws) oR2) (fun aa_ U_ => aa_ = #[(.int i), (.int idx), (.ref d)] ∧ Z.Warmed39 U_.vm ∧ U_.heap = h0) (fun _ _ _ _ _ => True) (fun _ U_ o_ U'_ => ∃ v_ L_, o_ = .returned v_ ∧ Q_gc Z i idx d L o1 o2 h0 n0 v_ U'_.heap L_ ∧ FrameEnd U_ o_ U'_ L_ oR2.cells oR2.slots) := by
  refine MetFree.of_bodySF (plainFor_of_name pn_5) hisR ?_
  intro pP eE sS mM argsA below meth cC s₁ Bd hml0 hP hK
  obtain ⟨rfl, hZ, hh⟩ := hP
  have hx := Bd.exec
  have hby := Bd.bytes
  have hml : cC.maxLocals = 7 := hml0
  have hown : sS.vm.findClass "java/lang/Integer" = some mM.cls := findClass_of_methodNamed Bd.named
  have hnm := (name_of_methodNamed Bd.named Bd.method).1
  have X0 : Stand pP l eE oR2 sS mM #[(.int i), (.int idx), (.ref d)] below meth cC s₁ [] 0 0 := Stand.of_body Bd
  have e0 : s₁.heap = h0 := by rw [← hh, Bd.state]; rfl
  have N0 := Fr.nil n0
  have pre0 : ∀ t_, Steps pP.tables eE below (s₁.setTop (mkF mM 0 #[.val (.int i), .val (.int idx), .val (.ref d), .unset, .unset, .unset, .unset] [])) t_ → Steps pP.tables eE below (s₁.setTop (entryFrame mM #[(.int i), (.int idx), (.ref d)] 7)) t_ := fun t_ k_ => castTop (ef_gc_4 mM i idx d) k_
  obtain ⟨T_1, X_1, e_1, st_1⟩ := getS2 X0 hx hZ hown (host := "") (Or.inl (ow hw 120 rfl)) Via.refl e0 S_Integer_DigitOnes (g := (mkF mM 49 (lc14 i idx d) [(.int (idx + (-1 : Int32))), (.ref d)])) rfl (hb hby d_jdk_33m12_49)
  have ix_2 : own_ix ((((-i) / (100 : Int32)) * (100 : Int32)) - (-i)) (100 : Int32) := rr0
  obtain ⟨cl_2, Ar_2, hin_2, v_2, hat_2⟩ := own_B.get B_o1 ix_2
  have ix_3 : own_ix (idx + (-1 : Int32)) L := ix1
  obtain ⟨cl_3, Ar_3, hin_3, Bs_3⟩ := own_B.at B_d ix_3
  obtain ⟨T_3, h_3, X_3, e_3, W_3, st_3⟩ := stB X_1 hx hZ e_1 Ar_3 (j := (idx + (-1 : Int32))) hin_3 (g := (mkF mM 55 (lc14 i idx d) [(.int v_2), (.int (idx + (-1 : Int32))), (.ref d)])) rfl rfl (hb hby d_jdk_33m12_55)
  have B_3 : own_B Z h_3 d L := Bs_3 _ _ W_3
  have Z_3 : n0 ≤ h_3.size := (Nat.le_trans Z0 (Keep.of_wr W_3).1)
  have K_3 : Keep h0 h_3 [d] := (Keep.refl h0 [d]).wr W_3 (Or.inl (List.mem_of_getElem? (i := 0) rfl))
  have N_3 := Fr.snoc X_3 N0 g_d
  obtain ⟨T_4, X_4, e_4, st_4⟩ := getS2 X_3 hx hZ hown (host := "") (Or.inl (ow hw 211 rfl)) Via.refl e_3 (S_Integer_DigitTens.wr W_3) (g := (mkF mM 62 (lc15 i idx d) [(.int ((idx + (-1 : Int32)) + (-1 : Int32))), (.ref d)])) rfl (hb hby d_jdk_33m12_62)
  have ix_5 : own_ix ((((-i) / (100 : Int32)) * (100 : Int32)) - (-i)) (100 : Int32) := rr0
  obtain ⟨cl_5, Ar_5, hin_5, v_5, hat_5⟩ := own_B.get (B_o2.other W_3 n2d) ix_5
  have ix_6 : own_ix ((idx + (-1 : Int32)) + (-1 : Int32)) L := ix2
  obtain ⟨cl_6, Ar_6, hin_6, Bs_6⟩ := own_B.at B_3 ix_6
  obtain ⟨T_6, h_6, X_6, e_6, W_6, st_6⟩ := stB X_4 hx hZ e_4 Ar_6 (j := ((idx + (-1 : Int32)) + (-1 : Int32))) hin_6 (g := (mkF mM 68 (lc15 i idx d) [(.int v_5), (.int ((idx + (-1 : Int32)) + (-1 : Int32))), (.ref d)])) rfl rfl (hb hby d_jdk_33m12_68)
  have B_6 : own_B Z h_6 d L := Bs_6 _ _ W_6
  have Z_6 : n0 ≤ h_6.size := (Nat.le_trans Z_3 (Keep.of_wr W_6).1)
  have K_6 : Keep h0 h_6 [d] := K_3.wr W_6 (Or.inl (List.mem_of_getElem? (i := 0) rfl))
  have N_6 := Fr.snoc X_6 N_3 g_d
  obtain ⟨T_7, X_7, e_7, st_7⟩ := getS2 X_6 hx hZ hown (host := "") (Or.inl (ow hw 120 rfl)) Via.refl e_6 ((S_Integer_DigitOnes.wr W_3).wr W_6) (g := (mkF mM 78 (lc16 i idx d) [(.int (((idx + (-1 : Int32)) + (-1 : Int32)) + (-1 : Int32))), (.ref d)])) rfl (hb hby d_jdk_33m12_78)
  have ix_8 : own_ix (-((-i) / (100 : Int32))) (100 : Int32) := rx
  obtain ⟨cl_8, Ar_8, hin_8, v_8, hat_8⟩ := own_B.get ((B_o1.other W_3 n1d).other W_6 n1d) ix_8
  have ix_9 : own_ix (((idx + (-1 : Int32)) + (-1 : Int32)) + (-1 : Int32)) L := ix3
  obtain ⟨cl_9, Ar_9, hin_9, Bs_9⟩ := own_B.at B_6 ix_9
  obtain ⟨T_9, h_9, X_9, e_9, W_9, st_9⟩ := stB X_7 hx hZ e_7 Ar_9 (j := (((idx + (-1 : Int32)) + (-1 : Int32)) + (-1 : Int32))) hin_9 (g := (mkF mM 84 (lc16 i idx d) [(.int v_8), (.int (((idx + (-1 : Int32)) + (-1 : Int32)) + (-1 : Int32))), (.ref d)])) rfl rfl (hb hby d_jdk_33m12_84)
  have B_9 : own_B Z h_9 d L := Bs_9 _ _ W_9
  have Z_9 : n0 ≤ h_9.size := (Nat.le_trans Z_6 (Keep.of_wr W_9).1)
  have K_9 : Keep h0 h_9 [d] := K_6.wr W_9 (Or.inl (List.mem_of_getElem? (i := 0) rfl))
  have N_9 := Fr.snoc X_9 N_6 g_d
  obtain ⟨T_10, X_10, e_10, st_10⟩ := getS2 X_9 hx hZ hown (host := "") (Or.inl (ow hw 211 rfl)) Via.refl e_9 (((S_Integer_DigitTens.wr W_3).wr W_6).wr W_9) (g := (mkF mM 97 (lc17 i idx d) [(.int ((((idx + (-1 : Int32)) + (-1 : Int32)) + (-1 : Int32)) + (-1 : Int32))), (.ref d)])) rfl (hb hby d_jdk_33m12_97)
  have ix_11 : own_ix (-((-i) / (100 : Int32))) (100 : Int32) := rx
  obtain ⟨cl_11, Ar_11, hin_11, v_11, hat_11⟩ := own_B.get (((B_o2.other W_3 n2d).other W_6 n2d).other W_9 n2d) ix_11
  have ix_12 : own_ix ((((idx + (-1 : Int32)) + (-1 : Int32)) + (-1 : Int32)) + (-1 : Int32)) L := ix4
  obtain ⟨cl_12, Ar_12, hin_12, Bs_12⟩ := own_B.at B_9 ix_12
  obtain ⟨T_12, h_12, X_12, e_12, W_12, st_12⟩ := stB X_10 hx hZ e_10 Ar_12 (j := ((((idx + (-1 : Int32)) + (-1 : Int32)) + (-1 : Int32)) + (-1 : Int32))) hin_12 (g := (mkF mM 103 (lc17 i idx d) [(.int v_11), (.int ((((idx + (-1 : Int32)) + (-1 : Int32)) + (-1 : Int32)) + (-1 : Int32))), (.ref d)])) rfl rfl (hb hby d_jdk_33m12_103)
  have B_12 : own_B Z h_12 d L := Bs_12 _ _ W_12
  have Z_12 : n0 ≤ h_12.size := (Nat.le_trans Z_9 (Keep.of_wr W_12).1)
  have K_12 : Keep h0 h_12 [d] := K_9.wr W_12 (Or.inl (List.mem_of_getElem? (i := 0) rfl))
  have N_12 := Fr.snoc X_12 N_9 g_d
  obtain ⟨fs, hr, hrun, hended, hW, hsame⟩ := X_12.leave (v := some (.int ((((idx + (-1 : Int32)) + (-1 : Int32)) + (-1 : Int32)) + (-1 : Int32)))) (fun h => by rw [Bd.returns] at h; cases h)
  refine ⟨_, _, pre0 _ ?_, hrun, hended, _, _, rfl, ?_, ⟨_, rfl⟩, hW, hsame.mono (by decide) (by decide)⟩
  · show oS pP eE below s₁ (mkF mM 0 (lc5 i idx d) []) _
    refine XS.iloadN X0.here hx rfl (hb hby d_jdk_33m12_0) rfl ?_
    refine XS.istore X0.here hx rfl (hb hby d_jdk_33m12_1) rfl (l' := (lc6 i idx d)) rfl ?_
    refine XS.iloadN X0.here hx rfl (hb hby d_jdk_33m12_3) rfl ?_
    refine XS.ifYes X0.here hx rfl (pc0 := 4) (pc' := 11) rfl (hb hby d_jdk_33m12_4) rfl (XT.i0_ge_t hpos) (by decide) (by decide) ?_
    refine XS.iconst X0.here hx rfl (hb hby d_jdk_33m12_11) ?_
    refine XS.istore X0.here hx rfl (hb hby d_jdk_33m12_12) rfl (l' := (lc7 i idx d)) rfl ?_
    refine XS.iload X0.here hx rfl (hb hby d_jdk_33m12_14) rfl ?_
    refine XS.ifNo X0.here hx rfl (hb hby d_jdk_33m12_16) rfl (by decide) ?_
    refine XS.iloadN X0.here hx rfl (hb hby d_jdk_33m12_19) rfl ?_
    show oS pP eE below s₁ (mkF mM 20 (lc7 i idx d) [(.int i)]) _
    refine XS.ineg X0.here hx rfl (hb hby d_jdk_33m12_20) rfl ?_
    refine XS.istoreN X0.here hx rfl (hb hby d_jdk_33m12_21) rfl (l' := (lc8 i idx d)) rfl ?_
    refine XS.iloadN X0.here hx rfl (hb hby d_jdk_33m12_22) rfl ?_
    refine XS.bipush X0.here hx rfl (hb hby d_jdk_33m12_23) ?_
    refine XS.icmpNo X0.here hx rfl (hb hby d_jdk_33m12_25) rfl (XT.ii_gt_f w0) ?_
    refine XS.iloadN X0.here hx rfl (hb hby d_jdk_33m12_28) rfl ?_
    refine XS.bipush X0.here hx rfl (hb hby d_jdk_33m12_29) ?_
    show oS pP eE below s₁ (mkF mM 31 (lc8 i idx d) [(.int (100 : Int32)), (.int (-i))]) _
    refine XS.idiv X0.here hx rfl (hb hby d_jdk_33m12_31) rfl (by decide) ?_
    refine XS.istoreN X0.here hx rfl (hb hby d_jdk_33m12_32) rfl (l' := (lc11 i idx d)) rfl ?_
    refine XS.iloadN X0.here hx rfl (hb hby d_jdk_33m12_33) rfl ?_
    refine XS.bipush X0.here hx rfl (hb hby d_jdk_33m12_34) ?_
    show oS pP eE below s₁ (mkF mM 36 (lc11 i idx d) [(.int (100 : Int32)), (.int ((-i) / (100 : Int32)))]) _
    refine XS.imul X0.here hx rfl (hb hby d_jdk_33m12_36) rfl ?_
    refine XS.iloadN X0.here hx rfl (hb hby d_jdk_33m12_37) rfl ?_
    show oS pP eE below s₁ (mkF mM 38 (lc11 i idx d) [(.int (-i)), (.int (((-i) / (100 : Int32)) * (100 : Int32)))]) _
    refine XS.isub X0.here hx rfl (hb hby d_jdk_33m12_38) rfl ?_
    refine XS.istore X0.here hx rfl (hb hby d_jdk_33m12_39) rfl (l' := (lc12 i idx d)) rfl ?_
    refine XS.iloadN X0.here hx rfl (hb hby d_jdk_33m12_41) rfl ?_
    refine XS.istoreN X0.here hx rfl (hb hby d_jdk_33m12_42) rfl (l' := (lc13 i idx d)) rfl ?_
    refine XS.aloadN X0.here hx rfl (hb hby d_jdk_33m12_43) rfl rfl ?_
    show oS pP eE below s₁ (mkF mM 44 (lc13 i idx d) [(.ref d)]) _
    refine XS.iinc X0.here hx rfl (hb hby d_jdk_33m12_44) rfl (l' := (lc14 i idx d)) rfl ?_
    refine XS.iload X0.here hx rfl (hb hby d_jdk_33m12_47) rfl ?_
    show oS pP eE below s₁ (mkF mM 49 (lc14 i idx d) [(.int (idx + (-1 : Int32))), (.ref d)]) _
    refine st_1 _ ?_
    show oS pP eE below T_1 (mkF mM 52 (lc14 i idx d) [(.ref o1), (.int (idx + (-1 : Int32))), (.ref d)]) _
    refine XS.iload X_1.here hx rfl (hb hby d_jdk_33m12_52) rfl ?_
    show oS pP eE below T_1 (mkF mM 54 (lc14 i idx d) [(.int ((((-i) / (100 : Int32)) * (100 : Int32)) - (-i))), (.ref o1), (.int (idx + (-1 : Int32))), (.ref d)]) _
    refine X_1.baloadBytes hx (j := ((((-i) / (100 : Int32)) * (100 : Int32)) - (-i))) (v := .int v_2) (by rw [e_1]; exact Ar_2.1) (State.isArrayOf_alike hZ.alike Ar_2.2.1) Ar_2.2.2 hin_2 hat_2 (g := (mkF mM 54 (lc14 i idx d) [(.int ((((-i) / (100 : Int32)) * (100 : Int32)) - (-i))), (.ref o1), (.int (idx + (-1 : Int32))), (.ref d)])) rfl rfl (hb hby d_jdk_33m12_54) _ ?_
    show oS pP eE below T_1 (mkF mM 55 (lc14 i idx d) [(.int v_2), (.int (idx + (-1 : Int32))), (.ref d)]) _
    refine st_3 _ ?_
    show oS pP eE below T_3 (mkF mM 56 (lc14 i idx d) []) _
    refine XS.aloadN X_3.here hx rfl (hb hby d_jdk_33m12_56) rfl rfl ?_
    show oS pP eE below T_3 (mkF mM 57 (lc14 i idx d) [(.ref d)]) _
    refine XS.iinc X_3.here hx rfl (hb hby d_jdk_33m12_57) rfl (l' := (lc15 i idx d)) rfl ?_
    refine XS.iload X_3.here hx rfl (hb hby d_jdk_33m12_60) rfl ?_
    show oS pP eE below T_3 (mkF mM 62 (lc15 i idx d) [(.int ((idx + (-1 : Int32)) + (-1 : Int32))), (.ref d)]) _
    refine st_4 _ ?_
    show oS pP eE below T_4 (mkF mM 65 (lc15 i idx d) [(.ref o2), (.int ((idx + (-1 : Int32)) + (-1 : Int32))), (.ref d)]) _
    refine XS.iload X_4.here hx rfl (hb hby d_jdk_33m12_65) rfl ?_
    show oS pP eE below T_4 (mkF mM 67 (lc15 i idx d) [(.int ((((-i) / (100 : Int32)) * (100 : Int32)) - (-i))), (.ref o2), (.int ((idx + (-1 : Int32)) + (-1 : Int32))), (.ref d)]) _
    refine X_4.baloadBytes hx (j := ((((-i) / (100 : Int32)) * (100 : Int32)) - (-i))) (v := .int v_5) (by rw [e_4]; exact Ar_5.1) (State.isArrayOf_alike hZ.alike Ar_5.2.1) Ar_5.2.2 hin_5 hat_5 (g := (mkF mM 67 (lc15 i idx d) [(.int ((((-i) / (100 : Int32)) * (100 : Int32)) - (-i))), (.ref o2), (.int ((idx + (-1 : Int32)) + (-1 : Int32))), (.ref d)])) rfl rfl (hb hby d_jdk_33m12_67) _ ?_
    show oS pP eE below T_4 (mkF mM 68 (lc15 i idx d) [(.int v_5), (.int ((idx + (-1 : Int32)) + (-1 : Int32))), (.ref d)]) _
    refine st_6 _ ?_
    show oS pP eE below T_6 (mkF mM 69 (lc15 i idx d) []) _
    refine XS.goto X_6.here hx rfl (pc0 := 69) (pc' := 22) rfl (hb hby d_jdk_33m12_69) (by decide) (by decide) ?_
    refine XS.iloadN X_6.here hx rfl (hb hby d_jdk_33m12_22) rfl ?_
    refine XS.bipush X_6.here hx rfl (hb hby d_jdk_33m12_23) ?_
    refine XS.icmpYes X_6.here hx rfl (pc0 := 25) (pc' := 72) rfl (hb hby d_jdk_33m12_25) rfl (XT.ii_gt_t w1) (by decide) (by decide) ?_
    refine XS.aloadN X_6.here hx rfl (hb hby d_jdk_33m12_72) rfl rfl ?_
    show oS pP eE below T_6 (mkF mM 73 (lc15 i idx d) [(.ref d)]) _
    refine XS.iinc X_6.here hx rfl (hb hby d_jdk_33m12_73) rfl (l' := (lc16 i idx d)) rfl ?_
    refine XS.iload X_6.here hx rfl (hb hby d_jdk_33m12_76) rfl ?_
    show oS pP eE below T_6 (mkF mM 78 (lc16 i idx d) [(.int (((idx + (-1 : Int32)) + (-1 : Int32)) + (-1 : Int32))), (.ref d)]) _
    refine st_7 _ ?_
    show oS pP eE below T_7 (mkF mM 81 (lc16 i idx d) [(.ref o1), (.int (((idx + (-1 : Int32)) + (-1 : Int32)) + (-1 : Int32))), (.ref d)]) _
    refine XS.iloadN X_7.here hx rfl (hb hby d_jdk_33m12_81) rfl ?_
    show oS pP eE below T_7 (mkF mM 82 (lc16 i idx d) [(.int ((-i) / (100 : Int32))), (.ref o1), (.int (((idx + (-1 : Int32)) + (-1 : Int32)) + (-1 : Int32))), (.ref d)]) _
    refine XS.ineg X_7.here hx rfl (hb hby d_jdk_33m12_82) rfl ?_
    show oS pP eE below T_7 (mkF mM 83 (lc16 i idx d) [(.int (-((-i) / (100 : Int32)))), (.ref o1), (.int (((idx + (-1 : Int32)) + (-1 : Int32)) + (-1 : Int32))), (.ref d)]) _
    refine X_7.baloadBytes hx (j := (-((-i) / (100 : Int32)))) (v := .int v_8) (by rw [e_7]; exact Ar_8.1) (State.isArrayOf_alike hZ.alike Ar_8.2.1) Ar_8.2.2 hin_8 hat_8 (g := (mkF mM 83 (lc16 i idx d) [(.int (-((-i) / (100 : Int32)))), (.ref o1), (.int (((idx + (-1 : Int32)) + (-1 : Int32)) + (-1 : Int32))), (.ref d)])) rfl rfl (hb hby d_jdk_33m12_83) _ ?_
    show oS pP eE below T_7 (mkF mM 84 (lc16 i idx d) [(.int v_8), (.int (((idx + (-1 : Int32)) + (-1 : Int32)) + (-1 : Int32))), (.ref d)]) _
    refine st_9 _ ?_
    show oS pP eE below T_9 (mkF mM 85 (lc16 i idx d) []) _
    refine XS.iloadN X_9.here hx rfl (hb hby d_jdk_33m12_85) rfl ?_
    refine XS.bipush X_9.here hx rfl (hb hby d_jdk_33m12_86) ?_
    refine XS.icmpNo X_9.here hx rfl (hb hby d_jdk_33m12_88) rfl (XT.ii_ge_f w9) ?_
    refine XS.aloadN X_9.here hx rfl (hb hby d_jdk_33m12_91) rfl rfl ?_
    show oS pP eE below T_9 (mkF mM 92 (lc16 i idx d) [(.ref d)]) _
    refine XS.iinc X_9.here hx rfl (hb hby d_jdk_33m12_92) rfl (l' := (lc17 i idx d)) rfl ?_
    refine XS.iload X_9.here hx rfl (hb hby d_jdk_33m12_95) rfl ?_
    show oS pP eE below T_9 (mkF mM 97 (lc17 i idx d) [(.int ((((idx + (-1 : Int32)) + (-1 : Int32)) + (-1 : Int32)) + (-1 : Int32))), (.ref d)]) _
    refine st_10 _ ?_
    show oS pP eE below T_10 (mkF mM 100 (lc17 i idx d) [(.ref o2), (.int ((((idx + (-1 : Int32)) + (-1 : Int32)) + (-1 : Int32)) + (-1 : Int32))), (.ref d)]) _
    refine XS.iloadN X_10.here hx rfl (hb hby d_jdk_33m12_100) rfl ?_
    show oS pP eE below T_10 (mkF mM 101 (lc17 i idx d) [(.int ((-i) / (100 : Int32))), (.ref o2), (.int ((((idx + (-1 : Int32)) + (-1 : Int32)) + (-1 : Int32)) + (-1 : Int32))), (.ref d)]) _
    refine XS.ineg X_10.here hx rfl (hb hby d_jdk_33m12_101) rfl ?_
    show oS pP eE below T_10 (mkF mM 102 (lc17 i idx d) [(.int (-((-i) / (100 : Int32)))), (.ref o2), (.int ((((idx + (-1 : Int32)) + (-1 : Int32)) + (-1 : Int32)) + (-1 : Int32))), (.ref d)]) _
    refine X_10.baloadBytes hx (j := (-((-i) / (100 : Int32)))) (v := .int v_11) (by rw [e_10]; exact Ar_11.1) (State.isArrayOf_alike hZ.alike Ar_11.2.1) Ar_11.2.2 hin_11 hat_11 (g := (mkF mM 102 (lc17 i idx d) [(.int (-((-i) / (100 : Int32)))), (.ref o2), (.int ((((idx + (-1 : Int32)) + (-1 : Int32)) + (-1 : Int32)) + (-1 : Int32))), (.ref d)])) rfl rfl (hb hby d_jdk_33m12_102) _ ?_
    show oS pP eE below T_10 (mkF mM 103 (lc17 i idx d) [(.int v_11), (.int ((((idx + (-1 : Int32)) + (-1 : Int32)) + (-1 : Int32)) + (-1 : Int32))), (.ref d)]) _
    refine st_12 _ ?_
    show oS pP eE below T_12 (mkF mM 104 (lc17 i idx d) []) _
    refine XS.iload X_12.here hx rfl (hb hby d_jdk_33m12_104) rfl ?_
    refine XS.ifYes X_12.here hx rfl (pc0 := 106) (pc' := 118) rfl (hb hby d_jdk_33m12_106) rfl (by decide) (by decide) (by decide) ?_
    refine XS.iload X_12.here hx rfl (hb hby d_jdk_33m12_118) rfl ?_
    show oS pP eE below T_12 (mkF mM 120 (lc17 i idx d) [(.int ((((idx + (-1 : Int32)) + (-1 : Int32)) + (-1 : Int32)) + (-1 : Int32)))]) _
    exact retI X_12 hx Bd.returns (hb hby d_jdk_33m12_120) hr
  · show Q_gc Z i idx d L o1 o2 h0 n0 _ T_12.heap _
    rw [e_12]
    exact ⟨((((idx + (-1 : Int32)) + (-1 : Int32)) + (-1 : Int32)) + (-1 : Int32)), rfl, N_12, K_12, B_12⟩
abbrev lc18 (i : Int32) (idx : Int32) (d : Addr) : Array Slot := #[.val (.int ((-i) / (100 : Int32))), .val (.int idx), .val (.ref d), .val (.int (((-i) / (100 : Int32)) / (100 : Int32))), .val (.int ((((-i) / (100 : Int32)) * (100 : Int32)) - (-i))), .val (.int ((idx + (-1 : Int32)) + (-1 : Int32))), .val (.int (0 : Int32))]
abbrev lc19 (i : Int32) (idx : Int32) (d : Addr) : Array Slot := #[.val (.int ((-i) / (100 : Int32))), .val (.int idx), .val (.ref d), .val (.int (((-i) / (100 : Int32)) / (100 : Int32))), .val (.int (((((-i) / (100 : Int32)) / (100 : Int32)) * (100 : Int32)) - ((-i) / (100 : Int32)))), .val (.int ((idx + (-1 : Int32)) + (-1 : Int32))), .val (.int (0 : Int32))]
abbrev lc20 (i : Int32) (idx : Int32) (d : Addr) : Array Slot := #[.val (.int (((-i) / (100 : Int32)) / (100 : Int32))), .val (.int idx), .val (.ref d), .val (.int (((-i) / (100 : Int32)) / (100 : Int32))), .val (.int (((((-i) / (100 : Int32)) / (100 : Int32)) * (100 : Int32)) - ((-i) / (100 : Int32)))), .val (.int ((idx + (-1 : Int32)) + (-1 : Int32))), .val (.int (0 : Int32))]
abbrev lc21 (i : Int32) (idx : Int32) (d : Addr) : Array Slot := #[.val (.int (((-i) / (100 : Int32)) / (100 : Int32))), .val (.int idx), .val (.ref d), .val (.int (((-i) / (100 : Int32)) / (100 : Int32))), .val (.int (((((-i) / (100 : Int32)) / (100 : Int32)) * (100 : Int32)) - ((-i) / (100 : Int32)))), .val (.int (((idx + (-1 : Int32)) + (-1 : Int32)) + (-1 : Int32))), .val (.int (0 : Int32))]
abbrev lc22 (i : Int32) (idx : Int32) (d : Addr) : Array Slot := #[.val (.int (((-i) / (100 : Int32)) / (100 : Int32))), .val (.int idx), .val (.ref d), .val (.int (((-i) / (100 : Int32)) / (100 : Int32))), .val (.int (((((-i) / (100 : Int32)) / (100 : Int32)) * (100 : Int32)) - ((-i) / (100 : Int32)))), .val (.int ((((idx + (-1 : Int32)) + (-1 : Int32)) + (-1 : Int32)) + (-1 : Int32))), .val (.int (0 : Int32))]
abbrev lc23 (i : Int32) (idx : Int32) (d : Addr) : Array Slot := #[.val (.int (((-i) / (100 : Int32)) / (100 : Int32))), .val (.int idx), .val (.ref d), .val (.int (((-i) / (100 : Int32)) / (100 : Int32))), .val (.int (((((-i) / (100 : Int32)) / (100 : Int32)) * (100 : Int32)) - ((-i) / (100 : Int32)))), .val (.int (((((idx + (-1 : Int32)) + (-1 : Int32)) + (-1 : Int32)) + (-1 : Int32)) + (-1 : Int32))), .val (.int (0 : Int32))]
theorem ef_gc_5 (mM : MethodId) (x0 : Int32) (x1 : Int32) (x2 : Addr) : entryFrame mM #[(.int x0), (.int x1), (.ref x2)] 7 = mkF mM 0 #[.val (.int x0), .val (.int x1), .val (.ref x2), .unset, .unset, .unset, .unset] [] := by first | (simp [entryFrame, mkF, argsToLocals, Value.category]; done) | rfl
set_option maxRecDepth 65536 in
set_option maxHeartbeats 40000000 in
theorem rm_gc_5 (l : Launch) (Z : State) (a0 : Array Value) (hw : ∀ d ∈ tables_1, d.before a0 Z = true) (ws : List Jvm.Cond) (i : Int32) (idx : Int32) (d : Addr) (L : Int32) (o1 : Addr) (o2 : Addr) (h0 : Heap) (n0 : Nat) (Z0 : n0 ≤ h0.size) (S_Integer_DigitOnes : Sta Z h0 "java/lang/Integer" "DigitOnes" "[B" (.ref o1)) (S_Integer_DigitTens : Sta Z h0 "java/lang/Integer" "DigitTens" "[B" (.ref o2)) (B_o1 : own_B Z h0 o1 (100 : Int32)) (B_o2 : own_B Z h0 o2 (100 : Int32)) (B_d : own_B Z h0 d L) (g_d : n0 ≤ d) (n1d : o1 ≠ d) (n2d : o2 ≠ d) (hpos : ¬ i < 0) (ix1 : own_ix (idx + (-1 : Int32)) L) (ix2 : own_ix ((idx + (-1 : Int32)) + (-1 : Int32)) L) (ix3 : own_ix (((idx + (-1 : Int32)) + (-1 : Int32)) + (-1 : Int32)) L) (ix4 : own_ix ((((idx + (-1 : Int32)) + (-1 : Int32)) + (-1 : Int32)) + (-1 : Int32)) L) (ix5 : own_ix (((((idx + (-1 : Int32)) + (-1 : Int32)) + (-1 : Int32)) + (-1 : Int32)) + (-1 : Int32)) L) (w0 : ¬ (-100 : Int32) < (-i)) (w1 : ¬ (-100 : Int32) < ((-i) / (100 : Int32))) (w2 : (-100 : Int32) < (((-i) / (100 : Int32)) / (100 : Int32))) (rr0 : own_ix ((((-i) / (100 : Int32)) * (100 : Int32)) - (-i)) (100 : Int32)) (rr1 : own_ix (((((-i) / (100 : Int32)) / (100 : Int32)) * (100 : Int32)) - ((-i) / (100 : Int32))) (100 : Int32)) (rx : own_ix (-(((-i) / (100 : Int32)) / (100 : Int32))) (100 : Int32)) (w9 : ¬ (((-i) / (100 : Int32)) / (100 : Int32)) < (-9 : Int32)) :
    MetFree l (⟨"java/lang/Integer", "getChars", "(II[B)I"⟩ : MethodName) (head1 (Jvm.Cond.code (⟨"java/lang/Integer", "getChars", "(II[B)I"⟩ : MethodName) jdk_33_method_12_code 7 (some .int) :: ws) oR2) (fun aa_ U_ => aa_ = #[(.int i), (.int idx), (.ref d)] ∧ Z.Warmed39 U_.vm ∧ U_.heap = h0) (fun _ _ _ _ _ => True) (fun _ U_ o_ U'_ => ∃ v_ L_, o_ = .returned v_ ∧ Q_gc Z i idx d L o1 o2 h0 n0 v_ U'_.heap L_ ∧ FrameEnd U_ o_ U'_ L_ oR2.cells oR2.slots) := by
  refine MetFree.of_bodySF (plainFor_of_name pn_5) hisR ?_
  intro pP eE sS mM argsA below meth cC s₁ Bd hml0 hP hK
  obtain ⟨rfl, hZ, hh⟩ := hP
  have hx := Bd.exec
  have hby := Bd.bytes
  have hml : cC.maxLocals = 7 := hml0
  have hown : sS.vm.findClass "java/lang/Integer" = some mM.cls := findClass_of_methodNamed Bd.named
  have hnm := (name_of_methodNamed Bd.named Bd.method).1
  have X0 : Stand pP l eE oR2 sS mM #[(.int i), (.int idx), (.ref d)] below meth cC s₁ [] 0 0 := Stand.of_body Bd
  have e0 : s₁.heap = h0 := by rw [← hh, Bd.state]; rfl
  have N0 := Fr.nil n0
  have pre0 : ∀ t_, Steps pP.tables eE below (s₁.setTop (mkF mM 0 #[.val (.int i), .val (.int idx), .val (.ref d), .unset, .unset, .unset, .unset] [])) t_ → Steps pP.tables eE below (s₁.setTop (entryFrame mM #[(.int i), (.int idx), (.ref d)] 7)) t_ := fun t_ k_ => castTop (ef_gc_5 mM i idx d) k_
  obtain ⟨T_1, X_1, e_1, st_1⟩ := getS2 X0 hx hZ hown (host := "") (Or.inl (ow hw 120 rfl)) Via.refl e0 S_Integer_DigitOnes (g := (mkF mM 49 (lc14 i idx d) [(.int (idx + (-1 : Int32))), (.ref d)])) rfl (hb hby d_jdk_33m12_49)
  have ix_2 : own_ix ((((-i) / (100 : Int32)) * (100 : Int32)) - (-i)) (100 : Int32) := rr0
  obtain ⟨cl_2, Ar_2, hin_2, v_2, hat_2⟩ := own_B.get B_o1 ix_2
  have ix_3 : own_ix (idx + (-1 : Int32)) L := ix1
  obtain ⟨cl_3, Ar_3, hin_3, Bs_3⟩ := own_B.at B_d ix_3
  obtain ⟨T_3, h_3, X_3, e_3, W_3, st_3⟩ := stB X_1 hx hZ e_1 Ar_3 (j := (idx + (-1 : Int32))) hin_3 (g := (mkF mM 55 (lc14 i idx d) [(.int v_2), (.int (idx + (-1 : Int32))), (.ref d)])) rfl rfl (hb hby d_jdk_33m12_55)
  have B_3 : own_B Z h_3 d L := Bs_3 _ _ W_3
  have Z_3 : n0 ≤ h_3.size := (Nat.le_trans Z0 (Keep.of_wr W_3).1)
  have K_3 : Keep h0 h_3 [d] := (Keep.refl h0 [d]).wr W_3 (Or.inl (List.mem_of_getElem? (i := 0) rfl))
  have N_3 := Fr.snoc X_3 N0 g_d
  obtain ⟨T_4, X_4, e_4, st_4⟩ := getS2 X_3 hx hZ hown (host := "") (Or.inl (ow hw 211 rfl)) Via.refl e_3 (S_Integer_DigitTens.wr W_3) (g := (mkF mM 62 (lc15 i idx d) [(.int ((idx + (-1 : Int32)) + (-1 : Int32))), (.ref d)])) rfl (hb hby d_jdk_33m12_62)
  have ix_5 : own_ix ((((-i) / (100 : Int32)) * (100 : Int32)) - (-i)) (100 : Int32) := rr0
  obtain ⟨cl_5, Ar_5, hin_5, v_5, hat_5⟩ := own_B.get (B_o2.other W_3 n2d) ix_5
  have ix_6 : own_ix ((idx + (-1 : Int32)) + (-1 : Int32)) L := ix2
  obtain ⟨cl_6, Ar_6, hin_6, Bs_6⟩ := own_B.at B_3 ix_6
  obtain ⟨T_6, h_6, X_6, e_6, W_6, st_6⟩ := stB X_4 hx hZ e_4 Ar_6 (j := ((idx + (-1 : Int32)) + (-1 : Int32))) hin_6 (g := (mkF mM 68 (lc15 i idx d) [(.int v_5), (.int ((idx + (-1 : Int32)) + (-1 : Int32))), (.ref d)])) rfl rfl (hb hby d_jdk_33m12_68)
  have B_6 : own_B Z h_6 d L := Bs_6 _ _ W_6
  have Z_6 : n0 ≤ h_6.size := (Nat.le_trans Z_3 (Keep.of_wr W_6).1)
  have K_6 : Keep h0 h_6 [d] := K_3.wr W_6 (Or.inl (List.mem_of_getElem? (i := 0) rfl))
  have N_6 := Fr.snoc X_6 N_3 g_d
  obtain ⟨T_7, X_7, e_7, st_7⟩ := getS2 X_6 hx hZ hown (host := "") (Or.inl (ow hw 120 rfl)) Via.refl e_6 ((S_Integer_DigitOnes.wr W_3).wr W_6) (g := (mkF mM 49 (lc21 i idx d) [(.int (((idx + (-1 : Int32)) + (-1 : Int32)) + (-1 : Int32))), (.ref d)])) rfl (hb hby d_jdk_33m12_49)
  have ix_8 : own_ix (((((-i) / (100 : Int32)) / (100 : Int32)) * (100 : Int32)) - ((-i) / (100 : Int32))) (100 : Int32) := rr1
  obtain ⟨cl_8, Ar_8, hin_8, v_8, hat_8⟩ := own_B.get ((B_o1.other W_3 n1d).other W_6 n1d) ix_8
  have ix_9 : own_ix (((idx + (-1 : Int32)) + (-1 : Int32)) + (-1 : Int32)) L := ix3
  obtain ⟨cl_9, Ar_9, hin_9, Bs_9⟩ := own_B.at B_6 ix_9
  obtain ⟨T_9, h_9, X_9, e_9, W_9, st_9⟩ := stB X_7 hx hZ e_7 Ar_9 (j := (((idx + (-1 : Int32)) + (-1 : Int32)) + (-1 : Int32))) hin_9 (g := (mkF mM 55 (lc21 i idx d) [(.int v_8), (.int (((idx + (-1 : Int32)) + (-1 : Int32)) + (-1 : Int32))), (.ref d)])) rfl rfl (hb hby d_jdk_33m12_55)
  have B_9 : own_B Z h_9 d L := Bs_9 _ _ W_9
  have Z_9 : n0 ≤ h_9.size := (Nat.le_trans Z_6 (Keep.of_wr W_9).1)
  have K_9 : Keep h0 h_9 [d] := K_6.wr W_9 (Or.inl (List.mem_of_getElem? (i := 0) rfl))
  have N_9 := Fr.snoc X_9 N_6 g_d
  obtain ⟨T_10, X_10, e_10, st_10⟩ := getS2 X_9 hx hZ hown (host := "") (Or.inl (ow hw 211 rfl)) Via.refl e_9 (((S_Integer_DigitTens.wr W_3).wr W_6).wr W_9) (g := (mkF mM 62 (lc22 i idx d) [(.int ((((idx + (-1 : Int32)) + (-1 : Int32)) + (-1 : Int32)) + (-1 : Int32))), (.ref d)])) rfl (hb hby d_jdk_33m12_62)
  have ix_11 : own_ix (((((-i) / (100 : Int32)) / (100 : Int32)) * (100 : Int32)) - ((-i) / (100 : Int32))) (100 : Int32) := rr1
  obtain ⟨cl_11, Ar_11, hin_11, v_11, hat_11⟩ := own_B.get (((B_o2.other W_3 n2d).other W_6 n2d).other W_9 n2d) ix_11
  have ix_12 : own_ix ((((idx + (-1 : Int32)) + (-1 : Int32)) + (-1 : Int32)) + (-1 : Int32)) L := ix4
  obtain ⟨cl_12, Ar_12, hin_12, Bs_12⟩ := own_B.at B_9 ix_12
  obtain ⟨T_12, h_12, X_12, e_12, W_12, st_12⟩ := stB X_10 hx hZ e_10 Ar_12 (j := ((((idx + (-1 : Int32)) + (-1 : Int32)) + (-1 : Int32)) + (-1 : Int32))) hin_12 (g := (mkF mM 68 (lc22 i idx d) [(.int v_11), (.int ((((idx + (-1 : Int32)) + (-1 : Int32)) + (-1 : Int32)) + (-1 : Int32))), (.ref d)])) rfl rfl (hb hby d_jdk_33m12_68)
  have B_12 : own_B Z h_12 d L := Bs_12 _ _ W_12
  have Z_12 : n0 ≤ h_12.size := (Nat.le_trans Z_9 (Keep.of_wr W_12).1)
  have K_12 : Keep h0 h_12 [d] := K_9.wr W_12 (Or.inl (List.mem_of_getElem? (i := 0) rfl))
  have N_12 := Fr.snoc X_12 N_9 g_d
  obtain ⟨T_13, X_13, e_13, st_13⟩ := getS2 X_12 hx hZ hown (host := "") (Or.inl (ow hw 120 rfl)) Via.refl e_12 ((((S_Integer_DigitOnes.wr W_3).wr W_6).wr W_9).wr W_12) (g := (mkF mM 78 (lc23 i idx d) [(.int (((((idx + (-1 : Int32)) + (-1 : Int32)) + (-1 : Int32)) + (-1 : Int32)) + (-1 : Int32))), (.ref d)])) rfl (hb hby d_jdk_33m12_78)
  have ix_14 : own_ix (-(((-i) / (100 : Int32)) / (100 : Int32))) (100 : Int32) := rx
  obtain ⟨cl_14, Ar_14, hin_14, v_14, hat_14⟩ := own_B.get ((((B_o1.other W_3 n1d).other W_6 n1d).other W_9 n1d).other W_12 n1d) ix_14
  have ix_15 : own_ix (((((idx + (-1 : Int32)) + (-1 : Int32)) + (-1 : Int32)) + (-1 : Int32)) + (-1 : Int32)) L := ix5
  obtain ⟨cl_15, Ar_15, hin_15, Bs_15⟩ := own_B.at B_12 ix_15
  obtain ⟨T_15, h_15, X_15, e_15, W_15, st_15⟩ := stB X_13 hx hZ e_13 Ar_15 (j := (((((idx + (-1 : Int32)) + (-1 : Int32)) + (-1 : Int32)) + (-1 : Int32)) + (-1 : Int32))) hin_15 (g := (mkF mM 84 (lc23 i idx d) [(.int v_14), (.int (((((idx + (-1 : Int32)) + (-1 : Int32)) + (-1 : Int32)) + (-1 : Int32)) + (-1 : Int32))), (.ref d)])) rfl rfl (hb hby d_jdk_33m12_84)
  have B_15 : own_B Z h_15 d L := Bs_15 _ _ W_15
  have Z_15 : n0 ≤ h_15.size := (Nat.le_trans Z_12 (Keep.of_wr W_15).1)
  have K_15 : Keep h0 h_15 [d] := K_12.wr W_15 (Or.inl (List.mem_of_getElem? (i := 0) rfl))
  have N_15 := Fr.snoc X_15 N_12 g_d
  obtain ⟨fs, hr, hrun, hended, hW, hsame⟩ := X_15.leave (v := some (.int (((((idx + (-1 : Int32)) + (-1 : Int32)) + (-1 : Int32)) + (-1 : Int32)) + (-1 : Int32)))) (fun h => by rw [Bd.returns] at h; cases h)
  refine ⟨_, _, pre0 _ ?_, hrun, hended, _, _, rfl, ?_, ⟨_, rfl⟩, hW, hsame.mono (by decide) (by decide)⟩
  · show oS pP eE below s₁ (mkF mM 0 (lc5 i idx d) []) _
    refine XS.iloadN X0.here hx rfl (hb hby d_jdk_33m12_0) rfl ?_
    refine XS.istore X0.here hx rfl (hb hby d_jdk_33m12_1) rfl (l' := (lc6 i idx d)) rfl ?_
    refine XS.iloadN X0.here hx rfl (hb hby d_jdk_33m12_3) rfl ?_
    refine XS.ifYes X0.here hx rfl (pc0 := 4) (pc' := 11) rfl (hb hby d_jdk_33m12_4) rfl (XT.i0_ge_t hpos) (by decide) (by decide) ?_
    refine XS.iconst X0.here hx rfl (hb hby d_jdk_33m12_11) ?_
    refine XS.istore X0.here hx rfl (hb hby d_jdk_33m12_12) rfl (l' := (lc7 i idx d)) rfl ?_
    refine XS.iload X0.here hx rfl (hb hby d_jdk_33m12_14) rfl ?_
    refine XS.ifNo X0.here hx rfl (hb hby d_jdk_33m12_16) rfl (by decide) ?_
    refine XS.iloadN X0.here hx rfl (hb hby d_jdk_33m12_19) rfl ?_
    show oS pP eE below s₁ (mkF mM 20 (lc7 i idx d) [(.int i)]) _
    refine XS.ineg X0.here hx rfl (hb hby d_jdk_33m12_20) rfl ?_
    refine XS.istoreN X0.here hx rfl (hb hby d_jdk_33m12_21) rfl (l' := (lc8 i idx d)) rfl ?_
    refine XS.iloadN X0.here hx rfl (hb hby d_jdk_33m12_22) rfl ?_
    refine XS.bipush X0.here hx rfl (hb hby d_jdk_33m12_23) ?_
    refine XS.icmpNo X0.here hx rfl (hb hby d_jdk_33m12_25) rfl (XT.ii_gt_f w0) ?_
    refine XS.iloadN X0.here hx rfl (hb hby d_jdk_33m12_28) rfl ?_
    refine XS.bipush X0.here hx rfl (hb hby d_jdk_33m12_29) ?_
    show oS pP eE below s₁ (mkF mM 31 (lc8 i idx d) [(.int (100 : Int32)), (.int (-i))]) _
    refine XS.idiv X0.here hx rfl (hb hby d_jdk_33m12_31) rfl (by decide) ?_
    refine XS.istoreN X0.here hx rfl (hb hby d_jdk_33m12_32) rfl (l' := (lc11 i idx d)) rfl ?_
    refine XS.iloadN X0.here hx rfl (hb hby d_jdk_33m12_33) rfl ?_
    refine XS.bipush X0.here hx rfl (hb hby d_jdk_33m12_34) ?_
    show oS pP eE below s₁ (mkF mM 36 (lc11 i idx d) [(.int (100 : Int32)), (.int ((-i) / (100 : Int32)))]) _
    refine XS.imul X0.here hx rfl (hb hby d_jdk_33m12_36) rfl ?_
    refine XS.iloadN X0.here hx rfl (hb hby d_jdk_33m12_37) rfl ?_
    show oS pP eE below s₁ (mkF mM 38 (lc11 i idx d) [(.int (-i)), (.int (((-i) / (100 : Int32)) * (100 : Int32)))]) _
    refine XS.isub X0.here hx rfl (hb hby d_jdk_33m12_38) rfl ?_
    refine XS.istore X0.here hx rfl (hb hby d_jdk_33m12_39) rfl (l' := (lc12 i idx d)) rfl ?_
    refine XS.iloadN X0.here hx rfl (hb hby d_jdk_33m12_41) rfl ?_
    refine XS.istoreN X0.here hx rfl (hb hby d_jdk_33m12_42) rfl (l' := (lc13 i idx d)) rfl ?_
    refine XS.aloadN X0.here hx rfl (hb hby d_jdk_33m12_43) rfl rfl ?_
    show oS pP eE below s₁ (mkF mM 44 (lc13 i idx d) [(.ref d)]) _
    refine XS.iinc X0.here hx rfl (hb hby d_jdk_33m12_44) rfl (l' := (lc14 i idx d)) rfl ?_
    refine XS.iload X0.here hx rfl (hb hby d_jdk_33m12_47) rfl ?_
    show oS pP eE below s₁ (mkF mM 49 (lc14 i idx d) [(.int (idx + (-1 : Int32))), (.ref d)]) _
    refine st_1 _ ?_
    show oS pP eE below T_1 (mkF mM 52 (lc14 i idx d) [(.ref o1), (.int (idx + (-1 : Int32))), (.ref d)]) _
    refine XS.iload X_1.here hx rfl (hb hby d_jdk_33m12_52) rfl ?_
    show oS pP eE below T_1 (mkF mM 54 (lc14 i idx d) [(.int ((((-i) / (100 : Int32)) * (100 : Int32)) - (-i))), (.ref o1), (.int (idx + (-1 : Int32))), (.ref d)]) _
    refine X_1.baloadBytes hx (j := ((((-i) / (100 : Int32)) * (100 : Int32)) - (-i))) (v := .int v_2) (by rw [e_1]; exact Ar_2.1) (State.isArrayOf_alike hZ.alike Ar_2.2.1) Ar_2.2.2 hin_2 hat_2 (g := (mkF mM 54 (lc14 i idx d) [(.int ((((-i) / (100 : Int32)) * (100 : Int32)) - (-i))), (.ref o1), (.int (idx + (-1 : Int32))), (.ref d)])) rfl rfl (hb hby d_jdk_33m12_54) _ ?_
    show oS pP eE below T_1 (mkF mM 55 (lc14 i idx d) [(.int v_2), (.int (idx + (-1 : Int32))), (.ref d)]) _
    refine st_3 _ ?_
    show oS pP eE below T_3 (mkF mM 56 (lc14 i idx d) []) _
    refine XS.aloadN X_3.here hx rfl (hb hby d_jdk_33m12_56) rfl rfl ?_
    show oS pP eE below T_3 (mkF mM 57 (lc14 i idx d) [(.ref d)]) _
    refine XS.iinc X_3.here hx rfl (hb hby d_jdk_33m12_57) rfl (l' := (lc15 i idx d)) rfl ?_
    refine XS.iload X_3.here hx rfl (hb hby d_jdk_33m12_60) rfl ?_
    show oS pP eE below T_3 (mkF mM 62 (lc15 i idx d) [(.int ((idx + (-1 : Int32)) + (-1 : Int32))), (.ref d)]) _
    refine st_4 _ ?_
    show oS pP eE below T_4 (mkF mM 65 (lc15 i idx d) [(.ref o2), (.int ((idx + (-1 : Int32)) + (-1 : Int32))), (.ref d)]) _
    refine XS.iload X_4.here hx rfl (hb hby d_jdk_33m12_65) rfl ?_
    show oS pP eE below T_4 (mkF mM 67 (lc15 i idx d) [(.int ((((-i) / (100 : Int32)) * (100 : Int32)) - (-i))), (.ref o2), (.int ((idx + (-1 : Int32)) + (-1 : Int32))), (.ref d)]) _
    refine X_4.baloadBytes hx (j := ((((-i) / (100 : Int32)) * (100 : Int32)) - (-i))) (v := .int v_5) (by rw [e_4]; exact Ar_5.1) (State.isArrayOf_alike hZ.alike Ar_5.2.1) Ar_5.2.2 hin_5 hat_5 (g := (mkF mM 67 (lc15 i idx d) [(.int ((((-i) / (100 : Int32)) * (100 : Int32)) - (-i))), (.ref o2), (.int ((idx + (-1 : Int32)) + (-1 : Int32))), (.ref d)])) rfl rfl (hb hby d_jdk_33m12_67) _ ?_
    show oS pP eE below T_4 (mkF mM 68 (lc15 i idx d) [(.int v_5), (.int ((idx + (-1 : Int32)) + (-1 : Int32))), (.ref d)]) _
    refine st_6 _ ?_
    show oS pP eE below T_6 (mkF mM 69 (lc15 i idx d) []) _
    refine XS.goto X_6.here hx rfl (pc0 := 69) (pc' := 22) rfl (hb hby d_jdk_33m12_69) (by decide) (by decide) ?_
    refine XS.iloadN X_6.here hx rfl (hb hby d_jdk_33m12_22) rfl ?_
    refine XS.bipush X_6.here hx rfl (hb hby d_jdk_33m12_23) ?_
    refine XS.icmpNo X_6.here hx rfl (hb hby d_jdk_33m12_25) rfl (XT.ii_gt_f w1) ?_
    refine XS.iloadN X_6.here hx rfl (hb hby d_jdk_33m12_28) rfl ?_
    refine XS.bipush X_6.here hx rfl (hb hby d_jdk_33m12_29) ?_
    show oS pP eE below T_6 (mkF mM 31 (lc15 i idx d) [(.int (100 : Int32)), (.int ((-i) / (100 : Int32)))]) _
    refine XS.idiv X_6.here hx rfl (hb hby d_jdk_33m12_31) rfl (by decide) ?_
    refine XS.istoreN X_6.here hx rfl (hb hby d_jdk_33m12_32) rfl (l' := (lc18 i idx d)) rfl ?_
    refine XS.iloadN X_6.here hx rfl (hb hby d_jdk_33m12_33) rfl ?_
    refine XS.bipush X_6.here hx rfl (hb hby d_jdk_33m12_34) ?_
    show oS pP eE below T_6 (mkF mM 36 (lc18 i idx d) [(.int (100 : Int32)), (.int (((-i) / (100 : Int32)) / (100 : Int32)))]) _
    refine XS.imul X_6.here hx rfl (hb hby d_jdk_33m12_36) rfl ?_
    refine XS.iloadN X_6.here hx rfl (hb hby d_jdk_33m12_37) rfl ?_
    show oS pP eE below T_6 (mkF mM 38 (lc18 i idx d) [(.int ((-i) / (100 : Int32))), (.int ((((-i) / (100 : Int32)) / (100 : Int32)) * (100 : Int32)))]) _
    refine XS.isub X_6.here hx rfl (hb hby d_jdk_33m12_38) rfl ?_
    refine XS.istore X_6.here hx rfl (hb hby d_jdk_33m12_39) rfl (l' := (lc19 i idx d)) rfl ?_
    refine XS.iloadN X_6.here hx rfl (hb hby d_jdk_33m12_41) rfl ?_
    refine XS.istoreN X_6.here hx rfl (hb hby d_jdk_33m12_42) rfl (l' := (lc20 i idx d)) rfl ?_
    refine XS.aloadN X_6.here hx rfl (hb hby d_jdk_33m12_43) rfl rfl ?_
    show oS pP eE below T_6 (mkF mM 44 (lc20 i idx d) [(.ref d)]) _
    refine XS.iinc X_6.here hx rfl (hb hby d_jdk_33m12_44) rfl (l' := (lc21 i idx d)) rfl ?_
    refine XS.iload X_6.here hx rfl (hb hby d_jdk_33m12_47) rfl ?_
    show oS pP eE below T_6 (mkF mM 49 (lc21 i idx d) [(.int (((idx + (-1 : Int32)) + (-1 : Int32)) + (-1 : Int32))), (.ref d)]) _
    refine st_7 _ ?_
    show oS pP eE below T_7 (mkF mM 52 (lc21 i idx d) [(.ref o1), (.int (((idx + (-1 : Int32)) + (-1 : Int32)) + (-1 : Int32))), (.ref d)]) _
    refine XS.iload X_7.here hx rfl (hb hby d_jdk_33m12_52) rfl ?_
    show oS pP eE below T_7 (mkF mM 54 (lc21 i idx d) [(.int (((((-i) / (100 : Int32)) / (100 : Int32)) * (100 : Int32)) - ((-i) / (100 : Int32)))), (.ref o1), (.int (((idx + (-1 : Int32)) + (-1 : Int32)) + (-1 : Int32))), (.ref d)]) _
    refine X_7.baloadBytes hx (j := (((((-i) / (100 : Int32)) / (100 : Int32)) * (100 : Int32)) - ((-i) / (100 : Int32)))) (v := .int v_8) (by rw [e_7]; exact Ar_8.1) (State.isArrayOf_alike hZ.alike Ar_8.2.1) Ar_8.2.2 hin_8 hat_8 (g := (mkF mM 54 (lc21 i idx d) [(.int (((((-i) / (100 : Int32)) / (100 : Int32)) * (100 : Int32)) - ((-i) / (100 : Int32)))), (.ref o1), (.int (((idx + (-1 : Int32)) + (-1 : Int32)) + (-1 : Int32))), (.ref d)])) rfl rfl (hb hby d_jdk_33m12_54) _ ?_
    show oS pP eE below T_7 (mkF mM 55 (lc21 i idx d) [(.int v_8), (.int (((idx + (-1 : Int32)) + (-1 : Int32)) + (-1 : Int32))), (.ref d)]) _
    refine st_9 _ ?_
    show oS pP eE below T_9 (mkF mM 56 (lc21 i idx d) []) _
    refine XS.aloadN X_9.here hx rfl (hb hby d_jdk_33m12_56) rfl rfl ?_
    show oS pP eE below T_9 (mkF mM 57 (lc21 i idx d) [(.ref d)]) _
    refine XS.iinc X_9.here hx rfl (hb hby d_jdk_33m12_57) rfl (l' := (lc22 i idx d)) rfl ?_
    refine XS.iload X_9.here hx rfl (hb hby d_jdk_33m12_60) rfl ?_
    show oS pP eE below T_9 (mkF mM 62 (lc22 i idx d) [(.int ((((idx + (-1 : Int32)) + (-1 : Int32)) + (-1 : Int32)) + (-1 : Int32))), (.ref d)]) _
    refine st_10 _ ?_
    show oS pP eE below T_10 (mkF mM 65 (lc22 i idx d) [(.ref o2), (.int ((((idx + (-1 : Int32)) + (-1 : Int32)) + (-1 : Int32)) + (-1 : Int32))), (.ref d)]) _
    refine XS.iload X_10.here hx rfl (hb hby d_jdk_33m12_65) rfl ?_
    show oS pP eE below T_10 (mkF mM 67 (lc22 i idx d) [(.int (((((-i) / (100 : Int32)) / (100 : Int32)) * (100 : Int32)) - ((-i) / (100 : Int32)))), (.ref o2), (.int ((((idx + (-1 : Int32)) + (-1 : Int32)) + (-1 : Int32)) + (-1 : Int32))), (.ref d)]) _
    refine X_10.baloadBytes hx (j := (((((-i) / (100 : Int32)) / (100 : Int32)) * (100 : Int32)) - ((-i) / (100 : Int32)))) (v := .int v_11) (by rw [e_10]; exact Ar_11.1) (State.isArrayOf_alike hZ.alike Ar_11.2.1) Ar_11.2.2 hin_11 hat_11 (g := (mkF mM 67 (lc22 i idx d) [(.int (((((-i) / (100 : Int32)) / (100 : Int32)) * (100 : Int32)) - ((-i) / (100 : Int32)))), (.ref o2), (.int ((((idx + (-1 : Int32)) + (-1 : Int32)) + (-1 : Int32)) + (-1 : Int32))), (.ref d)])) rfl rfl (hb hby d_jdk_33m12_67) _ ?_
    show oS pP eE below T_10 (mkF mM 68 (lc22 i idx d) [(.int v_11), (.int ((((idx + (-1 : Int32)) + (-1 : Int32)) + (-1 : Int32)) + (-1 : Int32))), (.ref d)]) _
    refine st_12 _ ?_
    show oS pP eE below T_12 (mkF mM 69 (lc22 i idx d) []) _
    refine XS.goto X_12.here hx rfl (pc0 := 69) (pc' := 22) rfl (hb hby d_jdk_33m12_69) (by decide) (by decide) ?_
    refine XS.iloadN X_12.here hx rfl (hb hby d_jdk_33m12_22) rfl ?_
    refine XS.bipush X_12.here hx rfl (hb hby d_jdk_33m12_23) ?_
    refine XS.icmpYes X_12.here hx rfl (pc0 := 25) (pc' := 72) rfl (hb hby d_jdk_33m12_25) rfl (XT.ii_gt_t w2) (by decide) (by decide) ?_
    refine XS.aloadN X_12.here hx rfl (hb hby d_jdk_33m12_72) rfl rfl ?_
    show oS pP eE below T_12 (mkF mM 73 (lc22 i idx d) [(.ref d)]) _
    refine XS.iinc X_12.here hx rfl (hb hby d_jdk_33m12_73) rfl (l' := (lc23 i idx d)) rfl ?_
    refine XS.iload X_12.here hx rfl (hb hby d_jdk_33m12_76) rfl ?_
    show oS pP eE below T_12 (mkF mM 78 (lc23 i idx d) [(.int (((((idx + (-1 : Int32)) + (-1 : Int32)) + (-1 : Int32)) + (-1 : Int32)) + (-1 : Int32))), (.ref d)]) _
    refine st_13 _ ?_
    show oS pP eE below T_13 (mkF mM 81 (lc23 i idx d) [(.ref o1), (.int (((((idx + (-1 : Int32)) + (-1 : Int32)) + (-1 : Int32)) + (-1 : Int32)) + (-1 : Int32))), (.ref d)]) _
    refine XS.iloadN X_13.here hx rfl (hb hby d_jdk_33m12_81) rfl ?_
    show oS pP eE below T_13 (mkF mM 82 (lc23 i idx d) [(.int (((-i) / (100 : Int32)) / (100 : Int32))), (.ref o1), (.int (((((idx + (-1 : Int32)) + (-1 : Int32)) + (-1 : Int32)) + (-1 : Int32)) + (-1 : Int32))), (.ref d)]) _
    refine XS.ineg X_13.here hx rfl (hb hby d_jdk_33m12_82) rfl ?_
    show oS pP eE below T_13 (mkF mM 83 (lc23 i idx d) [(.int (-(((-i) / (100 : Int32)) / (100 : Int32)))), (.ref o1), (.int (((((idx + (-1 : Int32)) + (-1 : Int32)) + (-1 : Int32)) + (-1 : Int32)) + (-1 : Int32))), (.ref d)]) _
    refine X_13.baloadBytes hx (j := (-(((-i) / (100 : Int32)) / (100 : Int32)))) (v := .int v_14) (by rw [e_13]; exact Ar_14.1) (State.isArrayOf_alike hZ.alike Ar_14.2.1) Ar_14.2.2 hin_14 hat_14 (g := (mkF mM 83 (lc23 i idx d) [(.int (-(((-i) / (100 : Int32)) / (100 : Int32)))), (.ref o1), (.int (((((idx + (-1 : Int32)) + (-1 : Int32)) + (-1 : Int32)) + (-1 : Int32)) + (-1 : Int32))), (.ref d)])) rfl rfl (hb hby d_jdk_33m12_83) _ ?_
    show oS pP eE below T_13 (mkF mM 84 (lc23 i idx d) [(.int v_14), (.int (((((idx + (-1 : Int32)) + (-1 : Int32)) + (-1 : Int32)) + (-1 : Int32)) + (-1 : Int32))), (.ref d)]) _
    refine st_15 _ ?_
    show oS pP eE below T_15 (mkF mM 85 (lc23 i idx d) []) _
    refine XS.iloadN X_15.here hx rfl (hb hby d_jdk_33m12_85) rfl ?_
    refine XS.bipush X_15.here hx rfl (hb hby d_jdk_33m12_86) ?_
    refine XS.icmpYes X_15.here hx rfl (pc0 := 88) (pc' := 104) rfl (hb hby d_jdk_33m12_88) rfl (XT.ii_ge_t w9) (by decide) (by decide) ?_
    refine XS.iload X_15.here hx rfl (hb hby d_jdk_33m12_104) rfl ?_
    refine XS.ifYes X_15.here hx rfl (pc0 := 106) (pc' := 118) rfl (hb hby d_jdk_33m12_106) rfl (by decide) (by decide) (by decide) ?_
    refine XS.iload X_15.here hx rfl (hb hby d_jdk_33m12_118) rfl ?_
    show oS pP eE below T_15 (mkF mM 120 (lc23 i idx d) [(.int (((((idx + (-1 : Int32)) + (-1 : Int32)) + (-1 : Int32)) + (-1 : Int32)) + (-1 : Int32)))]) _
    exact retI X_15 hx Bd.returns (hb hby d_jdk_33m12_120) hr
  · show Q_gc Z i idx d L o1 o2 h0 n0 _ T_15.heap _
    rw [e_15]
    exact ⟨(((((idx + (-1 : Int32)) + (-1 : Int32)) + (-1 : Int32)) + (-1 : Int32)) + (-1 : Int32)), rfl, N_15, K_15, B_15⟩
set_option maxRecDepth 65536 in
set_option maxHeartbeats 40000000 in
theorem rm_gc (l : Launch) (Z : State) (a0 : Array Value) (hw : ∀ d ∈ tables_1, d.before a0 Z = true) (ws : List Jvm.Cond) (i : Int32) (idx : Int32) (d : Addr) (L : Int32) (o1 : Addr) (o2 : Addr) (h0 : Heap) (n0 : Nat) (Z0 : n0 ≤ h0.size) (S_Integer_DigitOnes : Sta Z h0 "java/lang/Integer" "DigitOnes" "[B" (.ref o1)) (S_Integer_DigitTens : Sta Z h0 "java/lang/Integer" "DigitTens" "[B" (.ref o2)) (B_o1 : own_B Z h0 o1 (100 : Int32)) (B_o2 : own_B Z h0 o2 (100 : Int32)) (B_d : own_B Z h0 d L) (g_d : n0 ≤ d) (n1d : o1 ≠ d) (n2d : o2 ≠ d) (hfit : own_fit i idx L) :
    MetFree l (⟨"java/lang/Integer", "getChars", "(II[B)I"⟩ : MethodName) (head1 (Jvm.Cond.code (⟨"java/lang/Integer", "getChars", "(II[B)I"⟩ : MethodName) jdk_33_method_12_code 7 (some .int) :: ws) oR2) (fun aa_ U_ => aa_ = #[(.int i), (.int idx), (.ref d)] ∧ Z.Warmed39 U_.vm ∧ U_.heap = h0) (fun _ _ _ _ _ => True) (fun _ U_ o_ U'_ => ∃ v_ L_, o_ = .returned v_ ∧ Q_gc Z i idx d L o1 o2 h0 n0 v_ U'_.heap L_ ∧ FrameEnd U_ o_ U'_ L_ oR2.cells oR2.slots) := by
  obtain ⟨hi, hf1, hf2, hf3⟩ := hfit
  by_cases z1 : i < (10 : Int32)
  · have qs : own_sz i = (1 : Int32) := by simp [own_sz, z1]
    have hk : (1 : Int) ≤ idx.toInt := by rw [qs] at hf1; exact hf1
    have ci := own_ixs1 hk hf2 hf3
    have cg := own_gk1 hi z1
    exact rm_gc_1 l Z a0 hw ws i idx d L o1 o2 h0 n0 Z0 S_Integer_DigitOnes S_Integer_DigitTens B_o1 B_o2 B_d g_d n1d n2d (own_pos hi) ci cg.1 cg.2.1 cg.2.2
  · by_cases z2 : i < (100 : Int32)
    · have qs : own_sz i = (2 : Int32) := by simp [own_sz, z1, z2]
      have hk : (2 : Int) ≤ idx.toInt := by rw [qs] at hf1; exact hf1
      have ci := own_ixs2 hk hf2 hf3
      have cg := own_gk2 hi z1 z2
      exact rm_gc_2 l Z a0 hw ws i idx d L o1 o2 h0 n0 Z0 S_Integer_DigitOnes S_Integer_DigitTens B_o1 B_o2 B_d g_d n1d n2d (own_pos hi) ci.1 ci.2 cg.1 cg.2.1 cg.2.2
    · by_cases z3 : i < (1000 : Int32)
      · have qs : own_sz i = (3 : Int32) := by simp [own_sz, z1, z2, z3]
        have hk : (3 : Int) ≤ idx.toInt := by rw [qs] at hf1; exact hf1
        have ci := own_ixs3 hk hf2 hf3
        have cg := own_gk3 hi z1 z2 z3
        exact rm_gc_3 l Z a0 hw ws i idx d L o1 o2 h0 n0 Z0 S_Integer_DigitOnes S_Integer_DigitTens B_o1 B_o2 B_d g_d n1d n2d (own_pos hi) ci.1 ci.2.1 ci.2.2 cg.1 cg.2.1 cg.2.2.1 cg.2.2.2.1 cg.2.2.2.2
      · by_cases z4 : i < (10000 : Int32)
        · have qs : own_sz i = (4 : Int32) := by simp [own_sz, z1, z2, z3, z4]
          have hk : (4 : Int) ≤ idx.toInt := by rw [qs] at hf1; exact hf1
          have ci := own_ixs4 hk hf2 hf3
          have cg := own_gk4 hi z1 z2 z3 z4
          exact rm_gc_4 l Z a0 hw ws i idx d L o1 o2 h0 n0 Z0 S_Integer_DigitOnes S_Integer_DigitTens B_o1 B_o2 B_d g_d n1d n2d (own_pos hi) ci.1 ci.2.1 ci.2.2.1 ci.2.2.2 cg.1 cg.2.1 cg.2.2.1 cg.2.2.2.1 cg.2.2.2.2
        · have qs : own_sz i = (5 : Int32) := by simp [own_sz, z1, z2, z3, z4]
          have hk : (5 : Int) ≤ idx.toInt := by rw [qs] at hf1; exact hf1
          have ci := own_ixs5 hk hf2 hf3
          have cg := own_gk5 hi z1 z2 z3 z4
          exact rm_gc_5 l Z a0 hw ws i idx d L o1 o2 h0 n0 Z0 S_Integer_DigitOnes S_Integer_DigitTens B_o1 B_o2 B_d g_d n1d n2d (own_pos hi) ci.1 ci.2.1 ci.2.2.1 ci.2.2.2.1 ci.2.2.2.2 cg.1 cg.2.1 cg.2.2.1 cg.2.2.2.1 cg.2.2.2.2.1 cg.2.2.2.2.2.1 cg.2.2.2.2.2.2
theorem d_jdk_68m32_0 : decode jdk_68_method_32_code 0 = .ok (.aload_n 0, 1) := by decide +kernel
theorem d_jdk_68m32_1 : decode jdk_68_method_32_code 1 = .ok (.getfield 79, 3) := by decide +kernel
theorem d_jdk_68m32_4 : decode jdk_68_method_32_code 4 = .ok (.istore_n 2, 1) := by decide +kernel
theorem d_jdk_68m32_5 : decode jdk_68_method_32_code 5 = .ok (.iload_n 2, 1) := by decide +kernel
theorem d_jdk_68m32_6 : decode jdk_68_method_32_code 6 = .ok (.iload_n 1, 1) := by decide +kernel
theorem d_jdk_68m32_7 : decode jdk_68_method_32_code 7 = .ok (.invokestatic 245, 3) := by decide +kernel
abbrev MN13 : MethodName := ⟨"java/lang/Integer", "stringSize", "(I)I"⟩
theorem d_jdk_68m32_10 : decode jdk_68_method_32_code 10 = .ok (.iadd, 1) := by decide +kernel
theorem d_jdk_68m32_11 : decode jdk_68_method_32_code 11 = .ok (.istore_n 3, 1) := by decide +kernel
theorem d_jdk_68m32_12 : decode jdk_68_method_32_code 12 = .ok (.aload_n 0, 1) := by decide +kernel
theorem d_jdk_68m32_13 : decode jdk_68_method_32_code 13 = .ok (.iload_n 3, 1) := by decide +kernel
theorem d_jdk_68m32_14 : decode jdk_68_method_32_code 14 = .ok (.invokevirtual 100, 3) := by decide +kernel
theorem d_jdk_68m32_17 : decode jdk_68_method_32_code 17 = .ok (.aload_n 0, 1) := by decide +kernel
theorem d_jdk_68m32_18 : decode jdk_68_method_32_code 18 = .ok (.invokevirtual 83, 3) := by decide +kernel
theorem pd_11 : parseMethodDescriptor "()Z" = some ⟨[], some .boolean⟩ := by decide +kernel
abbrev MN14 : MethodName := ⟨"java/lang/AbstractStringBuilder", "isLatin1", "()Z"⟩
theorem d_jdk_68m32_21 : decode jdk_68_method_32_code 21 = .ok (.ifCond .eq 16, 3) := by decide +kernel
theorem d_jdk_68m32_24 : decode jdk_68_method_32_code 24 = .ok (.iload_n 1, 1) := by decide +kernel
theorem d_jdk_68m32_25 : decode jdk_68_method_32_code 25 = .ok (.iload_n 3, 1) := by decide +kernel
theorem d_jdk_68m32_26 : decode jdk_68_method_32_code 26 = .ok (.aload_n 0, 1) := by decide +kernel
theorem d_jdk_68m32_27 : decode jdk_68_method_32_code 27 = .ok (.getfield 15, 3) := by decide +kernel
theorem d_jdk_68m32_30 : decode jdk_68_method_32_code 30 = .ok (.invokestatic 248, 3) := by decide +kernel
theorem pd_12 : parseMethodDescriptor "(II[B)I" = some ⟨[.int, .int, (.array .byte)], some .int⟩ := by decide +kernel
abbrev MN15 : MethodName := ⟨"java/lang/Integer", "getChars", "(II[B)I"⟩
theorem d_jdk_68m32_33 : decode jdk_68_method_32_code 33 = .ok (.pop, 1) := by decide +kernel
theorem d_jdk_68m32_34 : decode jdk_68_method_32_code 34 = .ok (.goto 14, 3) := by decide +kernel
theorem d_jdk_68m32_48 : decode jdk_68_method_32_code 48 = .ok (.aload_n 0, 1) := by decide +kernel
theorem d_jdk_68m32_49 : decode jdk_68_method_32_code 49 = .ok (.iload_n 3, 1) := by decide +kernel
theorem d_jdk_68m32_50 : decode jdk_68_method_32_code 50 = .ok (.putfield 79, 3) := by decide +kernel
theorem d_jdk_68m32_53 : decode jdk_68_method_32_code 53 = .ok (.aload_n 0, 1) := by decide +kernel
theorem d_jdk_68m32_54 : decode jdk_68_method_32_code 54 = .ok (.areturn, 1) := by decide +kernel
theorem ef_ai16 (mM : MethodId) (x0 : Addr) (x1 : Int32) : entryFrame mM #[(.ref x0), (.int x1)] 4 = mkF mM 0 #[.val (.ref x0), .val (.int x1), .unset, .unset] [] := by first | (simp [entryFrame, mkF, argsToLocals, Value.category]; done) | rfl
def Q_ai16 (Z : State) (b : Addr) (i : Int32) (d : Addr) (c : Int32) (cn : Int32) (o1 : Addr) (o2 : Addr) (cs : Int32) (h0 : Heap) (n0 : Nat) (v_ : Option Value) (h_ : Heap) (L_ : List Loc) : Prop := v_ = some (.ref b) ∧ Fr n0 L_ ∧ Keep h0 h_ [b, d] ∧ Fld Z h_ b "java/lang/AbstractStringBuilder" "value" "[B" (.ref d) ∧ Fld Z h_ b "java/lang/AbstractStringBuilder" "coder" "B" (.int (0 : Int32)) ∧ Fld Z h_ b "java/lang/AbstractStringBuilder" "count" "I" (.int cn) ∧ Exa Z h_ b "java/lang/StringBuilder" ∧ own_B Z h_ d (16 : Int32)
set_option maxRecDepth 65536 in
set_option maxHeartbeats 40000000 in
theorem rm_ai16 (l : Launch) (Z : State) (a0 : Array Value) (hw : ∀ d ∈ tables_1, d.before a0 Z = true) (ws : List Jvm.Cond) (b : Addr) (i : Int32) (d : Addr) (c : Int32) (cn : Int32) (o1 : Addr) (o2 : Addr) (cs : Int32) (h0 : Heap) (n0 : Nat) (Z0 : n0 ≤ h0.size) (F_value_b : Fld Z h0 b "java/lang/AbstractStringBuilder" "value" "[B" (.ref d)) (F_coder_b : Fld Z h0 b "java/lang/AbstractStringBuilder" "coder" "B" (.int (0 : Int32))) (F_count_b : Fld Z h0 b "java/lang/AbstractStringBuilder" "count" "I" (.int c)) (E_b : Exa Z h0 b "java/lang/StringBuilder") (g_b : n0 ≤ b) (g_d : n0 ≤ d) (S_Integer_DigitOnes : Sta Z h0 "java/lang/Integer" "DigitOnes" "[B" (.ref o1)) (S_Integer_DigitTens : Sta Z h0 "java/lang/Integer" "DigitTens" "[B" (.ref o2)) (B_o1 : own_B Z h0 o1 (100 : Int32)) (B_o2 : own_B Z h0 o2 (100 : Int32)) (n1d : o1 ≠ d) (n2d : o2 ≠ d) (hi : own_i5 i) (hcn : (c + (own_sz i)) = cn) (S_String_COMPACT_STRINGS : Sta Z h0 "java/lang/String" "COMPACT_STRINGS" "Z" (.int cs)) (hcs : ¬ cs = 0) (B_d : own_B Z h0 d (16 : Int32)) (hno : ¬ 0 < (cn - (16 : Int32))) (hfit : own_fit i cn (16 : Int32)) :
    MetFree l (⟨"java/lang/AbstractStringBuilder", "append", "(I)Ljava/lang/AbstractStringBuilder;"⟩ : MethodName) (head1 (Jvm.Cond.code (⟨"java/lang/AbstractStringBuilder", "append", "(I)Ljava/lang/AbstractStringBuilder;"⟩ : MethodName) jdk_68_method_32_code 4 (some (.object "java/lang/AbstractStringBuilder")) :: ws) oR8) (fun aa_ U_ => aa_ = #[(.ref b), (.int i)] ∧ Z.Warmed39 U_.vm ∧ U_.heap = h0) (fun _ _ _ _ _ => True) (fun _ U_ o_ U'_ => ∃ v_ L_, o_ = .returned v_ ∧ Q_ai16 Z b i d c cn o1 o2 cs h0 n0 v_ U'_.heap L_ ∧ FrameEnd U_ o_ U'_ L_ oR8.cells oR8.slots) := by
  refine MetFree.of_bodySF (plainFor_of_name pn_0) hisR ?_
  intro pP eE sS mM argsA below meth cC s₁ Bd hml0 hP hK
  obtain ⟨rfl, hZ, hh⟩ := hP
  have hx := Bd.exec
  have hby := Bd.bytes
  have hml : cC.maxLocals = 4 := hml0
  have hown : sS.vm.findClass "java/lang/AbstractStringBuilder" = some mM.cls := findClass_of_methodNamed Bd.named
  have hnm := (name_of_methodNamed Bd.named Bd.method).1
  have X0 : Stand pP l eE oR8 sS mM #[(.ref b), (.int i)] below meth cC s₁ [] 0 0 := Stand.of_body Bd
  have e0 : s₁.heap = h0 := by rw [← hh, Bd.state]; rfl
  have N0 := Fr.nil n0
  have pre0 : ∀ t_, Steps pP.tables eE below (s₁.setTop (mkF mM 0 #[.val (.ref b), .val (.int i), .unset, .unset] [])) t_ → Steps pP.tables eE below (s₁.setTop (entryFrame mM #[(.ref b), (.int i)] 4)) t_ := fun t_ k_ => castTop (ef_ai16 mM b i) k_
  obtain ⟨T_1, X_1, e_1, st_1⟩ := getF X0 hx hZ hown (host := "") (Or.inl (ow hw 72 rfl)) Via.refl e0 F_count_b (g := (mkF mM 1 #[.val (.ref b), .val (.int i), .unset, .unset] [(.ref b)])) rfl rfl (hb hby d_jdk_68m32_1)
  obtain ⟨_, _, ⟨T_2, L_2, k_2, n_2⟩, -, X_2, ⟨Lc_2, hQ_2, l_2, y_2, z_2⟩, st_2⟩ := Jvm.LawKit.callS X_1 hx (y := MN13) hown (mvT hZ (ow hw 108 rfl)) (mvT hZ (ow hw 109 rfl)) (mvT hZ (ow hw 110 rfl)) (mvT hZ (ow hw 111 rfl)) (by decide) (backOf (W := 1) (rm_ss l Z a0 hw [] i h0 n0 Z0 hi) hZ (ow hw 111 rfl) (ow hw 110 rfl) (by decide) (by decide)) (g := (mkF mM 7 #[.val (.ref b), .val (.int i), .val (.int c), .unset] [(.int i), (.int c)])) rfl (by rw [hml]; rfl) (argsL := [(.int i)]) (rest := [(.int c)]) (lenOf pd_4 rfl) rfl (by show 2 * 0 + _ ≤ _; exact Nat.le_of_eq rfl) (hb hby d_jdk_68m32_7) (fun _ _ => ⟨rfl, e_1, (by decide : 0 + 0 ≤ _), (by decide : 0 + 0 ≤ _)⟩)
  dsimp only [Pt.U, Pt.locs, Pt.cells, Pt.slots] at X_2 l_2 y_2 z_2 st_2 hQ_2
  subst l_2 y_2 z_2
  obtain ⟨rfl, N_2q, eh_2⟩ := hQ_2
  have N_2 := Fr.app N0 N_2q
  obtain ⟨cq_3, kq_3, q_3a, q_3b, q_3c⟩ := isOf hZ eh_2 E_b
  obtain ⟨_, _, ⟨T_3, L_3, k_3, n_3⟩, -, X_3, ⟨Lc_3, hQ_3, l_3, y_3, z_3⟩, st_3⟩ := X_2.virtualBack hx (y := MN10) (z := MN10) hown (mvT hZ (ow hw 74 rfl)) (own_decl (mvT hZ (ow hw 75 rfl)) (mvT hZ (ow hw 78 rfl))) (notFace_of_selects (args := #[]) (mvT hZ (ow hw 77 rfl))) (mvT hZ (ow hw 77 rfl)) (mvT hZ (ow hw 75 rfl)) (by decide) (backOf (W := 0) (rm_ens16 l Z a0 hw [] b d cn h0 n0 Z0 F_value_b F_coder_b B_d hno) hZ (ow hw 78 rfl) (ow hw 33 rfl) (by decide) (by decide)) q_3a q_3c (g := (mkF mM 14 #[.val (.ref b), .val (.int i), .val (.int c), .val (.int cn)] [(.int cn), (.ref b)])) rfl (by rw [hml]; rfl) (Steps.refl _) (argsL := [(.int cn)]) (rest := []) (lenOf pd_0 rfl) rfl (by show 2 * 0 + _ ≤ _; exact Nat.le_of_eq rfl) (hb hby d_jdk_68m32_14) (fun _ _ => ⟨rfl, eh_2, (by decide : 0 + 0 ≤ _), (by decide : 0 + 0 ≤ _)⟩)
  dsimp only [Pt.U, Pt.locs, Pt.cells, Pt.slots] at X_3 l_3 y_3 z_3 st_3 hQ_3
  subst l_3 y_3 z_3
  obtain ⟨rfl, N_3q, eh_3⟩ := hQ_3
  have N_3 := Fr.app N_2 N_3q
  obtain ⟨cq_4, kq_4, q_4a, q_4b, q_4c⟩ := isOf hZ eh_3 E_b
  obtain ⟨_, _, ⟨T_4, L_4, k_4, n_4⟩, -, X_4, ⟨Lc_4, hQ_4, l_4, y_4, z_4⟩, st_4⟩ := X_3.virtualBack hx (y := MN14) (z := MN14) hown (mvT hZ (ow hw 112 rfl)) (mvT hZ (ow hw 113 rfl)) (notFace_of_selects (args := #[]) (mvT hZ (ow hw 115 rfl))) (mvT hZ (ow hw 115 rfl)) (mvT hZ (ow hw 114 rfl)) (by decide) (backOf (W := 0) (rm_isl l Z a0 hw [] b cs h0 n0 Z0 F_coder_b S_String_COMPACT_STRINGS hcs) hZ (ow hw 116 rfl) (ow hw 33 rfl) (by decide) (by decide)) q_4a q_4c (g := (mkF mM 18 #[.val (.ref b), .val (.int i), .val (.int c), .val (.int cn)] [(.ref b)])) rfl (by rw [hml]; rfl) (Steps.refl _) (argsL := []) (rest := []) (lenOf pd_11 rfl) rfl (by show 2 * 0 + _ ≤ _; exact Nat.le_of_eq rfl) (hb hby d_jdk_68m32_18) (fun _ _ => ⟨rfl, eh_3, (by decide : 0 + 0 ≤ _), (by decide : 0 + 0 ≤ _)⟩)
  dsimp only [Pt.U, Pt.locs, Pt.cells, Pt.slots] at X_4 l_4 y_4 z_4 st_4 hQ_4
  subst l_4 y_4 z_4
  obtain ⟨rfl, N_4q, eh_4⟩ := hQ_4
  have N_4 := Fr.app N_3 N_4q
  obtain ⟨T_5, X_5, e_5, st_5⟩ := getF X_4 hx hZ hown (host := "") (Or.inl (ow hw 39 rfl)) Via.refl eh_4 F_value_b (g := (mkF mM 27 #[.val (.ref b), .val (.int i), .val (.int c), .val (.int cn)] [(.ref b), (.int cn), (.int i)])) rfl rfl (hb hby d_jdk_68m32_27)
  obtain ⟨_, _, ⟨T_6, L_6, k_6, n_6⟩, -, X_6, ⟨Lc_6, hQ_6, l_6, y_6, z_6⟩, st_6⟩ := Jvm.LawKit.callS X_5 hx (y := MN15) hown (mvT hZ (ow hw 117 rfl)) (mvT hZ (ow hw 118 rfl)) (mvT hZ (ow hw 110 rfl)) (mvT hZ (ow hw 119 rfl)) (by decide) (backOf (W := 0) (rm_gc l Z a0 hw [] i cn d (16 : Int32) o1 o2 h0 n0 Z0 S_Integer_DigitOnes S_Integer_DigitTens B_o1 B_o2 B_d g_d n1d n2d hfit) hZ (ow hw 119 rfl) (ow hw 110 rfl) (by decide) (by decide)) (g := (mkF mM 30 #[.val (.ref b), .val (.int i), .val (.int c), .val (.int cn)] [(.ref d), (.int cn), (.int i)])) rfl (by rw [hml]; rfl) (argsL := [(.int i), (.int cn), (.ref d)]) (rest := []) (lenOf pd_12 rfl) rfl (by show 2 * 0 + _ ≤ _; exact Nat.le_of_eq rfl) (hb hby d_jdk_68m32_30) (fun _ _ => ⟨rfl, e_5, (by decide : 0 + 0 ≤ _), (by decide : 0 + 0 ≤ _)⟩)
  dsimp only [Pt.U, Pt.locs, Pt.cells, Pt.slots] at X_6 l_6 y_6 z_6 st_6 hQ_6
  subst l_6 y_6 z_6
  obtain ⟨rv__6, ⟨rfl, N_6q, Kc_6, pfB_d_6⟩⟩ := hQ_6
  have Z_6 : n0 ≤ T_6.heap.size := (Nat.le_trans Z0 Kc_6.1)
  have K_6 : Keep h0 T_6.heap [b, d] := (Keep.refl h0 [b, d]).trans Kc_6 (allS (Or.inl (List.mem_of_getElem? (i := 1) rfl)) all0)
  have N_6 := Fr.app N_4 N_6q
  obtain ⟨T_7, h_7, X_7, e_7, W_7, st_7⟩ := putF X_6 hx hZ hown (host := "") (Or.inl (ow hw 72 rfl)) Via.refl rfl (F_count_b.keep Kc_6 (ninS (own_B.neE B_d E_b (ow hw 24 rfl)) nin0)) (E_b.keep Kc_6) (Or.inl (ow hw 73 rfl)) (ow hw 24 rfl) (ty := .int) (by decide) rfl rfl (g := (mkF mM 50 #[.val (.ref b), .val (.int i), .val (.int c), .val (.int cn)] [(.int cn), (.ref b)])) rfl rfl (hb hby d_jdk_68m32_50)
  have Fw_7 := (F_count_b.keep Kc_6 (ninS (own_B.neE B_d E_b (ow hw 24 rfl)) nin0)).same W_7
  have Z_7 : n0 ≤ h_7.size := (Nat.le_trans Z_6 (Keep.of_wr W_7).1)
  have K_7 : Keep h0 h_7 [b, d] := K_6.wr W_7 (Or.inl (List.mem_of_getElem? (i := 0) rfl))
  have N_7 := Fr.snoc X_7 N_6 g_b
  obtain ⟨fs, hr, hrun, hended, hW, hsame⟩ := X_7.leave (v := some (.ref b)) (fun h => by rw [Bd.returns] at h; cases h)
  refine ⟨_, _, pre0 _ ?_, hrun, hended, _, _, rfl, ?_, ⟨_, rfl⟩, hW, hsame.mono (by decide) (by decide)⟩
  · show oS pP eE below s₁ (mkF mM 0 #[.val (.ref b), .val (.int i), .unset, .unset] []) _
    refine XS.aloadN X0.here hx rfl (hb hby d_jdk_68m32_0) rfl rfl ?_
    show oS pP eE below s₁ (mkF mM 1 #[.val (.ref b), .val (.int i), .unset, .unset] [(.ref b)]) _
    refine st_1 _ ?_
    show oS pP eE below T_1 (mkF mM 4 #[.val (.ref b), .val (.int i), .unset, .unset] [(.int c)]) _
    refine XS.istoreN X_1.here hx rfl (hb hby d_jdk_68m32_4) rfl (l' := #[.val (.ref b), .val (.int i), .val (.int c), .unset]) rfl ?_
    refine XS.iloadN X_1.here hx rfl (hb hby d_jdk_68m32_5) rfl ?_
    refine XS.iloadN X_1.here hx rfl (hb hby d_jdk_68m32_6) rfl ?_
    show oS pP eE below T_1 (mkF mM 7 #[.val (.ref b), .val (.int i), .val (.int c), .unset] [(.int i), (.int c)]) _
    refine st_2 _ ?_
    show oS pP eE below T_2 (mkF mM 10 #[.val (.ref b), .val (.int i), .val (.int c), .unset] [(.int (own_sz i)), (.int c)]) _
    refine XS.iadd X_2.here hx rfl (hb hby d_jdk_68m32_10) rfl ?_
    show Steps pP.tables eE below (T_2.setTop (mkF mM 11 #[.val (.ref b), .val (.int i), .val (.int c), .unset] [(.int (c + (own_sz i)))])) _
    rw [hcn]
    refine XS.istoreN X_2.here hx rfl (hb hby d_jdk_68m32_11) rfl (l' := #[.val (.ref b), .val (.int i), .val (.int c), .val (.int cn)]) rfl ?_
    refine XS.aloadN X_2.here hx rfl (hb hby d_jdk_68m32_12) rfl rfl ?_
    refine XS.iloadN X_2.here hx rfl (hb hby d_jdk_68m32_13) rfl ?_
    show oS pP eE below T_2 (mkF mM 14 #[.val (.ref b), .val (.int i), .val (.int c), .val (.int cn)] [(.int cn), (.ref b)]) _
    refine st_3.trans ?_
    show oS pP eE below T_3 (mkF mM 17 #[.val (.ref b), .val (.int i), .val (.int c), .val (.int cn)] []) _
    refine XS.aloadN X_3.here hx rfl (hb hby d_jdk_68m32_17) rfl rfl ?_
    show oS pP eE below T_3 (mkF mM 18 #[.val (.ref b), .val (.int i), .val (.int c), .val (.int cn)] [(.ref b)]) _
    refine st_4.trans ?_
    show oS pP eE below T_4 (mkF mM 21 #[.val (.ref b), .val (.int i), .val (.int c), .val (.int cn)] [(.int (1 : Int32))]) _
    refine XS.ifNo X_4.here hx rfl (hb hby d_jdk_68m32_21) rfl (by decide) ?_
    refine XS.iloadN X_4.here hx rfl (hb hby d_jdk_68m32_24) rfl ?_
    refine XS.iloadN X_4.here hx rfl (hb hby d_jdk_68m32_25) rfl ?_
    refine XS.aloadN X_4.here hx rfl (hb hby d_jdk_68m32_26) rfl rfl ?_
    show oS pP eE below T_4 (mkF mM 27 #[.val (.ref b), .val (.int i), .val (.int c), .val (.int cn)] [(.ref b), (.int cn), (.int i)]) _
    refine st_5 _ ?_
    show oS pP eE below T_5 (mkF mM 30 #[.val (.ref b), .val (.int i), .val (.int c), .val (.int cn)] [(.ref d), (.int cn), (.int i)]) _
    refine st_6 _ ?_
    show oS pP eE below T_6 (mkF mM 33 #[.val (.ref b), .val (.int i), .val (.int c), .val (.int cn)] [(.int rv__6)]) _
    refine XT.pop X_6.here hx rfl (hb hby d_jdk_68m32_33) rfl rfl ?_
    refine XS.goto X_6.here hx rfl (pc0 := 34) (pc' := 48) rfl (hb hby d_jdk_68m32_34) (by decide) (by decide) ?_
    refine XS.aloadN X_6.here hx rfl (hb hby d_jdk_68m32_48) rfl rfl ?_
    refine XS.iloadN X_6.here hx rfl (hb hby d_jdk_68m32_49) rfl ?_
    show oS pP eE below T_6 (mkF mM 50 #[.val (.ref b), .val (.int i), .val (.int c), .val (.int cn)] [(.int cn), (.ref b)]) _
    refine st_7 _ ?_
    show oS pP eE below T_7 (mkF mM 53 #[.val (.ref b), .val (.int i), .val (.int c), .val (.int cn)] []) _
    refine XS.aloadN X_7.here hx rfl (hb hby d_jdk_68m32_53) rfl rfl ?_
    show oS pP eE below T_7 (mkF mM 54 #[.val (.ref b), .val (.int i), .val (.int c), .val (.int cn)] [(.ref b)]) _
    exact retOut X_7 hx Bd.returns rfl (Or.inr (Or.inr (Or.inr (Or.inr ⟨rfl, rfl, rfl⟩)))) (hb hby d_jdk_68m32_54) hr
  · show Q_ai16 Z b i d c cn o1 o2 cs h0 n0 _ T_7.heap _
    rw [e_7]
    exact ⟨rfl, N_7, K_7, ((F_value_b.keep Kc_6 (ninS (own_B.neE B_d E_b (ow hw 24 rfl)) nin0)).other W_7 (Or.inr (slot_ne (Or.inl (ow hw 40 rfl)) (Or.inl (ow hw 73 rfl)) (by decide) (t := (.array .byte)) (t' := .int) (by decide) (by decide)))), ((F_coder_b.keep Kc_6 (ninS (own_B.neE B_d E_b (ow hw 24 rfl)) nin0)).other W_7 (Or.inr (slot_ne (Or.inl (ow hw 42 rfl)) (Or.inl (ow hw 73 rfl)) (by decide) (t := .byte) (t' := .int) (by decide) (by decide)))), Fw_7, ((E_b.keep Kc_6).wr W_7), (pfB_d_6.other W_7 (Ne.symm (own_B.neE B_d E_b (ow hw 24 rfl))))⟩
theorem ef_ai34 (mM : MethodId) (x0 : Addr) (x1 : Int32) : entryFrame mM #[(.ref x0), (.int x1)] 4 = mkF mM 0 #[.val (.ref x0), .val (.int x1), .unset, .unset] [] := by first | (simp [entryFrame, mkF, argsToLocals, Value.category]; done) | rfl
def Q_ai34 (Z : State) (b : Addr) (i : Int32) (d : Addr) (c : Int32) (cn : Int32) (o1 : Addr) (o2 : Addr) (cs : Int32) (h0 : Heap) (n0 : Nat) (v_ : Option Value) (h_ : Heap) (L_ : List Loc) : Prop := v_ = some (.ref b) ∧ Fr n0 L_ ∧ Keep h0 h_ [b, d] ∧ Fld Z h_ b "java/lang/AbstractStringBuilder" "value" "[B" (.ref d) ∧ Fld Z h_ b "java/lang/AbstractStringBuilder" "coder" "B" (.int (0 : Int32)) ∧ Fld Z h_ b "java/lang/AbstractStringBuilder" "count" "I" (.int cn) ∧ Exa Z h_ b "java/lang/StringBuilder" ∧ own_B Z h_ d (34 : Int32)
set_option maxRecDepth 65536 in
set_option maxHeartbeats 40000000 in
theorem rm_ai34 (l : Launch) (Z : State) (a0 : Array Value) (hw : ∀ d ∈ tables_1, d.before a0 Z = true) (ws : List Jvm.Cond) (b : Addr) (i : Int32) (d : Addr) (c : Int32) (cn : Int32) (o1 : Addr) (o2 : Addr) (cs : Int32) (h0 : Heap) (n0 : Nat) (Z0 : n0 ≤ h0.size) (F_value_b : Fld Z h0 b "java/lang/AbstractStringBuilder" "value" "[B" (.ref d)) (F_coder_b : Fld Z h0 b "java/lang/AbstractStringBuilder" "coder" "B" (.int (0 : Int32))) (F_count_b : Fld Z h0 b "java/lang/AbstractStringBuilder" "count" "I" (.int c)) (E_b : Exa Z h0 b "java/lang/StringBuilder") (g_b : n0 ≤ b) (g_d : n0 ≤ d) (S_Integer_DigitOnes : Sta Z h0 "java/lang/Integer" "DigitOnes" "[B" (.ref o1)) (S_Integer_DigitTens : Sta Z h0 "java/lang/Integer" "DigitTens" "[B" (.ref o2)) (B_o1 : own_B Z h0 o1 (100 : Int32)) (B_o2 : own_B Z h0 o2 (100 : Int32)) (n1d : o1 ≠ d) (n2d : o2 ≠ d) (hi : own_i5 i) (hcn : (c + (own_sz i)) = cn) (S_String_COMPACT_STRINGS : Sta Z h0 "java/lang/String" "COMPACT_STRINGS" "Z" (.int cs)) (hcs : ¬ cs = 0) (B_d : own_B Z h0 d (34 : Int32)) (hno : ¬ 0 < (cn - (34 : Int32))) (hfit : own_fit i cn (34 : Int32)) :
    MetFree l (⟨"java/lang/AbstractStringBuilder", "append", "(I)Ljava/lang/AbstractStringBuilder;"⟩ : MethodName) (head1 (Jvm.Cond.code (⟨"java/lang/AbstractStringBuilder", "append", "(I)Ljava/lang/AbstractStringBuilder;"⟩ : MethodName) jdk_68_method_32_code 4 (some (.object "java/lang/AbstractStringBuilder")) :: ws) oR8) (fun aa_ U_ => aa_ = #[(.ref b), (.int i)] ∧ Z.Warmed39 U_.vm ∧ U_.heap = h0) (fun _ _ _ _ _ => True) (fun _ U_ o_ U'_ => ∃ v_ L_, o_ = .returned v_ ∧ Q_ai34 Z b i d c cn o1 o2 cs h0 n0 v_ U'_.heap L_ ∧ FrameEnd U_ o_ U'_ L_ oR8.cells oR8.slots) := by
  refine MetFree.of_bodySF (plainFor_of_name pn_0) hisR ?_
  intro pP eE sS mM argsA below meth cC s₁ Bd hml0 hP hK
  obtain ⟨rfl, hZ, hh⟩ := hP
  have hx := Bd.exec
  have hby := Bd.bytes
  have hml : cC.maxLocals = 4 := hml0
  have hown : sS.vm.findClass "java/lang/AbstractStringBuilder" = some mM.cls := findClass_of_methodNamed Bd.named
  have hnm := (name_of_methodNamed Bd.named Bd.method).1
  have X0 : Stand pP l eE oR8 sS mM #[(.ref b), (.int i)] below meth cC s₁ [] 0 0 := Stand.of_body Bd
  have e0 : s₁.heap = h0 := by rw [← hh, Bd.state]; rfl
  have N0 := Fr.nil n0
  have pre0 : ∀ t_, Steps pP.tables eE below (s₁.setTop (mkF mM 0 #[.val (.ref b), .val (.int i), .unset, .unset] [])) t_ → Steps pP.tables eE below (s₁.setTop (entryFrame mM #[(.ref b), (.int i)] 4)) t_ := fun t_ k_ => castTop (ef_ai34 mM b i) k_
  obtain ⟨T_1, X_1, e_1, st_1⟩ := getF X0 hx hZ hown (host := "") (Or.inl (ow hw 72 rfl)) Via.refl e0 F_count_b (g := (mkF mM 1 #[.val (.ref b), .val (.int i), .unset, .unset] [(.ref b)])) rfl rfl (hb hby d_jdk_68m32_1)
  obtain ⟨_, _, ⟨T_2, L_2, k_2, n_2⟩, -, X_2, ⟨Lc_2, hQ_2, l_2, y_2, z_2⟩, st_2⟩ := Jvm.LawKit.callS X_1 hx (y := MN13) hown (mvT hZ (ow hw 108 rfl)) (mvT hZ (ow hw 109 rfl)) (mvT hZ (ow hw 110 rfl)) (mvT hZ (ow hw 111 rfl)) (by decide) (backOf (W := 1) (rm_ss l Z a0 hw [] i h0 n0 Z0 hi) hZ (ow hw 111 rfl) (ow hw 110 rfl) (by decide) (by decide)) (g := (mkF mM 7 #[.val (.ref b), .val (.int i), .val (.int c), .unset] [(.int i), (.int c)])) rfl (by rw [hml]; rfl) (argsL := [(.int i)]) (rest := [(.int c)]) (lenOf pd_4 rfl) rfl (by show 2 * 0 + _ ≤ _; exact Nat.le_of_eq rfl) (hb hby d_jdk_68m32_7) (fun _ _ => ⟨rfl, e_1, (by decide : 0 + 0 ≤ _), (by decide : 0 + 0 ≤ _)⟩)
  dsimp only [Pt.U, Pt.locs, Pt.cells, Pt.slots] at X_2 l_2 y_2 z_2 st_2 hQ_2
  subst l_2 y_2 z_2
  obtain ⟨rfl, N_2q, eh_2⟩ := hQ_2
  have N_2 := Fr.app N0 N_2q
  obtain ⟨cq_3, kq_3, q_3a, q_3b, q_3c⟩ := isOf hZ eh_2 E_b
  obtain ⟨_, _, ⟨T_3, L_3, k_3, n_3⟩, -, X_3, ⟨Lc_3, hQ_3, l_3, y_3, z_3⟩, st_3⟩ := X_2.virtualBack hx (y := MN10) (z := MN10) hown (mvT hZ (ow hw 74 rfl)) (own_decl (mvT hZ (ow hw 75 rfl)) (mvT hZ (ow hw 78 rfl))) (notFace_of_selects (args := #[]) (mvT hZ (ow hw 77 rfl))) (mvT hZ (ow hw 77 rfl)) (mvT hZ (ow hw 75 rfl)) (by decide) (backOf (W := 0) (rm_ens34 l Z a0 hw [] b d cn h0 n0 Z0 F_value_b F_coder_b B_d hno) hZ (ow hw 78 rfl) (ow hw 33 rfl) (by decide) (by decide)) q_3a q_3c (g := (mkF mM 14 #[.val (.ref b), .val (.int i), .val (.int c), .val (.int cn)] [(.int cn), (.ref b)])) rfl (by rw [hml]; rfl) (Steps.refl _) (argsL := [(.int cn)]) (rest := []) (lenOf pd_0 rfl) rfl (by show 2 * 0 + _ ≤ _; exact Nat.le_of_eq rfl) (hb hby d_jdk_68m32_14) (fun _ _ => ⟨rfl, eh_2, (by decide : 0 + 0 ≤ _), (by decide : 0 + 0 ≤ _)⟩)
  dsimp only [Pt.U, Pt.locs, Pt.cells, Pt.slots] at X_3 l_3 y_3 z_3 st_3 hQ_3
  subst l_3 y_3 z_3
  obtain ⟨rfl, N_3q, eh_3⟩ := hQ_3
  have N_3 := Fr.app N_2 N_3q
  obtain ⟨cq_4, kq_4, q_4a, q_4b, q_4c⟩ := isOf hZ eh_3 E_b
  obtain ⟨_, _, ⟨T_4, L_4, k_4, n_4⟩, -, X_4, ⟨Lc_4, hQ_4, l_4, y_4, z_4⟩, st_4⟩ := X_3.virtualBack hx (y := MN14) (z := MN14) hown (mvT hZ (ow hw 112 rfl)) (mvT hZ (ow hw 113 rfl)) (notFace_of_selects (args := #[]) (mvT hZ (ow hw 115 rfl))) (mvT hZ (ow hw 115 rfl)) (mvT hZ (ow hw 114 rfl)) (by decide) (backOf (W := 0) (rm_isl l Z a0 hw [] b cs h0 n0 Z0 F_coder_b S_String_COMPACT_STRINGS hcs) hZ (ow hw 116 rfl) (ow hw 33 rfl) (by decide) (by decide)) q_4a q_4c (g := (mkF mM 18 #[.val (.ref b), .val (.int i), .val (.int c), .val (.int cn)] [(.ref b)])) rfl (by rw [hml]; rfl) (Steps.refl _) (argsL := []) (rest := []) (lenOf pd_11 rfl) rfl (by show 2 * 0 + _ ≤ _; exact Nat.le_of_eq rfl) (hb hby d_jdk_68m32_18) (fun _ _ => ⟨rfl, eh_3, (by decide : 0 + 0 ≤ _), (by decide : 0 + 0 ≤ _)⟩)
  dsimp only [Pt.U, Pt.locs, Pt.cells, Pt.slots] at X_4 l_4 y_4 z_4 st_4 hQ_4
  subst l_4 y_4 z_4
  obtain ⟨rfl, N_4q, eh_4⟩ := hQ_4
  have N_4 := Fr.app N_3 N_4q
  obtain ⟨T_5, X_5, e_5, st_5⟩ := getF X_4 hx hZ hown (host := "") (Or.inl (ow hw 39 rfl)) Via.refl eh_4 F_value_b (g := (mkF mM 27 #[.val (.ref b), .val (.int i), .val (.int c), .val (.int cn)] [(.ref b), (.int cn), (.int i)])) rfl rfl (hb hby d_jdk_68m32_27)
  obtain ⟨_, _, ⟨T_6, L_6, k_6, n_6⟩, -, X_6, ⟨Lc_6, hQ_6, l_6, y_6, z_6⟩, st_6⟩ := Jvm.LawKit.callS X_5 hx (y := MN15) hown (mvT hZ (ow hw 117 rfl)) (mvT hZ (ow hw 118 rfl)) (mvT hZ (ow hw 110 rfl)) (mvT hZ (ow hw 119 rfl)) (by decide) (backOf (W := 0) (rm_gc l Z a0 hw [] i cn d (34 : Int32) o1 o2 h0 n0 Z0 S_Integer_DigitOnes S_Integer_DigitTens B_o1 B_o2 B_d g_d n1d n2d hfit) hZ (ow hw 119 rfl) (ow hw 110 rfl) (by decide) (by decide)) (g := (mkF mM 30 #[.val (.ref b), .val (.int i), .val (.int c), .val (.int cn)] [(.ref d), (.int cn), (.int i)])) rfl (by rw [hml]; rfl) (argsL := [(.int i), (.int cn), (.ref d)]) (rest := []) (lenOf pd_12 rfl) rfl (by show 2 * 0 + _ ≤ _; exact Nat.le_of_eq rfl) (hb hby d_jdk_68m32_30) (fun _ _ => ⟨rfl, e_5, (by decide : 0 + 0 ≤ _), (by decide : 0 + 0 ≤ _)⟩)
  dsimp only [Pt.U, Pt.locs, Pt.cells, Pt.slots] at X_6 l_6 y_6 z_6 st_6 hQ_6
  subst l_6 y_6 z_6
  obtain ⟨rv__6, ⟨rfl, N_6q, Kc_6, pfB_d_6⟩⟩ := hQ_6
  have Z_6 : n0 ≤ T_6.heap.size := (Nat.le_trans Z0 Kc_6.1)
  have K_6 : Keep h0 T_6.heap [b, d] := (Keep.refl h0 [b, d]).trans Kc_6 (allS (Or.inl (List.mem_of_getElem? (i := 1) rfl)) all0)
  have N_6 := Fr.app N_4 N_6q
  obtain ⟨T_7, h_7, X_7, e_7, W_7, st_7⟩ := putF X_6 hx hZ hown (host := "") (Or.inl (ow hw 72 rfl)) Via.refl rfl (F_count_b.keep Kc_6 (ninS (own_B.neE B_d E_b (ow hw 24 rfl)) nin0)) (E_b.keep Kc_6) (Or.inl (ow hw 73 rfl)) (ow hw 24 rfl) (ty := .int) (by decide) rfl rfl (g := (mkF mM 50 #[.val (.ref b), .val (.int i), .val (.int c), .val (.int cn)] [(.int cn), (.ref b)])) rfl rfl (hb hby d_jdk_68m32_50)
  have Fw_7 := (F_count_b.keep Kc_6 (ninS (own_B.neE B_d E_b (ow hw 24 rfl)) nin0)).same W_7
  have Z_7 : n0 ≤ h_7.size := (Nat.le_trans Z_6 (Keep.of_wr W_7).1)
  have K_7 : Keep h0 h_7 [b, d] := K_6.wr W_7 (Or.inl (List.mem_of_getElem? (i := 0) rfl))
  have N_7 := Fr.snoc X_7 N_6 g_b
  obtain ⟨fs, hr, hrun, hended, hW, hsame⟩ := X_7.leave (v := some (.ref b)) (fun h => by rw [Bd.returns] at h; cases h)
  refine ⟨_, _, pre0 _ ?_, hrun, hended, _, _, rfl, ?_, ⟨_, rfl⟩, hW, hsame.mono (by decide) (by decide)⟩
  · show oS pP eE below s₁ (mkF mM 0 #[.val (.ref b), .val (.int i), .unset, .unset] []) _
    refine XS.aloadN X0.here hx rfl (hb hby d_jdk_68m32_0) rfl rfl ?_
    show oS pP eE below s₁ (mkF mM 1 #[.val (.ref b), .val (.int i), .unset, .unset] [(.ref b)]) _
    refine st_1 _ ?_
    show oS pP eE below T_1 (mkF mM 4 #[.val (.ref b), .val (.int i), .unset, .unset] [(.int c)]) _
    refine XS.istoreN X_1.here hx rfl (hb hby d_jdk_68m32_4) rfl (l' := #[.val (.ref b), .val (.int i), .val (.int c), .unset]) rfl ?_
    refine XS.iloadN X_1.here hx rfl (hb hby d_jdk_68m32_5) rfl ?_
    refine XS.iloadN X_1.here hx rfl (hb hby d_jdk_68m32_6) rfl ?_
    show oS pP eE below T_1 (mkF mM 7 #[.val (.ref b), .val (.int i), .val (.int c), .unset] [(.int i), (.int c)]) _
    refine st_2 _ ?_
    show oS pP eE below T_2 (mkF mM 10 #[.val (.ref b), .val (.int i), .val (.int c), .unset] [(.int (own_sz i)), (.int c)]) _
    refine XS.iadd X_2.here hx rfl (hb hby d_jdk_68m32_10) rfl ?_
    show Steps pP.tables eE below (T_2.setTop (mkF mM 11 #[.val (.ref b), .val (.int i), .val (.int c), .unset] [(.int (c + (own_sz i)))])) _
    rw [hcn]
    refine XS.istoreN X_2.here hx rfl (hb hby d_jdk_68m32_11) rfl (l' := #[.val (.ref b), .val (.int i), .val (.int c), .val (.int cn)]) rfl ?_
    refine XS.aloadN X_2.here hx rfl (hb hby d_jdk_68m32_12) rfl rfl ?_
    refine XS.iloadN X_2.here hx rfl (hb hby d_jdk_68m32_13) rfl ?_
    show oS pP eE below T_2 (mkF mM 14 #[.val (.ref b), .val (.int i), .val (.int c), .val (.int cn)] [(.int cn), (.ref b)]) _
    refine st_3.trans ?_
    show oS pP eE below T_3 (mkF mM 17 #[.val (.ref b), .val (.int i), .val (.int c), .val (.int cn)] []) _
    refine XS.aloadN X_3.here hx rfl (hb hby d_jdk_68m32_17) rfl rfl ?_
    show oS pP eE below T_3 (mkF mM 18 #[.val (.ref b), .val (.int i), .val (.int c), .val (.int cn)] [(.ref b)]) _
    refine st_4.trans ?_
    show oS pP eE below T_4 (mkF mM 21 #[.val (.ref b), .val (.int i), .val (.int c), .val (.int cn)] [(.int (1 : Int32))]) _
    refine XS.ifNo X_4.here hx rfl (hb hby d_jdk_68m32_21) rfl (by decide) ?_
    refine XS.iloadN X_4.here hx rfl (hb hby d_jdk_68m32_24) rfl ?_
    refine XS.iloadN X_4.here hx rfl (hb hby d_jdk_68m32_25) rfl ?_
    refine XS.aloadN X_4.here hx rfl (hb hby d_jdk_68m32_26) rfl rfl ?_
    show oS pP eE below T_4 (mkF mM 27 #[.val (.ref b), .val (.int i), .val (.int c), .val (.int cn)] [(.ref b), (.int cn), (.int i)]) _
    refine st_5 _ ?_
    show oS pP eE below T_5 (mkF mM 30 #[.val (.ref b), .val (.int i), .val (.int c), .val (.int cn)] [(.ref d), (.int cn), (.int i)]) _
    refine st_6 _ ?_
    show oS pP eE below T_6 (mkF mM 33 #[.val (.ref b), .val (.int i), .val (.int c), .val (.int cn)] [(.int rv__6)]) _
    refine XT.pop X_6.here hx rfl (hb hby d_jdk_68m32_33) rfl rfl ?_
    refine XS.goto X_6.here hx rfl (pc0 := 34) (pc' := 48) rfl (hb hby d_jdk_68m32_34) (by decide) (by decide) ?_
    refine XS.aloadN X_6.here hx rfl (hb hby d_jdk_68m32_48) rfl rfl ?_
    refine XS.iloadN X_6.here hx rfl (hb hby d_jdk_68m32_49) rfl ?_
    show oS pP eE below T_6 (mkF mM 50 #[.val (.ref b), .val (.int i), .val (.int c), .val (.int cn)] [(.int cn), (.ref b)]) _
    refine st_7 _ ?_
    show oS pP eE below T_7 (mkF mM 53 #[.val (.ref b), .val (.int i), .val (.int c), .val (.int cn)] []) _
    refine XS.aloadN X_7.here hx rfl (hb hby d_jdk_68m32_53) rfl rfl ?_
    show oS pP eE below T_7 (mkF mM 54 #[.val (.ref b), .val (.int i), .val (.int c), .val (.int cn)] [(.ref b)]) _
    exact retOut X_7 hx Bd.returns rfl (Or.inr (Or.inr (Or.inr (Or.inr ⟨rfl, rfl, rfl⟩)))) (hb hby d_jdk_68m32_54) hr
  · show Q_ai34 Z b i d c cn o1 o2 cs h0 n0 _ T_7.heap _
    rw [e_7]
    exact ⟨rfl, N_7, K_7, ((F_value_b.keep Kc_6 (ninS (own_B.neE B_d E_b (ow hw 24 rfl)) nin0)).other W_7 (Or.inr (slot_ne (Or.inl (ow hw 40 rfl)) (Or.inl (ow hw 73 rfl)) (by decide) (t := (.array .byte)) (t' := .int) (by decide) (by decide)))), ((F_coder_b.keep Kc_6 (ninS (own_B.neE B_d E_b (ow hw 24 rfl)) nin0)).other W_7 (Or.inr (slot_ne (Or.inl (ow hw 42 rfl)) (Or.inl (ow hw 73 rfl)) (by decide) (t := .byte) (t' := .int) (by decide) (by decide)))), Fw_7, ((E_b.keep Kc_6).wr W_7), (pfB_d_6.other W_7 (Ne.symm (own_B.neE B_d E_b (ow hw 24 rfl))))⟩
theorem ef_aiG (mM : MethodId) (x0 : Addr) (x1 : Int32) : entryFrame mM #[(.ref x0), (.int x1)] 4 = mkF mM 0 #[.val (.ref x0), .val (.int x1), .unset, .unset] [] := by first | (simp [entryFrame, mkF, argsToLocals, Value.category]; done) | rfl
def Q_aiG (Z : State) (b : Addr) (i : Int32) (d : Addr) (c : Int32) (cn : Int32) (o1 : Addr) (o2 : Addr) (cs : Int32) (h0 : Heap) (n0 : Nat) (v_ : Option Value) (h_ : Heap) (L_ : List Loc) : Prop := ∃ d2 : Addr, v_ = some (.ref b) ∧ Fr n0 L_ ∧ Keep h0 h_ [b] ∧ h0.size ≤ d2 ∧ Fld Z h_ b "java/lang/AbstractStringBuilder" "value" "[B" (.ref d2) ∧ Fld Z h_ b "java/lang/AbstractStringBuilder" "coder" "B" (.int (0 : Int32)) ∧ Fld Z h_ b "java/lang/AbstractStringBuilder" "count" "I" (.int cn) ∧ Exa Z h_ b "java/lang/StringBuilder" ∧ own_B Z h_ d2 (34 : Int32)
set_option maxRecDepth 65536 in
set_option maxHeartbeats 40000000 in
theorem rm_aiG (l : Launch) (Z : State) (a0 : Array Value) (hw : ∀ d ∈ tables_1, d.before a0 Z = true) (ws : List Jvm.Cond) (b : Addr) (i : Int32) (d : Addr) (c : Int32) (cn : Int32) (o1 : Addr) (o2 : Addr) (cs : Int32) (h0 : Heap) (n0 : Nat) (Z0 : n0 ≤ h0.size) (F_value_b : Fld Z h0 b "java/lang/AbstractStringBuilder" "value" "[B" (.ref d)) (F_coder_b : Fld Z h0 b "java/lang/AbstractStringBuilder" "coder" "B" (.int (0 : Int32))) (F_count_b : Fld Z h0 b "java/lang/AbstractStringBuilder" "count" "I" (.int c)) (E_b : Exa Z h0 b "java/lang/StringBuilder") (g_b : n0 ≤ b) (g_d : n0 ≤ d) (S_Integer_DigitOnes : Sta Z h0 "java/lang/Integer" "DigitOnes" "[B" (.ref o1)) (S_Integer_DigitTens : Sta Z h0 "java/lang/Integer" "DigitTens" "[B" (.ref o2)) (B_o1 : own_B Z h0 o1 (100 : Int32)) (B_o2 : own_B Z h0 o2 (100 : Int32)) (n1d : o1 ≠ d) (n2d : o2 ≠ d) (hi : own_i5 i) (hcn : (c + (own_sz i)) = cn) (S_String_COMPACT_STRINGS : Sta Z h0 "java/lang/String" "COMPACT_STRINGS" "Z" (.int cs)) (hcs : ¬ cs = 0) (B_d : own_B Z h0 d (16 : Int32)) (hgt : 0 < (cn - (16 : Int32))) (hlt : (cn - (16 : Int32)) < (18 : Int32)) (hfit : own_fit i cn (34 : Int32)) :
    MetFree l (⟨"java/lang/AbstractStringBuilder", "append", "(I)Ljava/lang/AbstractStringBuilder;"⟩ : MethodName) (head1 (Jvm.Cond.code (⟨"java/lang/AbstractStringBuilder", "append", "(I)Ljava/lang/AbstractStringBuilder;"⟩ : MethodName) jdk_68_method_32_code 4 (some (.object "java/lang/AbstractStringBuilder")) :: ws) oR11) (fun aa_ U_ => aa_ = #[(.ref b), (.int i)] ∧ Z.Warmed39 U_.vm ∧ U_.heap = h0) (fun _ _ _ _ _ => True) (fun _ U_ o_ U'_ => ∃ v_ L_, o_ = .returned v_ ∧ Q_aiG Z b i d c cn o1 o2 cs h0 n0 v_ U'_.heap L_ ∧ FrameEnd U_ o_ U'_ L_ oR11.cells oR11.slots) := by
  refine MetFree.of_bodySF (plainFor_of_name pn_0) hisR ?_
  intro pP eE sS mM argsA below meth cC s₁ Bd hml0 hP hK
  obtain ⟨rfl, hZ, hh⟩ := hP
  have hx := Bd.exec
  have hby := Bd.bytes
  have hml : cC.maxLocals = 4 := hml0
  have hown : sS.vm.findClass "java/lang/AbstractStringBuilder" = some mM.cls := findClass_of_methodNamed Bd.named
  have hnm := (name_of_methodNamed Bd.named Bd.method).1
  have X0 : Stand pP l eE oR11 sS mM #[(.ref b), (.int i)] below meth cC s₁ [] 0 0 := Stand.of_body Bd
  have e0 : s₁.heap = h0 := by rw [← hh, Bd.state]; rfl
  have N0 := Fr.nil n0
  have pre0 : ∀ t_, Steps pP.tables eE below (s₁.setTop (mkF mM 0 #[.val (.ref b), .val (.int i), .unset, .unset] [])) t_ → Steps pP.tables eE below (s₁.setTop (entryFrame mM #[(.ref b), (.int i)] 4)) t_ := fun t_ k_ => castTop (ef_aiG mM b i) k_
  obtain ⟨T_1, X_1, e_1, st_1⟩ := getF X0 hx hZ hown (host := "") (Or.inl (ow hw 72 rfl)) Via.refl e0 F_count_b (g := (mkF mM 1 #[.val (.ref b), .val (.int i), .unset, .unset] [(.ref b)])) rfl rfl (hb hby d_jdk_68m32_1)
  obtain ⟨_, _, ⟨T_2, L_2, k_2, n_2⟩, -, X_2, ⟨Lc_2, hQ_2, l_2, y_2, z_2⟩, st_2⟩ := Jvm.LawKit.callS X_1 hx (y := MN13) hown (mvT hZ (ow hw 108 rfl)) (mvT hZ (ow hw 109 rfl)) (mvT hZ (ow hw 110 rfl)) (mvT hZ (ow hw 111 rfl)) (by decide) (backOf (W := 1) (rm_ss l Z a0 hw [] i h0 n0 Z0 hi) hZ (ow hw 111 rfl) (ow hw 110 rfl) (by decide) (by decide)) (g := (mkF mM 7 #[.val (.ref b), .val (.int i), .val (.int c), .unset] [(.int i), (.int c)])) rfl (by rw [hml]; rfl) (argsL := [(.int i)]) (rest := [(.int c)]) (lenOf pd_4 rfl) rfl (by show 2 * 0 + _ ≤ _; exact Nat.le_of_eq rfl) (hb hby d_jdk_68m32_7) (fun _ _ => ⟨rfl, e_1, (by decide : 0 + 0 ≤ _), (by decide : 0 + 0 ≤ _)⟩)
  dsimp only [Pt.U, Pt.locs, Pt.cells, Pt.slots] at X_2 l_2 y_2 z_2 st_2 hQ_2
  subst l_2 y_2 z_2
  obtain ⟨rfl, N_2q, eh_2⟩ := hQ_2
  have N_2 := Fr.app N0 N_2q
  obtain ⟨cq_3, kq_3, q_3a, q_3b, q_3c⟩ := isOf hZ eh_2 E_b
  obtain ⟨_, _, ⟨T_3, L_3, k_3, n_3⟩, -, X_3, ⟨Lc_3, hQ_3, l_3, y_3, z_3⟩, st_3⟩ := X_2.virtualBack hx (y := MN10) (z := MN10) hown (mvT hZ (ow hw 74 rfl)) (own_decl (mvT hZ (ow hw 75 rfl)) (mvT hZ (ow hw 78 rfl))) (notFace_of_selects (args := #[]) (mvT hZ (ow hw 77 rfl))) (mvT hZ (ow hw 77 rfl)) (mvT hZ (ow hw 75 rfl)) (by decide) (backOf (W := 0) (rm_ensG l Z a0 hw [] b d cn c h0 n0 Z0 F_value_b F_coder_b F_count_b E_b g_b B_d hgt hlt) hZ (ow hw 78 rfl) (ow hw 33 rfl) (by decide) (by decide)) q_3a q_3c (g := (mkF mM 14 #[.val (.ref b), .val (.int i), .val (.int c), .val (.int cn)] [(.int cn), (.ref b)])) rfl (by rw [hml]; rfl) (Steps.refl _) (argsL := [(.int cn)]) (rest := []) (lenOf pd_0 rfl) rfl (by show 2 * 0 + _ ≤ _; exact Nat.le_of_eq rfl) (hb hby d_jdk_68m32_14) (fun _ _ => ⟨rfl, eh_2, (by decide : 0 + 1 ≤ _), (by decide : 0 + 34 ≤ _)⟩)
  dsimp only [Pt.U, Pt.locs, Pt.cells, Pt.slots] at X_3 l_3 y_3 z_3 st_3 hQ_3
  subst l_3 y_3 z_3
  obtain ⟨d2__3, ⟨rfl, N_3q, Kc_3, pfsz_d2_3, pfF_value_b_3, pfF_coder_b_3, pfF_count_b_3, pfE_b_3, pfB_d2_3⟩⟩ := hQ_3
  have Z_3 : n0 ≤ T_3.heap.size := (Nat.le_trans Z0 Kc_3.1)
  have K_3 : Keep h0 T_3.heap [b] := (Keep.refl h0 [b]).trans Kc_3 (allS (Or.inl (List.mem_of_getElem? (i := 0) rfl)) all0)
  have sz_d2__3 : h0.size ≤ d2__3 := Nat.le_trans (Keep.refl h0 [b]).1 pfsz_d2_3
  have g_d2__3 : n0 ≤ d2__3 := Nat.le_trans Z0 pfsz_d2_3
  have N_3 := Fr.app N_2 N_3q
  have St_1_14 := (own_sta_keep S_String_COMPACT_STRINGS Kc_3 (allS (own_exa_ns E_b) all0))
  obtain ⟨cq_4, kq_4, q_4a, q_4b, q_4c⟩ := isOf hZ rfl pfE_b_3
  obtain ⟨_, _, ⟨T_4, L_4, k_4, n_4⟩, -, X_4, ⟨Lc_4, hQ_4, l_4, y_4, z_4⟩, st_4⟩ := X_3.virtualBack hx (y := MN14) (z := MN14) hown (mvT hZ (ow hw 112 rfl)) (mvT hZ (ow hw 113 rfl)) (notFace_of_selects (args := #[]) (mvT hZ (ow hw 115 rfl))) (mvT hZ (ow hw 115 rfl)) (mvT hZ (ow hw 114 rfl)) (by decide) (backOf (W := 0) (rm_isl l Z a0 hw [] b cs T_3.heap n0 Z_3 pfF_coder_b_3 St_1_14 hcs) hZ (ow hw 116 rfl) (ow hw 33 rfl) (by decide) (by decide)) q_4a q_4c (g := (mkF mM 18 #[.val (.ref b), .val (.int i), .val (.int c), .val (.int cn)] [(.ref b)])) rfl (by rw [hml]; rfl) (Steps.refl _) (argsL := []) (rest := []) (lenOf pd_11 rfl) rfl (by show 2 * 0 + _ ≤ _; exact Nat.le_of_eq rfl) (hb hby d_jdk_68m32_18) (fun _ _ => ⟨rfl, rfl, (by decide : 1 + 0 ≤ _), (by decide : 34 + 0 ≤ _)⟩)
  dsimp only [Pt.U, Pt.locs, Pt.cells, Pt.slots] at X_4 l_4 y_4 z_4 st_4 hQ_4
  subst l_4 y_4 z_4
  obtain ⟨rfl, N_4q, eh_4⟩ := hQ_4
  have N_4 := Fr.app N_3 N_4q
  obtain ⟨T_5, X_5, e_5, st_5⟩ := getF X_4 hx hZ hown (host := "") (Or.inl (ow hw 39 rfl)) Via.refl eh_4 pfF_value_b_3 (g := (mkF mM 27 #[.val (.ref b), .val (.int i), .val (.int c), .val (.int cn)] [(.ref b), (.int cn), (.int i)])) rfl rfl (hb hby d_jdk_68m32_27)
  have St_1_6 := (own_sta_keep S_Integer_DigitOnes Kc_3 (allS (own_exa_ns E_b) all0))
  have St_1_7 := (own_sta_keep S_Integer_DigitTens Kc_3 (allS (own_exa_ns E_b) all0))
  obtain ⟨_, _, ⟨T_6, L_6, k_6, n_6⟩, -, X_6, ⟨Lc_6, hQ_6, l_6, y_6, z_6⟩, st_6⟩ := Jvm.LawKit.callS X_5 hx (y := MN15) hown (mvT hZ (ow hw 117 rfl)) (mvT hZ (ow hw 118 rfl)) (mvT hZ (ow hw 110 rfl)) (mvT hZ (ow hw 119 rfl)) (by decide) (backOf (W := 0) (rm_gc l Z a0 hw [] i cn d2__3 (34 : Int32) o1 o2 T_3.heap n0 Z_3 St_1_6 St_1_7 (B_o1.keep Kc_3 (ninS (Ne.symm (own_B.neE B_o1 E_b (ow hw 24 rfl))) nin0)) (B_o2.keep Kc_3 (ninS (Ne.symm (own_B.neE B_o2 E_b (ow hw 24 rfl))) nin0)) pfB_d2_3 g_d2__3 (Nat.ne_of_lt (Nat.lt_of_lt_of_le B_o1.lt pfsz_d2_3)) (Nat.ne_of_lt (Nat.lt_of_lt_of_le B_o2.lt pfsz_d2_3)) hfit) hZ (ow hw 119 rfl) (ow hw 110 rfl) (by decide) (by decide)) (g := (mkF mM 30 #[.val (.ref b), .val (.int i), .val (.int c), .val (.int cn)] [(.ref d2__3), (.int cn), (.int i)])) rfl (by rw [hml]; rfl) (argsL := [(.int i), (.int cn), (.ref d2__3)]) (rest := []) (lenOf pd_12 rfl) rfl (by show 2 * 0 + _ ≤ _; exact Nat.le_of_eq rfl) (hb hby d_jdk_68m32_30) (fun _ _ => ⟨rfl, e_5, (by decide : 1 + 0 ≤ _), (by decide : 34 + 0 ≤ _)⟩)
  dsimp only [Pt.U, Pt.locs, Pt.cells, Pt.slots] at X_6 l_6 y_6 z_6 st_6 hQ_6
  subst l_6 y_6 z_6
  obtain ⟨rv__6, ⟨rfl, N_6q, Kc_6, pfB_d_6⟩⟩ := hQ_6
  have Z_6 : n0 ≤ T_6.heap.size := (Nat.le_trans Z_3 Kc_6.1)
  have K_6 : Keep h0 T_6.heap [b] := K_3.trans Kc_6 (allS (Or.inr sz_d2__3) all0)
  have N_6 := Fr.app N_4 N_6q
  obtain ⟨T_7, h_7, X_7, e_7, W_7, st_7⟩ := putF X_6 hx hZ hown (host := "") (Or.inl (ow hw 72 rfl)) Via.refl rfl (pfF_count_b_3.keep Kc_6 (ninS (Nat.ne_of_lt (Nat.lt_of_lt_of_le E_b.lt pfsz_d2_3)) nin0)) (pfE_b_3.keep Kc_6) (Or.inl (ow hw 73 rfl)) (ow hw 24 rfl) (ty := .int) (by decide) rfl rfl (g := (mkF mM 50 #[.val (.ref b), .val (.int i), .val (.int c), .val (.int cn)] [(.int cn), (.ref b)])) rfl rfl (hb hby d_jdk_68m32_50)
  have Fw_7 := (pfF_count_b_3.keep Kc_6 (ninS (Nat.ne_of_lt (Nat.lt_of_lt_of_le E_b.lt pfsz_d2_3)) nin0)).same W_7
  have Z_7 : n0 ≤ h_7.size := (Nat.le_trans Z_6 (Keep.of_wr W_7).1)
  have K_7 : Keep h0 h_7 [b] := K_6.wr W_7 (Or.inl (List.mem_of_getElem? (i := 0) rfl))
  have N_7 := Fr.snoc X_7 N_6 g_b
  obtain ⟨fs, hr, hrun, hended, hW, hsame⟩ := X_7.leave (v := some (.ref b)) (fun h => by rw [Bd.returns] at h; cases h)
  refine ⟨_, _, pre0 _ ?_, hrun, hended, _, _, rfl, ?_, ⟨_, rfl⟩, hW, hsame.mono (by decide) (by decide)⟩
  · show oS pP eE below s₁ (mkF mM 0 #[.val (.ref b), .val (.int i), .unset, .unset] []) _
    refine XS.aloadN X0.here hx rfl (hb hby d_jdk_68m32_0) rfl rfl ?_
    show oS pP eE below s₁ (mkF mM 1 #[.val (.ref b), .val (.int i), .unset, .unset] [(.ref b)]) _
    refine st_1 _ ?_
    show oS pP eE below T_1 (mkF mM 4 #[.val (.ref b), .val (.int i), .unset, .unset] [(.int c)]) _
    refine XS.istoreN X_1.here hx rfl (hb hby d_jdk_68m32_4) rfl (l' := #[.val (.ref b), .val (.int i), .val (.int c), .unset]) rfl ?_
    refine XS.iloadN X_1.here hx rfl (hb hby d_jdk_68m32_5) rfl ?_
    refine XS.iloadN X_1.here hx rfl (hb hby d_jdk_68m32_6) rfl ?_
    show oS pP eE below T_1 (mkF mM 7 #[.val (.ref b), .val (.int i), .val (.int c), .unset] [(.int i), (.int c)]) _
    refine st_2 _ ?_
    show oS pP eE below T_2 (mkF mM 10 #[.val (.ref b), .val (.int i), .val (.int c), .unset] [(.int (own_sz i)), (.int c)]) _
    refine XS.iadd X_2.here hx rfl (hb hby d_jdk_68m32_10) rfl ?_
    show Steps pP.tables eE below (T_2.setTop (mkF mM 11 #[.val (.ref b), .val (.int i), .val (.int c), .unset] [(.int (c + (own_sz i)))])) _
    rw [hcn]
    refine XS.istoreN X_2.here hx rfl (hb hby d_jdk_68m32_11) rfl (l' := #[.val (.ref b), .val (.int i), .val (.int c), .val (.int cn)]) rfl ?_
    refine XS.aloadN X_2.here hx rfl (hb hby d_jdk_68m32_12) rfl rfl ?_
    refine XS.iloadN X_2.here hx rfl (hb hby d_jdk_68m32_13) rfl ?_
    show oS pP eE below T_2 (mkF mM 14 #[.val (.ref b), .val (.int i), .val (.int c), .val (.int cn)] [(.int cn), (.ref b)]) _
    refine st_3.trans ?_
    show oS pP eE below T_3 (mkF mM 17 #[.val (.ref b), .val (.int i), .val (.int c), .val (.int cn)] []) _
    refine XS.aloadN X_3.here hx rfl (hb hby d_jdk_68m32_17) rfl rfl ?_
    show oS pP eE below T_3 (mkF mM 18 #[.val (.ref b), .val (.int i), .val (.int c), .val (.int cn)] [(.ref b)]) _
    refine st_4.trans ?_
    show oS pP eE below T_4 (mkF mM 21 #[.val (.ref b), .val (.int i), .val (.int c), .val (.int cn)] [(.int (1 : Int32))]) _
    refine XS.ifNo X_4.here hx rfl (hb hby d_jdk_68m32_21) rfl (by decide) ?_
    refine XS.iloadN X_4.here hx rfl (hb hby d_jdk_68m32_24) rfl ?_
    refine XS.iloadN X_4.here hx rfl (hb hby d_jdk_68m32_25) rfl ?_
    refine XS.aloadN X_4.here hx rfl (hb hby d_jdk_68m32_26) rfl rfl ?_
    show oS pP eE below T_4 (mkF mM 27 #[.val (.ref b), .val (.int i), .val (.int c), .val (.int cn)] [(.ref b), (.int cn), (.int i)]) _
    refine st_5 _ ?_
    show oS pP eE below T_5 (mkF mM 30 #[.val (.ref b), .val (.int i), .val (.int c), .val (.int cn)] [(.ref d2__3), (.int cn), (.int i)]) _
    refine st_6 _ ?_
    show oS pP eE below T_6 (mkF mM 33 #[.val (.ref b), .val (.int i), .val (.int c), .val (.int cn)] [(.int rv__6)]) _
    refine XT.pop X_6.here hx rfl (hb hby d_jdk_68m32_33) rfl rfl ?_
    refine XS.goto X_6.here hx rfl (pc0 := 34) (pc' := 48) rfl (hb hby d_jdk_68m32_34) (by decide) (by decide) ?_
    refine XS.aloadN X_6.here hx rfl (hb hby d_jdk_68m32_48) rfl rfl ?_
    refine XS.iloadN X_6.here hx rfl (hb hby d_jdk_68m32_49) rfl ?_
    show oS pP eE below T_6 (mkF mM 50 #[.val (.ref b), .val (.int i), .val (.int c), .val (.int cn)] [(.int cn), (.ref b)]) _
    refine st_7 _ ?_
    show oS pP eE below T_7 (mkF mM 53 #[.val (.ref b), .val (.int i), .val (.int c), .val (.int cn)] []) _
    refine XS.aloadN X_7.here hx rfl (hb hby d_jdk_68m32_53) rfl rfl ?_
    show oS pP eE below T_7 (mkF mM 54 #[.val (.ref b), .val (.int i), .val (.int c), .val (.int cn)] [(.ref b)]) _
    exact retOut X_7 hx Bd.returns rfl (Or.inr (Or.inr (Or.inr (Or.inr ⟨rfl, rfl, rfl⟩)))) (hb hby d_jdk_68m32_54) hr
  · show Q_aiG Z b i d c cn o1 o2 cs h0 n0 _ T_7.heap _
    rw [e_7]
    exact ⟨d2__3, rfl, N_7, K_7, sz_d2__3, ((pfF_value_b_3.keep Kc_6 (ninS (Nat.ne_of_lt (Nat.lt_of_lt_of_le E_b.lt pfsz_d2_3)) nin0)).other W_7 (Or.inr (slot_ne (Or.inl (ow hw 40 rfl)) (Or.inl (ow hw 73 rfl)) (by decide) (t := (.array .byte)) (t' := .int) (by decide) (by decide)))), ((pfF_coder_b_3.keep Kc_6 (ninS (Nat.ne_of_lt (Nat.lt_of_lt_of_le E_b.lt pfsz_d2_3)) nin0)).other W_7 (Or.inr (slot_ne (Or.inl (ow hw 42 rfl)) (Or.inl (ow hw 73 rfl)) (by decide) (t := .byte) (t' := .int) (by decide) (by decide)))), Fw_7, ((pfE_b_3.keep Kc_6).wr W_7), (pfB_d_6.other W_7 (Ne.symm (Nat.ne_of_lt (Nat.lt_of_lt_of_le E_b.lt pfsz_d2_3))))⟩
theorem d_jdk_67m15_0 : decode jdk_67_method_15_code 0 = .ok (.aload_n 0, 1) := by decide +kernel
theorem d_jdk_67m15_1 : decode jdk_67_method_15_code 1 = .ok (.iload_n 1, 1) := by decide +kernel
theorem d_jdk_67m15_2 : decode jdk_67_method_15_code 2 = .ok (.invokespecial 53, 3) := by decide +kernel
theorem pd_13 : parseMethodDescriptor "(I)Ljava/lang/AbstractStringBuilder;" = some ⟨[.int], some (.object "java/lang/AbstractStringBuilder")⟩ := by decide +kernel
abbrev MN16 : MethodName := ⟨"java/lang/AbstractStringBuilder", "append", "(I)Ljava/lang/AbstractStringBuilder;"⟩
theorem d_jdk_67m15_5 : decode jdk_67_method_15_code 5 = .ok (.pop, 1) := by decide +kernel
theorem d_jdk_67m15_6 : decode jdk_67_method_15_code 6 = .ok (.aload_n 0, 1) := by decide +kernel
theorem d_jdk_67m15_7 : decode jdk_67_method_15_code 7 = .ok (.areturn, 1) := by decide +kernel
theorem ef_si16 (mM : MethodId) (x0 : Addr) (x1 : Int32) : entryFrame mM #[(.ref x0), (.int x1)] 2 = mkF mM 0 #[.val (.ref x0), .val (.int x1)] [] := by first | (simp [entryFrame, mkF, argsToLocals, Value.category]; done) | rfl
def Q_si16 (Z : State) (b : Addr) (i : Int32) (d : Addr) (c : Int32) (cn : Int32) (o1 : Addr) (o2 : Addr) (cs : Int32) (h0 : Heap) (n0 : Nat) (v_ : Option Value) (h_ : Heap) (L_ : List Loc) : Prop := v_ = some (.ref b) ∧ Fr n0 L_ ∧ Keep h0 h_ [b, d] ∧ Fld Z h_ b "java/lang/AbstractStringBuilder" "value" "[B" (.ref d) ∧ Fld Z h_ b "java/lang/AbstractStringBuilder" "coder" "B" (.int (0 : Int32)) ∧ Fld Z h_ b "java/lang/AbstractStringBuilder" "count" "I" (.int cn) ∧ Exa Z h_ b "java/lang/StringBuilder" ∧ own_B Z h_ d (16 : Int32)
set_option maxRecDepth 65536 in
set_option maxHeartbeats 40000000 in
theorem rm_si16 (l : Launch) (Z : State) (a0 : Array Value) (hw : ∀ d ∈ tables_1, d.before a0 Z = true) (ws : List Jvm.Cond) (b : Addr) (i : Int32) (d : Addr) (c : Int32) (cn : Int32) (o1 : Addr) (o2 : Addr) (cs : Int32) (h0 : Heap) (n0 : Nat) (Z0 : n0 ≤ h0.size) (F_value_b : Fld Z h0 b "java/lang/AbstractStringBuilder" "value" "[B" (.ref d)) (F_coder_b : Fld Z h0 b "java/lang/AbstractStringBuilder" "coder" "B" (.int (0 : Int32))) (F_count_b : Fld Z h0 b "java/lang/AbstractStringBuilder" "count" "I" (.int c)) (E_b : Exa Z h0 b "java/lang/StringBuilder") (g_b : n0 ≤ b) (g_d : n0 ≤ d) (S_Integer_DigitOnes : Sta Z h0 "java/lang/Integer" "DigitOnes" "[B" (.ref o1)) (S_Integer_DigitTens : Sta Z h0 "java/lang/Integer" "DigitTens" "[B" (.ref o2)) (B_o1 : own_B Z h0 o1 (100 : Int32)) (B_o2 : own_B Z h0 o2 (100 : Int32)) (n1d : o1 ≠ d) (n2d : o2 ≠ d) (hi : own_i5 i) (hcn : (c + (own_sz i)) = cn) (S_String_COMPACT_STRINGS : Sta Z h0 "java/lang/String" "COMPACT_STRINGS" "Z" (.int cs)) (hcs : ¬ cs = 0) (B_d : own_B Z h0 d (16 : Int32)) (hno : ¬ 0 < (cn - (16 : Int32))) (hfit : own_fit i cn (16 : Int32)) :
    MetFree l (⟨"java/lang/StringBuilder", "append", "(I)Ljava/lang/StringBuilder;"⟩ : MethodName) (head1 (Jvm.Cond.code (⟨"java/lang/StringBuilder", "append", "(I)Ljava/lang/StringBuilder;"⟩ : MethodName) jdk_67_method_15_code 2 (some (.object "java/lang/StringBuilder")) :: ws) oR9) (fun aa_ U_ => aa_ = #[(.ref b), (.int i)] ∧ Z.Warmed39 U_.vm ∧ U_.heap = h0) (fun _ _ _ _ _ => True) (fun _ U_ o_ U'_ => ∃ v_ L_, o_ = .returned v_ ∧ Q_si16 Z b i d c cn o1 o2 cs h0 n0 v_ U'_.heap L_ ∧ FrameEnd U_ o_ U'_ L_ oR9.cells oR9.slots) := by
  refine MetFree.of_bodySF (plainFor_of_name pn_1) hisR ?_
  intro pP eE sS mM argsA below meth cC s₁ Bd hml0 hP hK
  obtain ⟨rfl, hZ, hh⟩ := hP
  have hx := Bd.exec
  have hby := Bd.bytes
  have hml : cC.maxLocals = 2 := hml0
  have hown : sS.vm.findClass "java/lang/StringBuilder" = some mM.cls := findClass_of_methodNamed Bd.named
  have hnm := (name_of_methodNamed Bd.named Bd.method).1
  have X0 : Stand pP l eE oR9 sS mM #[(.ref b), (.int i)] below meth cC s₁ [] 0 0 := Stand.of_body Bd
  have e0 : s₁.heap = h0 := by rw [← hh, Bd.state]; rfl
  have N0 := Fr.nil n0
  have pre0 : ∀ t_, Steps pP.tables eE below (s₁.setTop (mkF mM 0 #[.val (.ref b), .val (.int i)] [])) t_ → Steps pP.tables eE below (s₁.setTop (entryFrame mM #[(.ref b), (.int i)] 2)) t_ := fun t_ k_ => castTop (ef_si16 mM b i) k_
  obtain ⟨_, _, ⟨T_1, L_1, k_1, n_1⟩, -, X_1, ⟨Lc_1, hQ_1, l_1, y_1, z_1⟩, st_1⟩ := superBack X0 hx hZ (y := MN16) hown (ow hw 104 rfl) (own_same (y := MN16) (z := MN10) (ow hw 105 rfl) (ow hw 77 rfl) rfl (by decide)) (ow hw 105 rfl) (ow hw 56 rfl) (by decide) (backOf (W := 0) (rm_ai16 l Z a0 hw [] b i d c cn o1 o2 cs h0 n0 Z0 F_value_b F_coder_b F_count_b E_b g_b g_d S_Integer_DigitOnes S_Integer_DigitTens B_o1 B_o2 n1d n2d hi hcn S_String_COMPACT_STRINGS hcs B_d hno hfit) hZ (ow hw 107 rfl) (ow hw 33 rfl) (by decide) (by decide)) e0 (Ins.self E_b) (g := (mkF mM 2 #[.val (.ref b), .val (.int i)] [(.int i), (.ref b)])) rfl (by rw [hml]; rfl) (ow hw 107 rfl) (argsL := [(.int i)]) (rest := []) (lenOf pd_13 rfl) rfl (by show 2 * 0 + _ ≤ _; exact Nat.le_of_eq rfl) (hb hby d_jdk_67m15_2) (fun _ _ => ⟨rfl, e0, (by decide : 0 + 0 ≤ _), (by decide : 0 + 0 ≤ _)⟩)
  dsimp only [Pt.U, Pt.locs, Pt.cells, Pt.slots] at X_1 l_1 y_1 z_1 st_1 hQ_1
  subst l_1 y_1 z_1
  obtain ⟨rfl, N_1q, Kc_1, pfF_value_b_1, pfF_coder_b_1, pfF_count_b_1, pfE_b_1, pfB_d_1⟩ := hQ_1
  have Z_1 : n0 ≤ T_1.heap.size := (Nat.le_trans Z0 Kc_1.1)
  have K_1 : Keep h0 T_1.heap [b, d] := (Keep.refl h0 [b, d]).trans Kc_1 (allS (Or.inl (List.mem_of_getElem? (i := 0) rfl)) (allS (Or.inl (List.mem_of_getElem? (i := 1) rfl)) all0))
  have N_1 := Fr.app N0 N_1q
  obtain ⟨fs, hr, hrun, hended, hW, hsame⟩ := X_1.leave (v := some (.ref b)) (fun h => by rw [Bd.returns] at h; cases h)
  refine ⟨_, _, pre0 _ ?_, hrun, hended, _, _, rfl, ?_, ⟨_, rfl⟩, hW, hsame.mono (by decide) (by decide)⟩
  · show oS pP eE below s₁ (mkF mM 0 #[.val (.ref b), .val (.int i)] []) _
    refine XS.aloadN X0.here hx rfl (hb hby d_jdk_67m15_0) rfl rfl ?_
    refine XS.iloadN X0.here hx rfl (hb hby d_jdk_67m15_1) rfl ?_
    show oS pP eE below s₁ (mkF mM 2 #[.val (.ref b), .val (.int i)] [(.int i), (.ref b)]) _
    refine st_1.trans ?_
    show oS pP eE below T_1 (mkF mM 5 #[.val (.ref b), .val (.int i)] [(.ref b)]) _
    refine XT.pop X_1.here hx rfl (hb hby d_jdk_67m15_5) rfl rfl ?_
    refine XS.aloadN X_1.here hx rfl (hb hby d_jdk_67m15_6) rfl rfl ?_
    show oS pP eE below T_1 (mkF mM 7 #[.val (.ref b), .val (.int i)] [(.ref b)]) _
    exact retOut X_1 hx Bd.returns rfl (Or.inr (Or.inr (Or.inr (Or.inr ⟨rfl, rfl, rfl⟩)))) (hb hby d_jdk_67m15_7) hr
  · show Q_si16 Z b i d c cn o1 o2 cs h0 n0 _ T_1.heap _
    exact ⟨rfl, N_1, K_1, pfF_value_b_1, pfF_coder_b_1, pfF_count_b_1, pfE_b_1, pfB_d_1⟩
theorem ef_si34 (mM : MethodId) (x0 : Addr) (x1 : Int32) : entryFrame mM #[(.ref x0), (.int x1)] 2 = mkF mM 0 #[.val (.ref x0), .val (.int x1)] [] := by first | (simp [entryFrame, mkF, argsToLocals, Value.category]; done) | rfl
def Q_si34 (Z : State) (b : Addr) (i : Int32) (d : Addr) (c : Int32) (cn : Int32) (o1 : Addr) (o2 : Addr) (cs : Int32) (h0 : Heap) (n0 : Nat) (v_ : Option Value) (h_ : Heap) (L_ : List Loc) : Prop := v_ = some (.ref b) ∧ Fr n0 L_ ∧ Keep h0 h_ [b, d] ∧ Fld Z h_ b "java/lang/AbstractStringBuilder" "value" "[B" (.ref d) ∧ Fld Z h_ b "java/lang/AbstractStringBuilder" "coder" "B" (.int (0 : Int32)) ∧ Fld Z h_ b "java/lang/AbstractStringBuilder" "count" "I" (.int cn) ∧ Exa Z h_ b "java/lang/StringBuilder" ∧ own_B Z h_ d (34 : Int32)
set_option maxRecDepth 65536 in
set_option maxHeartbeats 40000000 in
theorem rm_si34 (l : Launch) (Z : State) (a0 : Array Value) (hw : ∀ d ∈ tables_1, d.before a0 Z = true) (ws : List Jvm.Cond) (b : Addr) (i : Int32) (d : Addr) (c : Int32) (cn : Int32) (o1 : Addr) (o2 : Addr) (cs : Int32) (h0 : Heap) (n0 : Nat) (Z0 : n0 ≤ h0.size) (F_value_b : Fld Z h0 b "java/lang/AbstractStringBuilder" "value" "[B" (.ref d)) (F_coder_b : Fld Z h0 b "java/lang/AbstractStringBuilder" "coder" "B" (.int (0 : Int32))) (F_count_b : Fld Z h0 b "java/lang/AbstractStringBuilder" "count" "I" (.int c)) (E_b : Exa Z h0 b "java/lang/StringBuilder") (g_b : n0 ≤ b) (g_d : n0 ≤ d) (S_Integer_DigitOnes : Sta Z h0 "java/lang/Integer" "DigitOnes" "[B" (.ref o1)) (S_Integer_DigitTens : Sta Z h0 "java/lang/Integer" "DigitTens" "[B" (.ref o2)) (B_o1 : own_B Z h0 o1 (100 : Int32)) (B_o2 : own_B Z h0 o2 (100 : Int32)) (n1d : o1 ≠ d) (n2d : o2 ≠ d) (hi : own_i5 i) (hcn : (c + (own_sz i)) = cn) (S_String_COMPACT_STRINGS : Sta Z h0 "java/lang/String" "COMPACT_STRINGS" "Z" (.int cs)) (hcs : ¬ cs = 0) (B_d : own_B Z h0 d (34 : Int32)) (hno : ¬ 0 < (cn - (34 : Int32))) (hfit : own_fit i cn (34 : Int32)) :
    MetFree l (⟨"java/lang/StringBuilder", "append", "(I)Ljava/lang/StringBuilder;"⟩ : MethodName) (head1 (Jvm.Cond.code (⟨"java/lang/StringBuilder", "append", "(I)Ljava/lang/StringBuilder;"⟩ : MethodName) jdk_67_method_15_code 2 (some (.object "java/lang/StringBuilder")) :: ws) oR9) (fun aa_ U_ => aa_ = #[(.ref b), (.int i)] ∧ Z.Warmed39 U_.vm ∧ U_.heap = h0) (fun _ _ _ _ _ => True) (fun _ U_ o_ U'_ => ∃ v_ L_, o_ = .returned v_ ∧ Q_si34 Z b i d c cn o1 o2 cs h0 n0 v_ U'_.heap L_ ∧ FrameEnd U_ o_ U'_ L_ oR9.cells oR9.slots) := by
  refine MetFree.of_bodySF (plainFor_of_name pn_1) hisR ?_
  intro pP eE sS mM argsA below meth cC s₁ Bd hml0 hP hK
  obtain ⟨rfl, hZ, hh⟩ := hP
  have hx := Bd.exec
  have hby := Bd.bytes
  have hml : cC.maxLocals = 2 := hml0
  have hown : sS.vm.findClass "java/lang/StringBuilder" = some mM.cls := findClass_of_methodNamed Bd.named
  have hnm := (name_of_methodNamed Bd.named Bd.method).1
  have X0 : Stand pP l eE oR9 sS mM #[(.ref b), (.int i)] below meth cC s₁ [] 0 0 := Stand.of_body Bd
  have e0 : s₁.heap = h0 := by rw [← hh, Bd.state]; rfl
  have N0 := Fr.nil n0
  have pre0 : ∀ t_, Steps pP.tables eE below (s₁.setTop (mkF mM 0 #[.val (.ref b), .val (.int i)] [])) t_ → Steps pP.tables eE below (s₁.setTop (entryFrame mM #[(.ref b), (.int i)] 2)) t_ := fun t_ k_ => castTop (ef_si34 mM b i) k_
  obtain ⟨_, _, ⟨T_1, L_1, k_1, n_1⟩, -, X_1, ⟨Lc_1, hQ_1, l_1, y_1, z_1⟩, st_1⟩ := superBack X0 hx hZ (y := MN16) hown (ow hw 104 rfl) (own_same (y := MN16) (z := MN10) (ow hw 105 rfl) (ow hw 77 rfl) rfl (by decide)) (ow hw 105 rfl) (ow hw 56 rfl) (by decide) (backOf (W := 0) (rm_ai34 l Z a0 hw [] b i d c cn o1 o2 cs h0 n0 Z0 F_value_b F_coder_b F_count_b E_b g_b g_d S_Integer_DigitOnes S_Integer_DigitTens B_o1 B_o2 n1d n2d hi hcn S_String_COMPACT_STRINGS hcs B_d hno hfit) hZ (ow hw 107 rfl) (ow hw 33 rfl) (by decide) (by decide)) e0 (Ins.self E_b) (g := (mkF mM 2 #[.val (.ref b), .val (.int i)] [(.int i), (.ref b)])) rfl (by rw [hml]; rfl) (ow hw 107 rfl) (argsL := [(.int i)]) (rest := []) (lenOf pd_13 rfl) rfl (by show 2 * 0 + _ ≤ _; exact Nat.le_of_eq rfl) (hb hby d_jdk_67m15_2) (fun _ _ => ⟨rfl, e0, (by decide : 0 + 0 ≤ _), (by decide : 0 + 0 ≤ _)⟩)
  dsimp only [Pt.U, Pt.locs, Pt.cells, Pt.slots] at X_1 l_1 y_1 z_1 st_1 hQ_1
  subst l_1 y_1 z_1
  obtain ⟨rfl, N_1q, Kc_1, pfF_value_b_1, pfF_coder_b_1, pfF_count_b_1, pfE_b_1, pfB_d_1⟩ := hQ_1
  have Z_1 : n0 ≤ T_1.heap.size := (Nat.le_trans Z0 Kc_1.1)
  have K_1 : Keep h0 T_1.heap [b, d] := (Keep.refl h0 [b, d]).trans Kc_1 (allS (Or.inl (List.mem_of_getElem? (i := 0) rfl)) (allS (Or.inl (List.mem_of_getElem? (i := 1) rfl)) all0))
  have N_1 := Fr.app N0 N_1q
  obtain ⟨fs, hr, hrun, hended, hW, hsame⟩ := X_1.leave (v := some (.ref b)) (fun h => by rw [Bd.returns] at h; cases h)
  refine ⟨_, _, pre0 _ ?_, hrun, hended, _, _, rfl, ?_, ⟨_, rfl⟩, hW, hsame.mono (by decide) (by decide)⟩
  · show oS pP eE below s₁ (mkF mM 0 #[.val (.ref b), .val (.int i)] []) _
    refine XS.aloadN X0.here hx rfl (hb hby d_jdk_67m15_0) rfl rfl ?_
    refine XS.iloadN X0.here hx rfl (hb hby d_jdk_67m15_1) rfl ?_
    show oS pP eE below s₁ (mkF mM 2 #[.val (.ref b), .val (.int i)] [(.int i), (.ref b)]) _
    refine st_1.trans ?_
    show oS pP eE below T_1 (mkF mM 5 #[.val (.ref b), .val (.int i)] [(.ref b)]) _
    refine XT.pop X_1.here hx rfl (hb hby d_jdk_67m15_5) rfl rfl ?_
    refine XS.aloadN X_1.here hx rfl (hb hby d_jdk_67m15_6) rfl rfl ?_
    show oS pP eE below T_1 (mkF mM 7 #[.val (.ref b), .val (.int i)] [(.ref b)]) _
    exact retOut X_1 hx Bd.returns rfl (Or.inr (Or.inr (Or.inr (Or.inr ⟨rfl, rfl, rfl⟩)))) (hb hby d_jdk_67m15_7) hr
  · show Q_si34 Z b i d c cn o1 o2 cs h0 n0 _ T_1.heap _
    exact ⟨rfl, N_1, K_1, pfF_value_b_1, pfF_coder_b_1, pfF_count_b_1, pfE_b_1, pfB_d_1⟩
theorem ef_siG (mM : MethodId) (x0 : Addr) (x1 : Int32) : entryFrame mM #[(.ref x0), (.int x1)] 2 = mkF mM 0 #[.val (.ref x0), .val (.int x1)] [] := by first | (simp [entryFrame, mkF, argsToLocals, Value.category]; done) | rfl
def Q_siG (Z : State) (b : Addr) (i : Int32) (d : Addr) (c : Int32) (cn : Int32) (o1 : Addr) (o2 : Addr) (cs : Int32) (h0 : Heap) (n0 : Nat) (v_ : Option Value) (h_ : Heap) (L_ : List Loc) : Prop := ∃ d2 : Addr, v_ = some (.ref b) ∧ Fr n0 L_ ∧ Keep h0 h_ [b] ∧ h0.size ≤ d2 ∧ Fld Z h_ b "java/lang/AbstractStringBuilder" "value" "[B" (.ref d2) ∧ Fld Z h_ b "java/lang/AbstractStringBuilder" "coder" "B" (.int (0 : Int32)) ∧ Fld Z h_ b "java/lang/AbstractStringBuilder" "count" "I" (.int cn) ∧ Exa Z h_ b "java/lang/StringBuilder" ∧ own_B Z h_ d2 (34 : Int32)
set_option maxRecDepth 65536 in
set_option maxHeartbeats 40000000 in
theorem rm_siG (l : Launch) (Z : State) (a0 : Array Value) (hw : ∀ d ∈ tables_1, d.before a0 Z = true) (ws : List Jvm.Cond) (b : Addr) (i : Int32) (d : Addr) (c : Int32) (cn : Int32) (o1 : Addr) (o2 : Addr) (cs : Int32) (h0 : Heap) (n0 : Nat) (Z0 : n0 ≤ h0.size) (F_value_b : Fld Z h0 b "java/lang/AbstractStringBuilder" "value" "[B" (.ref d)) (F_coder_b : Fld Z h0 b "java/lang/AbstractStringBuilder" "coder" "B" (.int (0 : Int32))) (F_count_b : Fld Z h0 b "java/lang/AbstractStringBuilder" "count" "I" (.int c)) (E_b : Exa Z h0 b "java/lang/StringBuilder") (g_b : n0 ≤ b) (g_d : n0 ≤ d) (S_Integer_DigitOnes : Sta Z h0 "java/lang/Integer" "DigitOnes" "[B" (.ref o1)) (S_Integer_DigitTens : Sta Z h0 "java/lang/Integer" "DigitTens" "[B" (.ref o2)) (B_o1 : own_B Z h0 o1 (100 : Int32)) (B_o2 : own_B Z h0 o2 (100 : Int32)) (n1d : o1 ≠ d) (n2d : o2 ≠ d) (hi : own_i5 i) (hcn : (c + (own_sz i)) = cn) (S_String_COMPACT_STRINGS : Sta Z h0 "java/lang/String" "COMPACT_STRINGS" "Z" (.int cs)) (hcs : ¬ cs = 0) (B_d : own_B Z h0 d (16 : Int32)) (hgt : 0 < (cn - (16 : Int32))) (hlt : (cn - (16 : Int32)) < (18 : Int32)) (hfit : own_fit i cn (34 : Int32)) :
    MetFree l (⟨"java/lang/StringBuilder", "append", "(I)Ljava/lang/StringBuilder;"⟩ : MethodName) (head1 (Jvm.Cond.code (⟨"java/lang/StringBuilder", "append", "(I)Ljava/lang/StringBuilder;"⟩ : MethodName) jdk_67_method_15_code 2 (some (.object "java/lang/StringBuilder")) :: ws) oR14) (fun aa_ U_ => aa_ = #[(.ref b), (.int i)] ∧ Z.Warmed39 U_.vm ∧ U_.heap = h0) (fun _ _ _ _ _ => True) (fun _ U_ o_ U'_ => ∃ v_ L_, o_ = .returned v_ ∧ Q_siG Z b i d c cn o1 o2 cs h0 n0 v_ U'_.heap L_ ∧ FrameEnd U_ o_ U'_ L_ oR14.cells oR14.slots) := by
  refine MetFree.of_bodySF (plainFor_of_name pn_1) hisR ?_
  intro pP eE sS mM argsA below meth cC s₁ Bd hml0 hP hK
  obtain ⟨rfl, hZ, hh⟩ := hP
  have hx := Bd.exec
  have hby := Bd.bytes
  have hml : cC.maxLocals = 2 := hml0
  have hown : sS.vm.findClass "java/lang/StringBuilder" = some mM.cls := findClass_of_methodNamed Bd.named
  have hnm := (name_of_methodNamed Bd.named Bd.method).1
  have X0 : Stand pP l eE oR14 sS mM #[(.ref b), (.int i)] below meth cC s₁ [] 0 0 := Stand.of_body Bd
  have e0 : s₁.heap = h0 := by rw [← hh, Bd.state]; rfl
  have N0 := Fr.nil n0
  have pre0 : ∀ t_, Steps pP.tables eE below (s₁.setTop (mkF mM 0 #[.val (.ref b), .val (.int i)] [])) t_ → Steps pP.tables eE below (s₁.setTop (entryFrame mM #[(.ref b), (.int i)] 2)) t_ := fun t_ k_ => castTop (ef_siG mM b i) k_
  obtain ⟨_, _, ⟨T_1, L_1, k_1, n_1⟩, -, X_1, ⟨Lc_1, hQ_1, l_1, y_1, z_1⟩, st_1⟩ := superBack X0 hx hZ (y := MN16) hown (ow hw 104 rfl) (own_same (y := MN16) (z := MN10) (ow hw 105 rfl) (ow hw 77 rfl) rfl (by decide)) (ow hw 105 rfl) (ow hw 56 rfl) (by decide) (backOf (W := 0) (rm_aiG l Z a0 hw [] b i d c cn o1 o2 cs h0 n0 Z0 F_value_b F_coder_b F_count_b E_b g_b g_d S_Integer_DigitOnes S_Integer_DigitTens B_o1 B_o2 n1d n2d hi hcn S_String_COMPACT_STRINGS hcs B_d hgt hlt hfit) hZ (ow hw 107 rfl) (ow hw 33 rfl) (by decide) (by decide)) e0 (Ins.self E_b) (g := (mkF mM 2 #[.val (.ref b), .val (.int i)] [(.int i), (.ref b)])) rfl (by rw [hml]; rfl) (ow hw 107 rfl) (argsL := [(.int i)]) (rest := []) (lenOf pd_13 rfl) rfl (by show 2 * 0 + _ ≤ _; exact Nat.le_of_eq rfl) (hb hby d_jdk_67m15_2) (fun _ _ => ⟨rfl, e0, (by decide : 0 + 1 ≤ _), (by decide : 0 + 34 ≤ _)⟩)
  dsimp only [Pt.U, Pt.locs, Pt.cells, Pt.slots] at X_1 l_1 y_1 z_1 st_1 hQ_1
  subst l_1 y_1 z_1
  obtain ⟨d2__1, ⟨rfl, N_1q, Kc_1, pfsz_d2_1, pfF_value_b_1, pfF_coder_b_1, pfF_count_b_1, pfE_b_1, pfB_d2_1⟩⟩ := hQ_1
  have Z_1 : n0 ≤ T_1.heap.size := (Nat.le_trans Z0 Kc_1.1)
  have K_1 : Keep h0 T_1.heap [b] := (Keep.refl h0 [b]).trans Kc_1 (allS (Or.inl (List.mem_of_getElem? (i := 0) rfl)) all0)
  have sz_d2__1 : h0.size ≤ d2__1 := Nat.le_trans (Keep.refl h0 [b]).1 pfsz_d2_1
  have g_d2__1 : n0 ≤ d2__1 := Nat.le_trans Z0 pfsz_d2_1
  have N_1 := Fr.app N0 N_1q
  obtain ⟨fs, hr, hrun, hended, hW, hsame⟩ := X_1.leave (v := some (.ref b)) (fun h => by rw [Bd.returns] at h; cases h)
  refine ⟨_, _, pre0 _ ?_, hrun, hended, _, _, rfl, ?_, ⟨_, rfl⟩, hW, hsame.mono (by decide) (by decide)⟩
  · show oS pP eE below s₁ (mkF mM 0 #[.val (.ref b), .val (.int i)] []) _
    refine XS.aloadN X0.here hx rfl (hb hby d_jdk_67m15_0) rfl rfl ?_
    refine XS.iloadN X0.here hx rfl (hb hby d_jdk_67m15_1) rfl ?_
    show oS pP eE below s₁ (mkF mM 2 #[.val (.ref b), .val (.int i)] [(.int i), (.ref b)]) _
    refine st_1.trans ?_
    show oS pP eE below T_1 (mkF mM 5 #[.val (.ref b), .val (.int i)] [(.ref b)]) _
    refine XT.pop X_1.here hx rfl (hb hby d_jdk_67m15_5) rfl rfl ?_
    refine XS.aloadN X_1.here hx rfl (hb hby d_jdk_67m15_6) rfl rfl ?_
    show oS pP eE below T_1 (mkF mM 7 #[.val (.ref b), .val (.int i)] [(.ref b)]) _
    exact retOut X_1 hx Bd.returns rfl (Or.inr (Or.inr (Or.inr (Or.inr ⟨rfl, rfl, rfl⟩)))) (hb hby d_jdk_67m15_7) hr
  · show Q_siG Z b i d c cn o1 o2 cs h0 n0 _ T_1.heap _
    exact ⟨d2__1, rfl, N_1, K_1, sz_d2__1, pfF_value_b_1, pfF_coder_b_1, pfF_count_b_1, pfE_b_1, pfB_d2_1⟩
theorem d_jdk_65m131_0 : decode jdk_65_method_131_code 0 = .ok (.iload_n 1, 1) := by decide +kernel
theorem d_jdk_65m131_1 : decode jdk_65_method_131_code 1 = .ok (.iload_n 0, 1) := by decide +kernel
theorem d_jdk_65m131_2 : decode jdk_65_method_131_code 2 = .ok (.if_icmp .ge 35, 3) := by decide +kernel
theorem d_jdk_65m131_37 : decode jdk_65_method_131_code 37 = .ok (.return_, 1) := by decide +kernel
theorem ef_chk (mM : MethodId) (x0 : Int32) (x1 : Int32) : entryFrame mM #[(.int x0), (.int x1)] 2 = mkF mM 0 #[.val (.int x0), .val (.int x1)] [] := by first | (simp [entryFrame, mkF, argsToLocals, Value.category]; done) | rfl
def Q_chk (Z : State) (c : Int32) (h0 : Heap) (n0 : Nat) (v_ : Option Value) (h_ : Heap) (L_ : List Loc) : Prop := v_ = none ∧ Fr n0 L_ ∧ h_ = h0
set_option maxRecDepth 65536 in
set_option maxHeartbeats 40000000 in
theorem rm_chk (l : Launch) (Z : State) (a0 : Array Value) (hw : ∀ d ∈ tables_1, d.before a0 Z = true) (ws : List Jvm.Cond) (c : Int32) (h0 : Heap) (n0 : Nat) (Z0 : n0 ≤ h0.size) (hc0 : ¬ c < 0) :
    MetFree l (⟨"java/util/Arrays", "checkLength", "(II)V"⟩ : MethodName) (head1 (Jvm.Cond.code (⟨"java/util/Arrays", "checkLength", "(II)V"⟩ : MethodName) jdk_65_method_131_code 2 none :: ws) oR2) (fun aa_ U_ => aa_ = #[(.int (0 : Int32)), (.int c)] ∧ Z.Warmed39 U_.vm ∧ U_.heap = h0) (fun _ _ _ _ _ => True) (fun _ U_ o_ U'_ => ∃ v_ L_, o_ = .returned v_ ∧ Q_chk Z c h0 n0 v_ U'_.heap L_ ∧ FrameEnd U_ o_ U'_ L_ oR2.cells oR2.slots) := by
  refine MetFree.of_bodySF (plainFor_of_name pn_4) hisR ?_
  intro pP eE sS mM argsA below meth cC s₁ Bd hml0 hP hK
  obtain ⟨rfl, hZ, hh⟩ := hP
  have hx := Bd.exec
  have hby := Bd.bytes
  have hml : cC.maxLocals = 2 := hml0
  have hown : sS.vm.findClass "java/util/Arrays" = some mM.cls := findClass_of_methodNamed Bd.named
  have hnm := (name_of_methodNamed Bd.named Bd.method).1
  have X0 : Stand pP l eE oR2 sS mM #[(.int (0 : Int32)), (.int c)] below meth cC s₁ [] 0 0 := Stand.of_body Bd
  have e0 : s₁.heap = h0 := by rw [← hh, Bd.state]; rfl
  have N0 := Fr.nil n0
  have pre0 : ∀ t_, Steps pP.tables eE below (s₁.setTop (mkF mM 0 #[.val (.int (0 : Int32)), .val (.int c)] [])) t_ → Steps pP.tables eE below (s₁.setTop (entryFrame mM #[(.int (0 : Int32)), (.int c)] 2)) t_ := fun t_ k_ => castTop (ef_chk mM (0 : Int32) c) k_
  obtain ⟨fs, hr, hrun, hended, hW, hsame⟩ := X0.leave (v := none) (fun _ => rfl)
  refine ⟨_, _, pre0 _ ?_, hrun, hended, _, _, rfl, ?_, ⟨_, rfl⟩, hW, hsame.mono (by decide) (by decide)⟩
  · show oS pP eE below s₁ (mkF mM 0 #[.val (.int (0 : Int32)), .val (.int c)] []) _
    refine XS.iloadN X0.here hx rfl (hb hby d_jdk_65m131_0) rfl ?_
    refine XS.iloadN X0.here hx rfl (hb hby d_jdk_65m131_1) rfl ?_
    refine XS.icmpYes X0.here hx rfl (pc0 := 2) (pc' := 37) rfl (hb hby d_jdk_65m131_2) rfl (XT.ii_ge_t hc0) (by decide) (by decide) ?_
    show oS pP eE below s₁ (mkF mM 37 #[.val (.int (0 : Int32)), .val (.int c)] []) _
    exact X0.returnOut hx Bd.returns (hb hby d_jdk_65m131_37) hr
  · show Q_chk Z c h0 n0 _ s₁.heap _
    rw [e0]
    exact ⟨rfl, N0, rfl⟩
theorem d_jdk_65m133_0 : decode jdk_65_method_133_code 0 = .ok (.iload_n 1, 1) := by decide +kernel
theorem d_jdk_65m133_1 : decode jdk_65_method_133_code 1 = .ok (.iload_n 2, 1) := by decide +kernel
theorem d_jdk_65m133_2 : decode jdk_65_method_133_code 2 = .ok (.invokestatic 343, 3) := by decide +kernel
theorem pd_14 : parseMethodDescriptor "(II)V" = some ⟨[.int, .int], none⟩ := by decide +kernel
abbrev MN17 : MethodName := ⟨"java/util/Arrays", "checkLength", "(II)V"⟩
theorem d_jdk_65m133_5 : decode jdk_65_method_133_code 5 = .ok (.iload_n 2, 1) := by decide +kernel
theorem d_jdk_65m133_6 : decode jdk_65_method_133_code 6 = .ok (.iload_n 1, 1) := by decide +kernel
theorem d_jdk_65m133_7 : decode jdk_65_method_133_code 7 = .ok (.isub, 1) := by decide +kernel
theorem d_jdk_65m133_8 : decode jdk_65_method_133_code 8 = .ok (.istore_n 3, 1) := by decide +kernel
theorem d_jdk_65m133_9 : decode jdk_65_method_133_code 9 = .ok (.iload_n 3, 1) := by decide +kernel
theorem d_jdk_65m133_10 : decode jdk_65_method_133_code 10 = .ok (.newarray .byte, 2) := by decide +kernel
theorem d_jdk_65m133_12 : decode jdk_65_method_133_code 12 = .ok (.astore 4, 2) := by decide +kernel
theorem d_jdk_65m133_14 : decode jdk_65_method_133_code 14 = .ok (.aload_n 0, 1) := by decide +kernel
theorem d_jdk_65m133_15 : decode jdk_65_method_133_code 15 = .ok (.iload_n 1, 1) := by decide +kernel
theorem d_jdk_65m133_16 : decode jdk_65_method_133_code 16 = .ok (.aload 4, 2) := by decide +kernel
theorem d_jdk_65m133_18 : decode jdk_65_method_133_code 18 = .ok (.iconst 0, 1) := by decide +kernel
theorem d_jdk_65m133_19 : decode jdk_65_method_133_code 19 = .ok (.aload_n 0, 1) := by decide +kernel
theorem d_jdk_65m133_20 : decode jdk_65_method_133_code 20 = .ok (.arraylength, 1) := by decide +kernel
theorem d_jdk_65m133_21 : decode jdk_65_method_133_code 21 = .ok (.iload_n 1, 1) := by decide +kernel
theorem d_jdk_65m133_22 : decode jdk_65_method_133_code 22 = .ok (.isub, 1) := by decide +kernel
theorem d_jdk_65m133_23 : decode jdk_65_method_133_code 23 = .ok (.iload_n 3, 1) := by decide +kernel
theorem d_jdk_65m133_24 : decode jdk_65_method_133_code 24 = .ok (.invokestatic 304, 3) := by decide +kernel
theorem d_jdk_65m133_27 : decode jdk_65_method_133_code 27 = .ok (.invokestatic 150, 3) := by decide +kernel
theorem d_jdk_65m133_30 : decode jdk_65_method_133_code 30 = .ok (.aload 4, 2) := by decide +kernel
theorem d_jdk_65m133_32 : decode jdk_65_method_133_code 32 = .ok (.areturn, 1) := by decide +kernel
theorem ef_crb (mM : MethodId) (x0 : Addr) (x1 : Int32) (x2 : Int32) : entryFrame mM #[(.ref x0), (.int x1), (.int x2)] 5 = mkF mM 0 #[.val (.ref x0), .val (.int x1), .val (.int x2), .unset, .unset] [] := by first | (simp [entryFrame, mkF, argsToLocals, Value.category]; done) | rfl
def Q_crb (Z : State) (d : Addr) (c : Int32) (h0 : Heap) (n0 : Nat) (v_ : Option Value) (h_ : Heap) (L_ : List Loc) : Prop := ∃ d2 : Addr, v_ = some (.ref d2) ∧ Fr n0 L_ ∧ Keep h0 h_ [] ∧ h0.size ≤ d2 ∧ own_B Z h_ d2 c
set_option maxRecDepth 65536 in
set_option maxHeartbeats 40000000 in
theorem rm_crb (l : Launch) (Z : State) (a0 : Array Value) (hw : ∀ d ∈ tables_1, d.before a0 Z = true) (ws : List Jvm.Cond) (d : Addr) (c : Int32) (h0 : Heap) (n0 : Nat) (Z0 : n0 ≤ h0.size) (B_d : own_B Z h0 d (34 : Int32)) (hc0 : ¬ c < 0) (hc4 : c < (34 : Int32)) (hcap : c.toNatClampNeg ≤ 34) (hcq : own_cp (0 : Int32) (0 : Int32) c (34 : Int32) c) (hne : ¬ c = (34 : Int32)) :
    MetFree l (⟨"java/util/Arrays", "copyOfRangeByte", "([BII)[B"⟩ : MethodName) (head1 (Jvm.Cond.code (⟨"java/util/Arrays", "copyOfRangeByte", "([BII)[B"⟩ : MethodName) jdk_65_method_133_code 5 (some (.array .byte)) :: ws) oR6) (fun aa_ U_ => aa_ = #[(.ref d), (.int (0 : Int32)), (.int c)] ∧ Z.Warmed39 U_.vm ∧ U_.heap = h0) (fun _ _ _ _ _ => True) (fun _ U_ o_ U'_ => ∃ v_ L_, o_ = .returned v_ ∧ Q_crb Z d c h0 n0 v_ U'_.heap L_ ∧ FrameEnd U_ o_ U'_ L_ oR6.cells oR6.slots) := by
  refine MetFree.of_bodySF (plainFor_of_name pn_4) hisR ?_
  intro pP eE sS mM argsA below meth cC s₁ Bd hml0 hP hK
  obtain ⟨rfl, hZ, hh⟩ := hP
  have hx := Bd.exec
  have hby := Bd.bytes
  have hml : cC.maxLocals = 5 := hml0
  have hown : sS.vm.findClass "java/util/Arrays" = some mM.cls := findClass_of_methodNamed Bd.named
  have hnm := (name_of_methodNamed Bd.named Bd.method).1
  have X0 : Stand pP l eE oR6 sS mM #[(.ref d), (.int (0 : Int32)), (.int c)] below meth cC s₁ [] 0 0 := Stand.of_body Bd
  have e0 : s₁.heap = h0 := by rw [← hh, Bd.state]; rfl
  have N0 := Fr.nil n0
  have pre0 : ∀ t_, Steps pP.tables eE below (s₁.setTop (mkF mM 0 #[.val (.ref d), .val (.int (0 : Int32)), .val (.int c), .unset, .unset] [])) t_ → Steps pP.tables eE below (s₁.setTop (entryFrame mM #[(.ref d), (.int (0 : Int32)), (.int c)] 5)) t_ := fun t_ k_ => castTop (ef_crb mM d (0 : Int32) c) k_
  obtain ⟨_, _, ⟨T_1, L_1, k_1, n_1⟩, -, X_1, ⟨Lc_1, hQ_1, l_1, y_1, z_1⟩, st_1⟩ := Jvm.LawKit.callS X0 hx (y := MN17) hown (mvT hZ (ow hw 180 rfl)) (mvT hZ (ow hw 181 rfl)) (mvT hZ (ow hw 140 rfl)) (mvT hZ (ow hw 182 rfl)) (by decide) (backOf (W := 0) (rm_chk l Z a0 hw [] c h0 n0 Z0 hc0) hZ (ow hw 182 rfl) (ow hw 140 rfl) (by decide) (by decide)) (g := (mkF mM 2 #[.val (.ref d), .val (.int (0 : Int32)), .val (.int c), .unset, .unset] [(.int c), (.int (0 : Int32))])) rfl (by rw [hml]; rfl) (argsL := [(.int (0 : Int32)), (.int c)]) (rest := []) (lenOf pd_14 rfl) rfl (by show 2 * 0 + _ ≤ _; exact Nat.le_of_eq rfl) (hb hby d_jdk_65m133_2) (fun _ _ => ⟨rfl, e0, (by decide : 0 + 0 ≤ _), (by decide : 0 + 0 ≤ _)⟩)
  dsimp only [Pt.U, Pt.locs, Pt.cells, Pt.slots] at X_1 l_1 y_1 z_1 st_1 hQ_1
  subst l_1 y_1 z_1
  obtain ⟨rfl, N_1q, eh_1⟩ := hQ_1
  have N_1 := Fr.app N0 N_1q
  obtain ⟨T_2, h_2, k_2, X_2, e_2, E_2, A_2, st_2⟩ := newP X_1 hx hZ (ow hw 38 rfl) eh_1 (g := (mkF mM 10 #[.val (.ref d), .val (.int (0 : Int32)), .val (.int c), .val (.int c), .unset] [(.int c)])) rfl (hb hby d_jdk_65m133_10) rfl hc0 (cap := 34) hcap (by decide) (by decide) (by decide)
  obtain ⟨b_2, g_2⟩ : ∃ z, z = h0.size := ⟨_, rfl⟩
  rw [← g_2] at A_2 st_2
  have g_b_2 : n0 ≤ b_2 := Nat.le_trans Z0 (Nat.le_of_eq g_2.symm)
  have sz_b_2 : h0.size ≤ b_2 := Nat.le_trans (Keep.refl h0 []).1 (Nat.le_of_eq g_2.symm)
  have Z_2 : n0 ≤ h_2.size := (Nat.le_trans Z0 E_2.1)
  have K_2 : Keep h0 h_2 [] := (Keep.refl h0 []).ext E_2
  have B_b_2 : own_B Z h_2 b_2 c := own_B.new A_2 hc0
  obtain ⟨kk_3, vs_3, ⟨cl_3, Ar_3, -, Sa_3, Na_3, -, -⟩, -⟩ := id (B_d.ext E_2)
  obtain ⟨_, _, ⟨T_4, L_4, k_4, n_4⟩, -, X_4, ⟨Lc_4, hQ_4, l_4, y_4, z_4⟩, st_4⟩ := Jvm.LawKit.callS X_2 hx (y := MN4) hown (mvT hZ (ow hw 142 rfl)) (mvT hZ (ow hw 143 rfl)) (mvT hZ (ow hw 134 rfl)) (mvT hZ (ow hw 144 rfl)) (by decide) (backOf (W := 4) (rm_min l Z a0 hw [] (34 : Int32) c h_2 n0 Z_2 hc4) hZ (ow hw 144 rfl) (ow hw 134 rfl) (by decide) (by decide)) (g := (mkF mM 24 #[.val (.ref d), .val (.int (0 : Int32)), .val (.int c), .val (.int c), .val (.ref b_2)] [(.int c), (.int (34 : Int32)), (.int (0 : Int32)), (.ref b_2), (.int (0 : Int32)), (.ref d)])) rfl (by rw [hml]; rfl) (argsL := [(.int (34 : Int32)), (.int c)]) (rest := [(.int (0 : Int32)), (.ref b_2), (.int (0 : Int32)), (.ref d)]) (lenOf pd_2 rfl) rfl (by show 2 * 0 + _ ≤ _; exact Nat.le_of_eq rfl) (hb hby d_jdk_65m133_24) (fun _ _ => ⟨rfl, e_2, (by decide : 1 + 0 ≤ _), (by decide : 34 + 0 ≤ _)⟩)
  dsimp only [Pt.U, Pt.locs, Pt.cells, Pt.slots] at X_4 l_4 y_4 z_4 st_4 hQ_4
  subst l_4 y_4 z_4
  obtain ⟨rfl, N_4q, eh_4⟩ := hQ_4
  have N_4 := Fr.app N_1 N_4q
  have cpb_5 : own_cp (0 : Int32) (0 : Int32) c (34 : Int32) c := hcq
  obtain ⟨ka_5, va_5, Aa_5, la_5⟩ := id (B_d.ext E_2)
  obtain ⟨kb_5, vb_5, Ab_5, lb_5⟩ := id B_b_2
  obtain ⟨T_5, h_5, L_5, X_5, e_5, N_5, Kc_5, Vq_5, st_5⟩ := cpA X_4 hx hZ hown (ow hw 145 rfl) (ow hw 98 rfl) (ow hw 96 rfl) (ow hw 97 rfl) eh_4 Aa_5 Ab_5 (Or.inl ⟨rfl, rfl⟩) (sp := (0 : Int32)) (dp := (0 : Int32)) (nn := c) cpb_5.1 cpb_5.2.1 cpb_5.2.2.1 cpb_5.2.2.2.1 cpb_5.2.2.2.2 rfl (Nat.le_trans cpb_5.2.2.2.2 lb_5) N_4 g_b_2 (g := (mkF mM 27 #[.val (.ref d), .val (.int (0 : Int32)), .val (.int c), .val (.int c), .val (.ref b_2)] [(.int c), (.int (0 : Int32)), (.ref b_2), (.int (0 : Int32)), (.ref d)])) rfl (by rw [hml]; rfl) rfl (hb hby d_jdk_65m133_27) (by decide) (W := 0) (by show 2 * 0 + _ ≤ _; exact Nat.le_of_eq rfl) (by decide)
  have Z_5 : n0 ≤ h_5.size := (Nat.le_trans Z_2 Kc_5.1)
  have K_5 : Keep h0 h_5 [] := K_2.trans Kc_5 (allS (Or.inr sz_b_2) all0)
  have Bq_5 : own_B Z h_5 b_2 c := own_B.cp Vq_5 (Nat.le_trans cpb_5.2.2.2.2 lb_5) lb_5
  obtain ⟨fs, hr, hrun, hended, hW, hsame⟩ := X_5.leave (v := some (.ref b_2)) (fun h => by rw [Bd.returns] at h; cases h)
  refine ⟨_, _, pre0 _ ?_, hrun, hended, _, _, rfl, ?_, ⟨_, rfl⟩, hW, hsame.mono (by decide) (by decide)⟩
  · show oS pP eE below s₁ (mkF mM 0 #[.val (.ref d), .val (.int (0 : Int32)), .val (.int c), .unset, .unset] []) _
    refine XS.iloadN X0.here hx rfl (hb hby d_jdk_65m133_0) rfl ?_
    refine XS.iloadN X0.here hx rfl (hb hby d_jdk_65m133_1) rfl ?_
    show oS pP eE below s₁ (mkF mM 2 #[.val (.ref d), .val (.int (0 : Int32)), .val (.int c), .unset, .unset] [(.int c), (.int (0 : Int32))]) _
    refine st_1 _ ?_
    show oS pP eE below T_1 (mkF mM 5 #[.val (.ref d), .val (.int (0 : Int32)), .val (.int c), .unset, .unset] []) _
    refine XS.iloadN X_1.here hx rfl (hb hby d_jdk_65m133_5) rfl ?_
    refine XS.iloadN X_1.here hx rfl (hb hby d_jdk_65m133_6) rfl ?_
    show oS pP eE below T_1 (mkF mM 7 #[.val (.ref d), .val (.int (0 : Int32)), .val (.int c), .unset, .unset] [(.int (0 : Int32)), (.int c)]) _
    refine XS.isub X_1.here hx rfl (hb hby d_jdk_65m133_7) rfl ?_
    show Steps pP.tables eE below (T_1.setTop (mkF mM 8 #[.val (.ref d), .val (.int (0 : Int32)), .val (.int c), .unset, .unset] [(.int (c - (0 : Int32)))])) _
    rw [(own_sub0 c)]
    refine XS.istoreN X_1.here hx rfl (hb hby d_jdk_65m133_8) rfl (l' := #[.val (.ref d), .val (.int (0 : Int32)), .val (.int c), .val (.int c), .unset]) rfl ?_
    refine XS.iloadN X_1.here hx rfl (hb hby d_jdk_65m133_9) rfl ?_
    show oS pP eE below T_1 (mkF mM 10 #[.val (.ref d), .val (.int (0 : Int32)), .val (.int c), .val (.int c), .unset] [(.int c)]) _
    refine st_2 _ ?_
    show oS pP eE below T_2 (mkF mM 12 #[.val (.ref d), .val (.int (0 : Int32)), .val (.int c), .val (.int c), .unset] [(.ref b_2)]) _
    refine XS.astore X_2.here hx rfl (hb hby d_jdk_65m133_12) rfl rfl (l' := #[.val (.ref d), .val (.int (0 : Int32)), .val (.int c), .val (.int c), .val (.ref b_2)]) rfl ?_
    refine XS.aloadN X_2.here hx rfl (hb hby d_jdk_65m133_14) rfl rfl ?_
    refine XS.iloadN X_2.here hx rfl (hb hby d_jdk_65m133_15) rfl ?_
    refine XS.aload X_2.here hx rfl (hb hby d_jdk_65m133_16) rfl rfl ?_
    refine XS.iconst X_2.here hx rfl (hb hby d_jdk_65m133_18) ?_
    refine XS.aloadN X_2.here hx rfl (hb hby d_jdk_65m133_19) rfl rfl ?_
    show oS pP eE below T_2 (mkF mM 20 #[.val (.ref d), .val (.int (0 : Int32)), .val (.int c), .val (.int c), .val (.ref b_2)] [(.ref d), (.int (0 : Int32)), (.ref b_2), (.int (0 : Int32)), (.ref d)]) _
    refine X_2.arraylength hx (by rw [e_2]; exact Ar_3.1) (State.isArrayOf_alike hZ.alike Ar_3.2.1) (g := (mkF mM 20 #[.val (.ref d), .val (.int (0 : Int32)), .val (.int c), .val (.int c), .val (.ref b_2)] [(.ref d), (.int (0 : Int32)), (.ref b_2), (.int (0 : Int32)), (.ref d)])) rfl rfl (hb hby d_jdk_65m133_20) _ ?_
    rw [len_of Sa_3 Na_3]
    refine XS.iloadN X_2.here hx rfl (hb hby d_jdk_65m133_21) rfl ?_
    show oS pP eE below T_2 (mkF mM 22 #[.val (.ref d), .val (.int (0 : Int32)), .val (.int c), .val (.int c), .val (.ref b_2)] [(.int (0 : Int32)), (.int (34 : Int32)), (.int (0 : Int32)), (.ref b_2), (.int (0 : Int32)), (.ref d)]) _
    refine XS.isub X_2.here hx rfl (hb hby d_jdk_65m133_22) rfl ?_
    show Steps pP.tables eE below (T_2.setTop (mkF mM 23 #[.val (.ref d), .val (.int (0 : Int32)), .val (.int c), .val (.int c), .val (.ref b_2)] [(.int ((34 : Int32) - (0 : Int32))), (.int (0 : Int32)), (.ref b_2), (.int (0 : Int32)), (.ref d)])) _
    rw [(by decide : ((34 : Int32) - (0 : Int32)) = (34 : Int32))]
    refine XS.iloadN X_2.here hx rfl (hb hby d_jdk_65m133_23) rfl ?_
    show oS pP eE below T_2 (mkF mM 24 #[.val (.ref d), .val (.int (0 : Int32)), .val (.int c), .val (.int c), .val (.ref b_2)] [(.int c), (.int (34 : Int32)), (.int (0 : Int32)), (.ref b_2), (.int (0 : Int32)), (.ref d)]) _
    refine st_4 _ ?_
    show oS pP eE below T_4 (mkF mM 27 #[.val (.ref d), .val (.int (0 : Int32)), .val (.int c), .val (.int c), .val (.ref b_2)] [(.int c), (.int (0 : Int32)), (.ref b_2), (.int (0 : Int32)), (.ref d)]) _
    refine st_5 _ ?_
    show oS pP eE below T_5 (mkF mM 30 #[.val (.ref d), .val (.int (0 : Int32)), .val (.int c), .val (.int c), .val (.ref b_2)] []) _
    refine XS.aload X_5.here hx rfl (hb hby d_jdk_65m133_30) rfl rfl ?_
    show oS pP eE below T_5 (mkF mM 32 #[.val (.ref d), .val (.int (0 : Int32)), .val (.int c), .val (.int c), .val (.ref b_2)] [(.ref b_2)]) _
    exact retOut X_5 hx Bd.returns rfl (Or.inr (Or.inr (Or.inr (Or.inr ⟨rfl, rfl, rfl⟩)))) (hb hby d_jdk_65m133_32) hr
  · show Q_crb Z d c h0 n0 _ T_5.heap _
    rw [e_5]
    exact ⟨b_2, rfl, N_5, K_5, sz_b_2, Bq_5⟩
theorem d_jdk_65m132_0 : decode jdk_65_method_132_code 0 = .ok (.iload_n 1, 1) := by decide +kernel
theorem d_jdk_65m132_1 : decode jdk_65_method_132_code 1 = .ok (.ifCond .ne 9, 3) := by decide +kernel
theorem d_jdk_65m132_4 : decode jdk_65_method_132_code 4 = .ok (.iload_n 2, 1) := by decide +kernel
theorem d_jdk_65m132_5 : decode jdk_65_method_132_code 5 = .ok (.aload_n 0, 1) := by decide +kernel
theorem d_jdk_65m132_6 : decode jdk_65_method_132_code 6 = .ok (.arraylength, 1) := by decide +kernel
theorem d_jdk_65m132_7 : decode jdk_65_method_132_code 7 = .ok (.if_icmp .eq 10, 3) := by decide +kernel
theorem d_jdk_65m132_10 : decode jdk_65_method_132_code 10 = .ok (.aload_n 0, 1) := by decide +kernel
theorem d_jdk_65m132_11 : decode jdk_65_method_132_code 11 = .ok (.iload_n 1, 1) := by decide +kernel
theorem d_jdk_65m132_12 : decode jdk_65_method_132_code 12 = .ok (.iload_n 2, 1) := by decide +kernel
theorem d_jdk_65m132_13 : decode jdk_65_method_132_code 13 = .ok (.invokestatic 339, 3) := by decide +kernel
theorem pd_15 : parseMethodDescriptor "([BII)[B" = some ⟨[(.array .byte), .int, .int], some (.array .byte)⟩ := by decide +kernel
abbrev MN18 : MethodName := ⟨"java/util/Arrays", "copyOfRangeByte", "([BII)[B"⟩
theorem d_jdk_65m132_16 : decode jdk_65_method_132_code 16 = .ok (.areturn, 1) := by decide +kernel
theorem ef_cor (mM : MethodId) (x0 : Addr) (x1 : Int32) (x2 : Int32) : entryFrame mM #[(.ref x0), (.int x1), (.int x2)] 3 = mkF mM 0 #[.val (.ref x0), .val (.int x1), .val (.int x2)] [] := by first | (simp [entryFrame, mkF, argsToLocals, Value.category]; done) | rfl
def Q_cor (Z : State) (d : Addr) (c : Int32) (h0 : Heap) (n0 : Nat) (v_ : Option Value) (h_ : Heap) (L_ : List Loc) : Prop := ∃ d2 : Addr, v_ = some (.ref d2) ∧ Fr n0 L_ ∧ Keep h0 h_ [] ∧ h0.size ≤ d2 ∧ own_B Z h_ d2 c
set_option maxRecDepth 65536 in
set_option maxHeartbeats 40000000 in
theorem rm_cor (l : Launch) (Z : State) (a0 : Array Value) (hw : ∀ d ∈ tables_1, d.before a0 Z = true) (ws : List Jvm.Cond) (d : Addr) (c : Int32) (h0 : Heap) (n0 : Nat) (Z0 : n0 ≤ h0.size) (B_d : own_B Z h0 d (34 : Int32)) (hc0 : ¬ c < 0) (hc4 : c < (34 : Int32)) (hcap : c.toNatClampNeg ≤ 34) (hcq : own_cp (0 : Int32) (0 : Int32) c (34 : Int32) c) (hne : ¬ c = (34 : Int32)) :
    MetFree l (⟨"java/util/Arrays", "copyOfRange", "([BII)[B"⟩ : MethodName) (head1 (Jvm.Cond.code (⟨"java/util/Arrays", "copyOfRange", "([BII)[B"⟩ : MethodName) jdk_65_method_132_code 3 (some (.array .byte)) :: ws) oR15) (fun aa_ U_ => aa_ = #[(.ref d), (.int (0 : Int32)), (.int c)] ∧ Z.Warmed39 U_.vm ∧ U_.heap = h0) (fun _ _ _ _ _ => True) (fun _ U_ o_ U'_ => ∃ v_ L_, o_ = .returned v_ ∧ Q_cor Z d c h0 n0 v_ U'_.heap L_ ∧ FrameEnd U_ o_ U'_ L_ oR15.cells oR15.slots) := by
  refine MetFree.of_bodySF (plainFor_of_name pn_4) hisR ?_
  intro pP eE sS mM argsA below meth cC s₁ Bd hml0 hP hK
  obtain ⟨rfl, hZ, hh⟩ := hP
  have hx := Bd.exec
  have hby := Bd.bytes
  have hml : cC.maxLocals = 3 := hml0
  have hown : sS.vm.findClass "java/util/Arrays" = some mM.cls := findClass_of_methodNamed Bd.named
  have hnm := (name_of_methodNamed Bd.named Bd.method).1
  have X0 : Stand pP l eE oR15 sS mM #[(.ref d), (.int (0 : Int32)), (.int c)] below meth cC s₁ [] 0 0 := Stand.of_body Bd
  have e0 : s₁.heap = h0 := by rw [← hh, Bd.state]; rfl
  have N0 := Fr.nil n0
  have pre0 : ∀ t_, Steps pP.tables eE below (s₁.setTop (mkF mM 0 #[.val (.ref d), .val (.int (0 : Int32)), .val (.int c)] [])) t_ → Steps pP.tables eE below (s₁.setTop (entryFrame mM #[(.ref d), (.int (0 : Int32)), (.int c)] 3)) t_ := fun t_ k_ => castTop (ef_cor mM d (0 : Int32) c) k_
  obtain ⟨kk_1, vs_1, ⟨cl_1, Ar_1, -, Sa_1, Na_1, -, -⟩, -⟩ := id B_d
  obtain ⟨_, _, ⟨T_2, L_2, k_2, n_2⟩, -, X_2, ⟨Lc_2, hQ_2, l_2, y_2, z_2⟩, st_2⟩ := Jvm.LawKit.callS X0 hx (y := MN18) hown (mvT hZ (ow hw 177 rfl)) (mvT hZ (ow hw 178 rfl)) (mvT hZ (ow hw 140 rfl)) (mvT hZ (ow hw 179 rfl)) (by decide) (backOf (W := 0) (rm_crb l Z a0 hw [] d c h0 n0 Z0 B_d hc0 hc4 hcap hcq hne) hZ (ow hw 179 rfl) (ow hw 140 rfl) (by decide) (by decide)) (g := (mkF mM 13 #[.val (.ref d), .val (.int (0 : Int32)), .val (.int c)] [(.int c), (.int (0 : Int32)), (.ref d)])) rfl (by rw [hml]; rfl) (argsL := [(.ref d), (.int (0 : Int32)), (.int c)]) (rest := []) (lenOf pd_15 rfl) rfl (by show 2 * 0 + _ ≤ _; exact Nat.le_of_eq rfl) (hb hby d_jdk_65m132_13) (fun _ _ => ⟨rfl, e0, (by decide : 0 + 1 ≤ _), (by decide : 0 + 34 ≤ _)⟩)
  dsimp only [Pt.U, Pt.locs, Pt.cells, Pt.slots] at X_2 l_2 y_2 z_2 st_2 hQ_2
  subst l_2 y_2 z_2
  obtain ⟨d2__2, ⟨rfl, N_2q, Kc_2, pfsz_d2_2, pfB_d2_2⟩⟩ := hQ_2
  have Z_2 : n0 ≤ T_2.heap.size := (Nat.le_trans Z0 Kc_2.1)
  have K_2 : Keep h0 T_2.heap [] := (Keep.refl h0 []).trans Kc_2 all0
  have sz_d2__2 : h0.size ≤ d2__2 := Nat.le_trans (Keep.refl h0 []).1 pfsz_d2_2
  have g_d2__2 : n0 ≤ d2__2 := Nat.le_trans Z0 pfsz_d2_2
  have N_2 := Fr.app N0 N_2q
  obtain ⟨fs, hr, hrun, hended, hW, hsame⟩ := X_2.leave (v := some (.ref d2__2)) (fun h => by rw [Bd.returns] at h; cases h)
  refine ⟨_, _, pre0 _ ?_, hrun, hended, _, _, rfl, ?_, ⟨_, rfl⟩, hW, hsame.mono (by decide) (by decide)⟩
  · show oS pP eE below s₁ (mkF mM 0 #[.val (.ref d), .val (.int (0 : Int32)), .val (.int c)] []) _
    refine XS.iloadN X0.here hx rfl (hb hby d_jdk_65m132_0) rfl ?_
    refine XS.ifNo X0.here hx rfl (hb hby d_jdk_65m132_1) rfl (by decide) ?_
    refine XS.iloadN X0.here hx rfl (hb hby d_jdk_65m132_4) rfl ?_
    refine XS.aloadN X0.here hx rfl (hb hby d_jdk_65m132_5) rfl rfl ?_
    show oS pP eE below s₁ (mkF mM 6 #[.val (.ref d), .val (.int (0 : Int32)), .val (.int c)] [(.ref d), (.int c)]) _
    refine X0.arraylength hx (by rw [e0]; exact Ar_1.1) (State.isArrayOf_alike hZ.alike Ar_1.2.1) (g := (mkF mM 6 #[.val (.ref d), .val (.int (0 : Int32)), .val (.int c)] [(.ref d), (.int c)])) rfl rfl (hb hby d_jdk_65m132_6) _ ?_
    rw [len_of Sa_1 Na_1]
    refine XS.icmpNo X0.here hx rfl (hb hby d_jdk_65m132_7) rfl (XT.ii_eq_f hne) ?_
    refine XS.aloadN X0.here hx rfl (hb hby d_jdk_65m132_10) rfl rfl ?_
    refine XS.iloadN X0.here hx rfl (hb hby d_jdk_65m132_11) rfl ?_
    refine XS.iloadN X0.here hx rfl (hb hby d_jdk_65m132_12) rfl ?_
    show oS pP eE below s₁ (mkF mM 13 #[.val (.ref d), .val (.int (0 : Int32)), .val (.int c)] [(.int c), (.int (0 : Int32)), (.ref d)]) _
    refine st_2 _ ?_
    show oS pP eE below T_2 (mkF mM 16 #[.val (.ref d), .val (.int (0 : Int32)), .val (.int c)] [(.ref d2__2)]) _
    exact retOut X_2 hx Bd.returns rfl (Or.inr (Or.inr (Or.inr (Or.inr ⟨rfl, rfl, rfl⟩)))) (hb hby d_jdk_65m132_16) hr
  · show Q_cor Z d c h0 n0 _ T_2.heap _
    exact ⟨d2__2, rfl, N_2, K_2, sz_d2__2, pfB_d2_2⟩
theorem d_jdk_68m64_0 : decode jdk_68_method_64_code 0 = .ok (.aload_n 0, 1) := by decide +kernel
theorem d_jdk_68m64_1 : decode jdk_68_method_64_code 1 = .ok (.getfield 15, 3) := by decide +kernel
theorem d_jdk_68m64_4 : decode jdk_68_method_64_code 4 = .ok (.areturn, 1) := by decide +kernel
theorem ef_gv (mM : MethodId) (x0 : Addr) : entryFrame mM #[(.ref x0)] 1 = mkF mM 0 #[.val (.ref x0)] [] := by first | (simp [entryFrame, mkF, argsToLocals, Value.category]; done) | rfl
def Q_gv (Z : State) (b : Addr) (d : Addr) (h0 : Heap) (n0 : Nat) (v_ : Option Value) (h_ : Heap) (L_ : List Loc) : Prop := v_ = some (.ref d) ∧ Fr n0 L_ ∧ h_ = h0
set_option maxRecDepth 65536 in
set_option maxHeartbeats 40000000 in
theorem rm_gv (l : Launch) (Z : State) (a0 : Array Value) (hw : ∀ d ∈ tables_1, d.before a0 Z = true) (ws : List Jvm.Cond) (b : Addr) (d : Addr) (h0 : Heap) (n0 : Nat) (Z0 : n0 ≤ h0.size) (F_value_b : Fld Z h0 b "java/lang/AbstractStringBuilder" "value" "[B" (.ref d)) :
    MetFree l (⟨"java/lang/AbstractStringBuilder", "getValue", "()[B"⟩ : MethodName) (head1 (Jvm.Cond.code (⟨"java/lang/AbstractStringBuilder", "getValue", "()[B"⟩ : MethodName) jdk_68_method_64_code 1 (some (.array .byte)) :: ws) oR2) (fun aa_ U_ => aa_ = #[(.ref b)] ∧ Z.Warmed39 U_.vm ∧ U_.heap = h0) (fun _ _ _ _ _ => True) (fun _ U_ o_ U'_ => ∃ v_ L_, o_ = .returned v_ ∧ Q_gv Z b d h0 n0 v_ U'_.heap L_ ∧ FrameEnd U_ o_ U'_ L_ oR2.cells oR2.slots) := by
  refine MetFree.of_bodySF (plainFor_of_name pn_0) hisR ?_
  intro pP eE sS mM argsA below meth cC s₁ Bd hml0 hP hK
  obtain ⟨rfl, hZ, hh⟩ := hP
  have hx := Bd.exec
  have hby := Bd.bytes
  have hml : cC.maxLocals = 1 := hml0
  have hown : sS.vm.findClass "java/lang/AbstractStringBuilder" = some mM.cls := findClass_of_methodNamed Bd.named
  have hnm := (name_of_methodNamed Bd.named Bd.method).1
  have X0 : Stand pP l eE oR2 sS mM #[(.ref b)] below meth cC s₁ [] 0 0 := Stand.of_body Bd
  have e0 : s₁.heap = h0 := by rw [← hh, Bd.state]; rfl
  have N0 := Fr.nil n0
  have pre0 : ∀ t_, Steps pP.tables eE below (s₁.setTop (mkF mM 0 #[.val (.ref b)] [])) t_ → Steps pP.tables eE below (s₁.setTop (entryFrame mM #[(.ref b)] 1)) t_ := fun t_ k_ => castTop (ef_gv mM b) k_
  obtain ⟨T_1, X_1, e_1, st_1⟩ := getF X0 hx hZ hown (host := "") (Or.inl (ow hw 39 rfl)) Via.refl e0 F_value_b (g := (mkF mM 1 #[.val (.ref b)] [(.ref b)])) rfl rfl (hb hby d_jdk_68m64_1)
  obtain ⟨fs, hr, hrun, hended, hW, hsame⟩ := X_1.leave (v := some (.ref d)) (fun h => by rw [Bd.returns] at h; cases h)
  refine ⟨_, _, pre0 _ ?_, hrun, hended, _, _, rfl, ?_, ⟨_, rfl⟩, hW, hsame.mono (by decide) (by decide)⟩
  · show oS pP eE below s₁ (mkF mM 0 #[.val (.ref b)] []) _
    refine XS.aloadN X0.here hx rfl (hb hby d_jdk_68m64_0) rfl rfl ?_
    show oS pP eE below s₁ (mkF mM 1 #[.val (.ref b)] [(.ref b)]) _
    refine st_1 _ ?_
    show oS pP eE below T_1 (mkF mM 4 #[.val (.ref b)] [(.ref d)]) _
    exact retOut X_1 hx Bd.returns rfl (Or.inr (Or.inr (Or.inr (Or.inr ⟨rfl, rfl, rfl⟩)))) (hb hby d_jdk_68m64_4) hr
  · show Q_gv Z b d h0 n0 _ T_1.heap _
    rw [e_1]
    exact ⟨rfl, N0, rfl⟩
theorem d_jdk_68m6_0 : decode jdk_68_method_6_code 0 = .ok (.aload_n 0, 1) := by decide +kernel
theorem d_jdk_68m6_1 : decode jdk_68_method_6_code 1 = .ok (.getfield 79, 3) := by decide +kernel
theorem d_jdk_68m6_4 : decode jdk_68_method_6_code 4 = .ok (.ireturn, 1) := by decide +kernel
theorem ef_alen (mM : MethodId) (x0 : Addr) : entryFrame mM #[(.ref x0)] 1 = mkF mM 0 #[.val (.ref x0)] [] := by first | (simp [entryFrame, mkF, argsToLocals, Value.category]; done) | rfl
def Q_alen (Z : State) (b : Addr) (c : Int32) (h0 : Heap) (n0 : Nat) (v_ : Option Value) (h_ : Heap) (L_ : List Loc) : Prop := v_ = some (.int c) ∧ Fr n0 L_ ∧ h_ = h0
set_option maxRecDepth 65536 in
set_option maxHeartbeats 40000000 in
theorem rm_alen (l : Launch) (Z : State) (a0 : Array Value) (hw : ∀ d ∈ tables_1, d.before a0 Z = true) (ws : List Jvm.Cond) (b : Addr) (c : Int32) (h0 : Heap) (n0 : Nat) (Z0 : n0 ≤ h0.size) (F_count_b : Fld Z h0 b "java/lang/AbstractStringBuilder" "count" "I" (.int c)) :
    MetFree l (⟨"java/lang/AbstractStringBuilder", "length", "()I"⟩ : MethodName) (head1 (Jvm.Cond.code (⟨"java/lang/AbstractStringBuilder", "length", "()I"⟩ : MethodName) jdk_68_method_6_code 1 (some .int) :: ws) oR2) (fun aa_ U_ => aa_ = #[(.ref b)] ∧ Z.Warmed39 U_.vm ∧ U_.heap = h0) (fun _ _ _ _ _ => True) (fun _ U_ o_ U'_ => ∃ v_ L_, o_ = .returned v_ ∧ Q_alen Z b c h0 n0 v_ U'_.heap L_ ∧ FrameEnd U_ o_ U'_ L_ oR2.cells oR2.slots) := by
  refine MetFree.of_bodySF (plainFor_of_name pn_0) hisR ?_
  intro pP eE sS mM argsA below meth cC s₁ Bd hml0 hP hK
  obtain ⟨rfl, hZ, hh⟩ := hP
  have hx := Bd.exec
  have hby := Bd.bytes
  have hml : cC.maxLocals = 1 := hml0
  have hown : sS.vm.findClass "java/lang/AbstractStringBuilder" = some mM.cls := findClass_of_methodNamed Bd.named
  have hnm := (name_of_methodNamed Bd.named Bd.method).1
  have X0 : Stand pP l eE oR2 sS mM #[(.ref b)] below meth cC s₁ [] 0 0 := Stand.of_body Bd
  have e0 : s₁.heap = h0 := by rw [← hh, Bd.state]; rfl
  have N0 := Fr.nil n0
  have pre0 : ∀ t_, Steps pP.tables eE below (s₁.setTop (mkF mM 0 #[.val (.ref b)] [])) t_ → Steps pP.tables eE below (s₁.setTop (entryFrame mM #[(.ref b)] 1)) t_ := fun t_ k_ => castTop (ef_alen mM b) k_
  obtain ⟨T_1, X_1, e_1, st_1⟩ := getF X0 hx hZ hown (host := "") (Or.inl (ow hw 72 rfl)) Via.refl e0 F_count_b (g := (mkF mM 1 #[.val (.ref b)] [(.ref b)])) rfl rfl (hb hby d_jdk_68m6_1)
  obtain ⟨fs, hr, hrun, hended, hW, hsame⟩ := X_1.leave (v := some (.int c)) (fun h => by rw [Bd.returns] at h; cases h)
  refine ⟨_, _, pre0 _ ?_, hrun, hended, _, _, rfl, ?_, ⟨_, rfl⟩, hW, hsame.mono (by decide) (by decide)⟩
  · show oS pP eE below s₁ (mkF mM 0 #[.val (.ref b)] []) _
    refine XS.aloadN X0.here hx rfl (hb hby d_jdk_68m6_0) rfl rfl ?_
    show oS pP eE below s₁ (mkF mM 1 #[.val (.ref b)] [(.ref b)]) _
    refine st_1 _ ?_
    show oS pP eE below T_1 (mkF mM 4 #[.val (.ref b)] [(.int c)]) _
    exact retI X_1 hx Bd.returns (hb hby d_jdk_68m6_4) hr
  · show Q_alen Z b c h0 n0 _ T_1.heap _
    rw [e_1]
    exact ⟨rfl, N0, rfl⟩
theorem d_jdk_67m93_0 : decode jdk_67_method_93_code 0 = .ok (.aload_n 0, 1) := by decide +kernel
theorem d_jdk_67m93_1 : decode jdk_67_method_93_code 1 = .ok (.invokespecial 343, 3) := by decide +kernel
abbrev MN19 : MethodName := ⟨"java/lang/AbstractStringBuilder", "length", "()I"⟩
theorem d_jdk_67m93_4 : decode jdk_67_method_93_code 4 = .ok (.ireturn, 1) := by decide +kernel
theorem ef_blen (mM : MethodId) (x0 : Addr) : entryFrame mM #[(.ref x0)] 1 = mkF mM 0 #[.val (.ref x0)] [] := by first | (simp [entryFrame, mkF, argsToLocals, Value.category]; done) | rfl
def Q_blen (Z : State) (b : Addr) (c : Int32) (h0 : Heap) (n0 : Nat) (v_ : Option Value) (h_ : Heap) (L_ : List Loc) : Prop := v_ = some (.int c) ∧ Fr n0 L_ ∧ h_ = h0
set_option maxRecDepth 65536 in
set_option maxHeartbeats 40000000 in
theorem rm_blen (l : Launch) (Z : State) (a0 : Array Value) (hw : ∀ d ∈ tables_1, d.before a0 Z = true) (ws : List Jvm.Cond) (b : Addr) (c : Int32) (h0 : Heap) (n0 : Nat) (Z0 : n0 ≤ h0.size) (F_count_b : Fld Z h0 b "java/lang/AbstractStringBuilder" "count" "I" (.int c)) (E_b : Exa Z h0 b "java/lang/StringBuilder") :
    MetFree l (⟨"java/lang/StringBuilder", "length", "()I"⟩ : MethodName) (head1 (Jvm.Cond.code (⟨"java/lang/StringBuilder", "length", "()I"⟩ : MethodName) jdk_67_method_93_code 1 (some .int) :: ws) oR16) (fun aa_ U_ => aa_ = #[(.ref b)] ∧ Z.Warmed39 U_.vm ∧ U_.heap = h0) (fun _ _ _ _ _ => True) (fun _ U_ o_ U'_ => ∃ v_ L_, o_ = .returned v_ ∧ Q_blen Z b c h0 n0 v_ U'_.heap L_ ∧ FrameEnd U_ o_ U'_ L_ oR16.cells oR16.slots) := by
  refine MetFree.of_bodySF (plainFor_of_name pn_1) hisR ?_
  intro pP eE sS mM argsA below meth cC s₁ Bd hml0 hP hK
  obtain ⟨rfl, hZ, hh⟩ := hP
  have hx := Bd.exec
  have hby := Bd.bytes
  have hml : cC.maxLocals = 1 := hml0
  have hown : sS.vm.findClass "java/lang/StringBuilder" = some mM.cls := findClass_of_methodNamed Bd.named
  have hnm := (name_of_methodNamed Bd.named Bd.method).1
  have X0 : Stand pP l eE oR16 sS mM #[(.ref b)] below meth cC s₁ [] 0 0 := Stand.of_body Bd
  have e0 : s₁.heap = h0 := by rw [← hh, Bd.state]; rfl
  have N0 := Fr.nil n0
  have pre0 : ∀ t_, Steps pP.tables eE below (s₁.setTop (mkF mM 0 #[.val (.ref b)] [])) t_ → Steps pP.tables eE below (s₁.setTop (entryFrame mM #[(.ref b)] 1)) t_ := fun t_ k_ => castTop (ef_blen mM b) k_
  obtain ⟨_, _, ⟨T_1, L_1, k_1, n_1⟩, -, X_1, ⟨Lc_1, hQ_1, l_1, y_1, z_1⟩, st_1⟩ := superBack X0 hx hZ (y := MN19) hown (ow hw 171 rfl) (own_same (y := MN19) (z := MN10) (ow hw 167 rfl) (ow hw 77 rfl) rfl (by decide)) (ow hw 167 rfl) (ow hw 56 rfl) (by decide) (backOf (W := 0) (rm_alen l Z a0 hw [] b c h0 n0 Z0 F_count_b) hZ (ow hw 172 rfl) (ow hw 33 rfl) (by decide) (by decide)) e0 (Ins.self E_b) (g := (mkF mM 1 #[.val (.ref b)] [(.ref b)])) rfl (by rw [hml]; rfl) (ow hw 172 rfl) (argsL := []) (rest := []) (lenOf pd_8 rfl) rfl (by show 2 * 0 + _ ≤ _; exact Nat.le_of_eq rfl) (hb hby d_jdk_67m93_1) (fun _ _ => ⟨rfl, e0, (by decide : 0 + 0 ≤ _), (by decide : 0 + 0 ≤ _)⟩)
  dsimp only [Pt.U, Pt.locs, Pt.cells, Pt.slots] at X_1 l_1 y_1 z_1 st_1 hQ_1
  subst l_1 y_1 z_1
  obtain ⟨rfl, N_1q, eh_1⟩ := hQ_1
  have N_1 := Fr.app N0 N_1q
  obtain ⟨fs, hr, hrun, hended, hW, hsame⟩ := X_1.leave (v := some (.int c)) (fun h => by rw [Bd.returns] at h; cases h)
  refine ⟨_, _, pre0 _ ?_, hrun, hended, _, _, rfl, ?_, ⟨_, rfl⟩, hW, hsame.mono (by decide) (by decide)⟩
  · show oS pP eE below s₁ (mkF mM 0 #[.val (.ref b)] []) _
    refine XS.aloadN X0.here hx rfl (hb hby d_jdk_67m93_0) rfl rfl ?_
    show oS pP eE below s₁ (mkF mM 1 #[.val (.ref b)] [(.ref b)]) _
    refine st_1.trans ?_
    show oS pP eE below T_1 (mkF mM 4 #[.val (.ref b)] [(.int c)]) _
    exact retI X_1 hx Bd.returns (hb hby d_jdk_67m93_4) hr
  · show Q_blen Z b c h0 n0 _ T_1.heap _
    rw [eh_1]
    exact ⟨rfl, N_1, rfl⟩
theorem d_jdk_42m150_0 : decode jdk_42_method_150_code 0 = .ok (.aload_n 0, 1) := by decide +kernel
theorem d_jdk_42m150_1 : decode jdk_42_method_150_code 1 = .ok (.invokespecial 1, 3) := by decide +kernel
theorem d_jdk_42m150_4 : decode jdk_42_method_150_code 4 = .ok (.aload_n 1, 1) := by decide +kernel
theorem d_jdk_42m150_5 : decode jdk_42_method_150_code 5 = .ok (.invokevirtual 552, 3) := by decide +kernel
theorem pd_16 : parseMethodDescriptor "()[B" = some ⟨[], some (.array .byte)⟩ := by decide +kernel
abbrev MN20 : MethodName := ⟨"java/lang/AbstractStringBuilder", "getValue", "()[B"⟩
theorem d_jdk_42m150_8 : decode jdk_42_method_150_code 8 = .ok (.astore_n 3, 1) := by decide +kernel
theorem d_jdk_42m150_9 : decode jdk_42_method_150_code 9 = .ok (.aload_n 1, 1) := by decide +kernel
theorem d_jdk_42m150_10 : decode jdk_42_method_150_code 10 = .ok (.invokevirtual 549, 3) := by decide +kernel
abbrev MN21 : MethodName := ⟨"java/lang/StringBuilder", "length", "()I"⟩
theorem d_jdk_42m150_13 : decode jdk_42_method_150_code 13 = .ok (.istore 4, 2) := by decide +kernel
theorem d_jdk_42m150_15 : decode jdk_42_method_150_code 15 = .ok (.aload_n 1, 1) := by decide +kernel
theorem d_jdk_42m150_16 : decode jdk_42_method_150_code 16 = .ok (.invokevirtual 1047, 3) := by decide +kernel
theorem d_jdk_42m150_19 : decode jdk_42_method_150_code 19 = .ok (.ifCond .eq 22, 3) := by decide +kernel
theorem d_jdk_42m150_22 : decode jdk_42_method_150_code 22 = .ok (.aload_n 0, 1) := by decide +kernel
theorem d_jdk_42m150_23 : decode jdk_42_method_150_code 23 = .ok (.iconst 0, 1) := by decide +kernel
theorem d_jdk_42m150_24 : decode jdk_42_method_150_code 24 = .ok (.putfield 15, 3) := by decide +kernel
theorem d_jdk_42m150_27 : decode jdk_42_method_150_code 27 = .ok (.aload_n 0, 1) := by decide +kernel
theorem d_jdk_42m150_28 : decode jdk_42_method_150_code 28 = .ok (.aload_n 3, 1) := by decide +kernel
theorem d_jdk_42m150_29 : decode jdk_42_method_150_code 29 = .ok (.iconst 0, 1) := by decide +kernel
theorem d_jdk_42m150_30 : decode jdk_42_method_150_code 30 = .ok (.iload 4, 2) := by decide +kernel
theorem d_jdk_42m150_32 : decode jdk_42_method_150_code 32 = .ok (.invokestatic 54, 3) := by decide +kernel
abbrev MN22 : MethodName := ⟨"java/util/Arrays", "copyOfRange", "([BII)[B"⟩
theorem d_jdk_42m150_35 : decode jdk_42_method_150_code 35 = .ok (.putfield 9, 3) := by decide +kernel
theorem d_jdk_42m150_38 : decode jdk_42_method_150_code 38 = .ok (.goto 59, 3) := by decide +kernel
theorem d_jdk_42m150_97 : decode jdk_42_method_150_code 97 = .ok (.return_, 1) := by decide +kernel
theorem ef_sia (mM : MethodId) (x0 : Addr) (x1 : Addr) : entryFrame mM #[(.ref x0), (.ref x1), .null] 5 = mkF mM 0 #[.val (.ref x0), .val (.ref x1), .val .null, .unset, .unset] [] := by first | (simp [entryFrame, mkF, argsToLocals, Value.category]; done) | rfl
def Q_sia (Z : State) (a : Addr) (b : Addr) (d : Addr) (c : Int32) (cs : Int32) (h0 : Heap) (n0 : Nat) (v_ : Option Value) (h_ : Heap) (L_ : List Loc) : Prop := v_ = none ∧ Fr n0 L_ ∧ Keep h0 h_ [a] ∧ Exa Z h_ a "java/lang/String"
set_option maxRecDepth 65536 in
set_option maxHeartbeats 40000000 in
theorem rm_sia (l : Launch) (Z : State) (a0 : Array Value) (hw : ∀ d ∈ tables_1, d.before a0 Z = true) (ws : List Jvm.Cond) (a : Addr) (b : Addr) (d : Addr) (c : Int32) (cs : Int32) (h0 : Heap) (n0 : Nat) (Z0 : n0 ≤ h0.size) (F_value_a : Fld Z h0 a "java/lang/String" "value" "[B" .null) (F_coder_a : Fld Z h0 a "java/lang/String" "coder" "B" (.int (0 : Int32))) (E_a : Exa Z h0 a "java/lang/String") (g_a : n0 ≤ a) (F_value_b : Fld Z h0 b "java/lang/AbstractStringBuilder" "value" "[B" (.ref d)) (F_coder_b : Fld Z h0 b "java/lang/AbstractStringBuilder" "coder" "B" (.int (0 : Int32))) (F_count_b : Fld Z h0 b "java/lang/AbstractStringBuilder" "count" "I" (.int c)) (E_b : Exa Z h0 b "java/lang/StringBuilder") (B_d : own_B Z h0 d (34 : Int32)) (nab : a ≠ b) (nad : a ≠ d) (hc0 : ¬ c < 0) (hc4 : c < (34 : Int32)) (hcap : c.toNatClampNeg ≤ 34) (hcq : own_cp (0 : Int32) (0 : Int32) c (34 : Int32) c) (hne : ¬ c = (34 : Int32)) (S_String_COMPACT_STRINGS : Sta Z h0 "java/lang/String" "COMPACT_STRINGS" "Z" (.int cs)) (hcs : ¬ cs = 0) :
    MetFree l (⟨"java/lang/String", "<init>", "(Ljava/lang/AbstractStringBuilder;Ljava/lang/Void;)V"⟩ : MethodName) (head1 (Jvm.Cond.code (⟨"java/lang/String", "<init>", "(Ljava/lang/AbstractStringBuilder;Ljava/lang/Void;)V"⟩ : MethodName) jdk_42_method_150_code 5 none :: ws) oR17) (fun aa_ U_ => aa_ = #[(.ref a), (.ref b), .null] ∧ Z.Warmed39 U_.vm ∧ U_.heap = h0) (fun _ _ _ _ _ => True) (fun _ U_ o_ U'_ => ∃ v_ L_, o_ = .returned v_ ∧ Q_sia Z a b d c cs h0 n0 v_ U'_.heap L_ ∧ FrameEnd U_ o_ U'_ L_ oR17.cells oR17.slots) := by
  refine MetFree.of_bodySF (plainFor_of_name pn_2) hisR ?_
  intro pP eE sS mM argsA below meth cC s₁ Bd hml0 hP hK
  obtain ⟨rfl, hZ, hh⟩ := hP
  have hx := Bd.exec
  have hby := Bd.bytes
  have hml : cC.maxLocals = 5 := hml0
  have hown : sS.vm.findClass "java/lang/String" = some mM.cls := findClass_of_methodNamed Bd.named
  have hnm := (name_of_methodNamed Bd.named Bd.method).1
  have X0 : Stand pP l eE oR17 sS mM #[(.ref a), (.ref b), .null] below meth cC s₁ [] 0 0 := Stand.of_body Bd
  have e0 : s₁.heap = h0 := by rw [← hh, Bd.state]; rfl
  have N0 := Fr.nil n0
  have pre0 : ∀ t_, Steps pP.tables eE below (s₁.setTop (mkF mM 0 #[.val (.ref a), .val (.ref b), .val .null, .unset, .unset] [])) t_ → Steps pP.tables eE below (s₁.setTop (entryFrame mM #[(.ref a), (.ref b), .null] 5)) t_ := fun t_ k_ => castTop (ef_sia mM a b) k_
  obtain ⟨T_1, X_1, e_1, st_1⟩ := initO X0 hx hZ hown (ow hw 159 rfl) (ow hw 21 rfl) (ow hw 22 rfl) e0 (g := (mkF mM 1 #[.val (.ref a), .val (.ref b), .val .null, .unset, .unset] [(.ref a)])) rfl (by rw [hml]; rfl) rfl (hb hby d_jdk_42m150_1) (by decide) (W := 0) (by show 2 * 0 + _ ≤ _; exact Nat.le_of_eq rfl) (by decide)
  obtain ⟨cq_2, kq_2, q_2a, q_2b, q_2c⟩ := isOf hZ e_1 E_b
  obtain ⟨_, _, ⟨T_2, L_2, k_2, n_2⟩, -, X_2, ⟨Lc_2, hQ_2, l_2, y_2, z_2⟩, st_2⟩ := X_1.virtualBack hx (y := MN20) (z := MN20) hown (mvT hZ (ow hw 160 rfl)) (mvT hZ (ow hw 161 rfl)) (notFace_of_selects (args := #[]) (mvT hZ (ow hw 163 rfl))) (mvT hZ (ow hw 163 rfl)) (mvT hZ (ow hw 162 rfl)) (by decide) (backOf (W := 0) (rm_gv l Z a0 hw [] b d h0 n0 Z0 F_value_b) hZ (ow hw 164 rfl) (ow hw 33 rfl) (by decide) (by decide)) q_2a q_2c (g := (mkF mM 5 #[.val (.ref a), .val (.ref b), .val .null, .unset, .unset] [(.ref b)])) rfl (by rw [hml]; rfl) (Steps.refl _) (argsL := []) (rest := []) (lenOf pd_16 rfl) rfl (by show 2 * 0 + _ ≤ _; exact Nat.le_of_eq rfl) (hb hby d_jdk_42m150_5) (fun _ _ => ⟨rfl, e_1, (by decide : 0 + 0 ≤ _), (by decide : 0 + 0 ≤ _)⟩)
  dsimp only [Pt.U, Pt.locs, Pt.cells, Pt.slots] at X_2 l_2 y_2 z_2 st_2 hQ_2
  subst l_2 y_2 z_2
  obtain ⟨rfl, N_2q, eh_2⟩ := hQ_2
  have N_2 := Fr.app N0 N_2q
  obtain ⟨cq_3, kq_3, q_3a, q_3b, q_3c⟩ := isOf hZ eh_2 E_b
  obtain ⟨_, _, ⟨T_3, L_3, k_3, n_3⟩, -, X_3, ⟨Lc_3, hQ_3, l_3, y_3, z_3⟩, st_3⟩ := X_2.virtualBack hx (y := MN19) (z := MN21) hown (mvT hZ (ow hw 165 rfl)) (mvT hZ (ow hw 166 rfl)) (own_nf (y := MN19) (z := MN10) (args := #[]) (mvT hZ (ow hw 77 rfl)) rfl) (mvT hZ (ow hw 168 rfl)) (mvT hZ (ow hw 169 rfl)) (by decide) (backOf (W := 0) (rm_blen l Z a0 hw [] b c h0 n0 Z0 F_count_b E_b) hZ (ow hw 170 rfl) (ow hw 25 rfl) (by decide) (by decide)) q_3a q_3c (g := (mkF mM 10 #[.val (.ref a), .val (.ref b), .val .null, .val (.ref d), .unset] [(.ref b)])) rfl (by rw [hml]; rfl) (Steps.refl _) (argsL := []) (rest := []) (lenOf pd_8 rfl) rfl (by show 2 * 0 + _ ≤ _; exact Nat.le_of_eq rfl) (hb hby d_jdk_42m150_10) (fun _ _ => ⟨rfl, eh_2, (by decide : 0 + 0 ≤ _), (by decide : 0 + 0 ≤ _)⟩)
  dsimp only [Pt.U, Pt.locs, Pt.cells, Pt.slots] at X_3 l_3 y_3 z_3 st_3 hQ_3
  subst l_3 y_3 z_3
  obtain ⟨rfl, N_3q, eh_3⟩ := hQ_3
  have N_3 := Fr.app N_2 N_3q
  obtain ⟨cq_4, kq_4, q_4a, q_4b, q_4c⟩ := isOf hZ eh_3 E_b
  obtain ⟨_, _, ⟨T_4, L_4, k_4, n_4⟩, -, X_4, ⟨Lc_4, hQ_4, l_4, y_4, z_4⟩, st_4⟩ := X_3.virtualBack hx (y := MN14) (z := MN14) hown (mvT hZ (ow hw 173 rfl)) (mvT hZ (ow hw 113 rfl)) (notFace_of_selects (args := #[]) (mvT hZ (ow hw 115 rfl))) (mvT hZ (ow hw 115 rfl)) (mvT hZ (ow hw 114 rfl)) (by decide) (backOf (W := 0) (rm_isl l Z a0 hw [] b cs h0 n0 Z0 F_coder_b S_String_COMPACT_STRINGS hcs) hZ (ow hw 116 rfl) (ow hw 33 rfl) (by decide) (by decide)) q_4a q_4c (g := (mkF mM 16 #[.val (.ref a), .val (.ref b), .val .null, .val (.ref d), .val (.int c)] [(.ref b)])) rfl (by rw [hml]; rfl) (Steps.refl _) (argsL := []) (rest := []) (lenOf pd_11 rfl) rfl (by show 2 * 0 + _ ≤ _; exact Nat.le_of_eq rfl) (hb hby d_jdk_42m150_16) (fun _ _ => ⟨rfl, eh_3, (by decide : 0 + 0 ≤ _), (by decide : 0 + 0 ≤ _)⟩)
  dsimp only [Pt.U, Pt.locs, Pt.cells, Pt.slots] at X_4 l_4 y_4 z_4 st_4 hQ_4
  subst l_4 y_4 z_4
  obtain ⟨rfl, N_4q, eh_4⟩ := hQ_4
  have N_4 := Fr.app N_3 N_4q
  obtain ⟨T_5, h_5, X_5, e_5, W_5, st_5⟩ := putFN X_4 hx hZ hown (ow hw 71 rfl) Via.refl eh_4 F_coder_a E_a (Or.inr ⟨(ow hw 46 rfl), rfl, hnm⟩) (ow hw 44 rfl) (ty := .byte) (v' := (.int (0 : Int32))) (by decide) rfl rfl (g := (mkF mM 24 #[.val (.ref a), .val (.ref b), .val .null, .val (.ref d), .val (.int c)] [(.int (0 : Int32)), (.ref a)])) rfl rfl (hb hby d_jdk_42m150_24)
  have Fw_5 := F_coder_a.same W_5
  have Z_5 : n0 ≤ h_5.size := (Nat.le_trans Z0 (Keep.of_wr W_5).1)
  have K_5 : Keep h0 h_5 [a] := (Keep.refl h0 [a]).wr W_5 (Or.inl (List.mem_of_getElem? (i := 0) rfl))
  have N_5 := Fr.snoc X_5 N_4 g_a
  obtain ⟨_, _, ⟨T_6, L_6, k_6, n_6⟩, -, X_6, ⟨Lc_6, hQ_6, l_6, y_6, z_6⟩, st_6⟩ := Jvm.LawKit.callS X_5 hx (y := MN22) hown (mvT hZ (ow hw 174 rfl)) (mvT hZ (ow hw 175 rfl)) (mvT hZ (ow hw 140 rfl)) (mvT hZ (ow hw 176 rfl)) (by decide) (backOf (W := 1) (rm_cor l Z a0 hw [] d c h_5 n0 Z_5 (B_d.other W_5 (Ne.symm nad)) hc0 hc4 hcap hcq hne) hZ (ow hw 176 rfl) (ow hw 140 rfl) (by decide) (by decide)) (g := (mkF mM 32 #[.val (.ref a), .val (.ref b), .val .null, .val (.ref d), .val (.int c)] [(.int c), (.int (0 : Int32)), (.ref d), (.ref a)])) rfl (by rw [hml]; rfl) (argsL := [(.ref d), (.int (0 : Int32)), (.int c)]) (rest := [(.ref a)]) (lenOf pd_15 rfl) rfl (by show 2 * 0 + _ ≤ _; exact Nat.le_of_eq rfl) (hb hby d_jdk_42m150_32) (fun _ _ => ⟨rfl, e_5, (by decide : 0 + 1 ≤ _), (by decide : 0 + 34 ≤ _)⟩)
  dsimp only [Pt.U, Pt.locs, Pt.cells, Pt.slots] at X_6 l_6 y_6 z_6 st_6 hQ_6
  subst l_6 y_6 z_6
  obtain ⟨d2__6, ⟨rfl, N_6q, Kc_6, pfsz_d2_6, pfB_d2_6⟩⟩ := hQ_6
  have Z_6 : n0 ≤ T_6.heap.size := (Nat.le_trans Z_5 Kc_6.1)
  have K_6 : Keep h0 T_6.heap [a] := K_5.trans Kc_6 all0
  have sz_d2__6 : h0.size ≤ d2__6 := Nat.le_trans K_5.1 pfsz_d2_6
  have g_d2__6 : n0 ≤ d2__6 := Nat.le_trans Z_5 pfsz_d2_6
  have N_6 := Fr.app N_5 N_6q
  have Rt_1 := ((F_value_a.other W_5 (Or.inr (slot_ne (Or.inr (ow hw 45 rfl)) (Or.inr (ow hw 46 rfl)) (by decide) (t := (.array .byte)) (t' := .byte) (by decide) (by decide)))).keep Kc_6 nin0)
  obtain ⟨T_7, h_7, X_7, e_7, W_7, st_7⟩ := putF X_6 hx hZ hown (host := "") (Or.inl (ow hw 64 rfl)) Via.refl rfl Rt_1 ((E_a.wr W_5).keep Kc_6) (Or.inr ⟨(ow hw 45 rfl), rfl, hnm⟩) (ow hw 44 rfl) (ty := (.array .byte)) (by decide) rfl rfl (g := (mkF mM 35 #[.val (.ref a), .val (.ref b), .val .null, .val (.ref d), .val (.int c)] [(.ref d2__6), (.ref a)])) rfl rfl (hb hby d_jdk_42m150_35)
  have Fw_7 := Rt_1.same W_7
  have Z_7 : n0 ≤ h_7.size := (Nat.le_trans Z_6 (Keep.of_wr W_7).1)
  have K_7 : Keep h0 h_7 [a] := K_6.wr W_7 (Or.inl (List.mem_of_getElem? (i := 0) rfl))
  have N_7 := Fr.snoc X_7 N_6 g_a
  obtain ⟨fs, hr, hrun, hended, hW, hsame⟩ := X_7.leave (v := none) (fun _ => rfl)
  refine ⟨_, _, pre0 _ ?_, hrun, hended, _, _, rfl, ?_, ⟨_, rfl⟩, hW, hsame.mono (by decide) (by decide)⟩
  · show oS pP eE below s₁ (mkF mM 0 #[.val (.ref a), .val (.ref b), .val .null, .unset, .unset] []) _
    refine XS.aloadN X0.here hx rfl (hb hby d_jdk_42m150_0) rfl rfl ?_
    show oS pP eE below s₁ (mkF mM 1 #[.val (.ref a), .val (.ref b), .val .null, .unset, .unset] [(.ref a)]) _
    refine st_1 _ ?_
    show oS pP eE below T_1 (mkF mM 4 #[.val (.ref a), .val (.ref b), .val .null, .unset, .unset] []) _
    refine XS.aloadN X_1.here hx rfl (hb hby d_jdk_42m150_4) rfl rfl ?_
    show oS pP eE below T_1 (mkF mM 5 #[.val (.ref a), .val (.ref b), .val .null, .unset, .unset] [(.ref b)]) _
    refine st_2.trans ?_
    show oS pP eE below T_2 (mkF mM 8 #[.val (.ref a), .val (.ref b), .val .null, .unset, .unset] [(.ref d)]) _
    refine XS.astoreN X_2.here hx rfl (hb hby d_jdk_42m150_8) rfl rfl (l' := #[.val (.ref a), .val (.ref b), .val .null, .val (.ref d), .unset]) rfl ?_
    refine XS.aloadN X_2.here hx rfl (hb hby d_jdk_42m150_9) rfl rfl ?_
    show oS pP eE below T_2 (mkF mM 10 #[.val (.ref a), .val (.ref b), .val .null, .val (.ref d), .unset] [(.ref b)]) _
    refine st_3.trans ?_
    show oS pP eE below T_3 (mkF mM 13 #[.val (.ref a), .val (.ref b), .val .null, .val (.ref d), .unset] [(.int c)]) _
    refine XS.istore X_3.here hx rfl (hb hby d_jdk_42m150_13) rfl (l' := #[.val (.ref a), .val (.ref b), .val .null, .val (.ref d), .val (.int c)]) rfl ?_
    refine XS.aloadN X_3.here hx rfl (hb hby d_jdk_42m150_15) rfl rfl ?_
    show oS pP eE below T_3 (mkF mM 16 #[.val (.ref a), .val (.ref b), .val .null, .val (.ref d), .val (.int c)] [(.ref b)]) _
    refine st_4.trans ?_
    show oS pP eE below T_4 (mkF mM 19 #[.val (.ref a), .val (.ref b), .val .null, .val (.ref d), .val (.int c)] [(.int (1 : Int32))]) _
    refine XS.ifNo X_4.here hx rfl (hb hby d_jdk_42m150_19) rfl (by decide) ?_
    refine XS.aloadN X_4.here hx rfl (hb hby d_jdk_42m150_22) rfl rfl ?_
    refine XS.iconst X_4.here hx rfl (hb hby d_jdk_42m150_23) ?_
    show oS pP eE below T_4 (mkF mM 24 #[.val (.ref a), .val (.ref b), .val .null, .val (.ref d), .val (.int c)] [(.int (0 : Int32)), (.ref a)]) _
    refine st_5 _ ?_
    show oS pP eE below T_5 (mkF mM 27 #[.val (.ref a), .val (.ref b), .val .null, .val (.ref d), .val (.int c)] []) _
    refine XS.aloadN X_5.here hx rfl (hb hby d_jdk_42m150_27) rfl rfl ?_
    refine XS.aloadN X_5.here hx rfl (hb hby d_jdk_42m150_28) rfl rfl ?_
    refine XS.iconst X_5.here hx rfl (hb hby d_jdk_42m150_29) ?_
    refine XS.iload X_5.here hx rfl (hb hby d_jdk_42m150_30) rfl ?_
    show oS pP eE below T_5 (mkF mM 32 #[.val (.ref a), .val (.ref b), .val .null, .val (.ref d), .val (.int c)] [(.int c), (.int (0 : Int32)), (.ref d), (.ref a)]) _
    refine st_6 _ ?_
    show oS pP eE below T_6 (mkF mM 35 #[.val (.ref a), .val (.ref b), .val .null, .val (.ref d), .val (.int c)] [(.ref d2__6), (.ref a)]) _
    refine st_7 _ ?_
    show oS pP eE below T_7 (mkF mM 38 #[.val (.ref a), .val (.ref b), .val .null, .val (.ref d), .val (.int c)] []) _
    refine XS.goto X_7.here hx rfl (pc0 := 38) (pc' := 97) rfl (hb hby d_jdk_42m150_38) (by decide) (by decide) ?_
    show oS pP eE below T_7 (mkF mM 97 #[.val (.ref a), .val (.ref b), .val .null, .val (.ref d), .val (.int c)] []) _
    exact X_7.returnOut hx Bd.returns (hb hby d_jdk_42m150_97) hr
  · show Q_sia Z a b d c cs h0 n0 _ T_7.heap _
    rw [e_7]
    exact ⟨rfl, N_7, K_7, (((E_a.wr W_5).keep Kc_6).wr W_7)⟩
theorem d_jdk_42m53_0 : decode jdk_42_method_53_code 0 = .ok (.aload_n 0, 1) := by decide +kernel
theorem d_jdk_42m53_1 : decode jdk_42_method_53_code 1 = .ok (.aload_n 1, 1) := by decide +kernel
theorem d_jdk_42m53_2 : decode jdk_42_method_53_code 2 = .ok (.aconst_null, 1) := by decide +kernel
theorem d_jdk_42m53_3 : decode jdk_42_method_53_code 3 = .ok (.invokespecial 489, 3) := by decide +kernel
theorem pd_17 : parseMethodDescriptor "(Ljava/lang/AbstractStringBuilder;Ljava/lang/Void;)V" = some ⟨[(.object "java/lang/AbstractStringBuilder"), (.object "java/lang/Void")], none⟩ := by decide +kernel
abbrev MN23 : MethodName := ⟨"java/lang/String", "<init>", "(Ljava/lang/AbstractStringBuilder;Ljava/lang/Void;)V"⟩
theorem d_jdk_42m53_6 : decode jdk_42_method_53_code 6 = .ok (.return_, 1) := by decide +kernel
theorem ef_sib (mM : MethodId) (x0 : Addr) (x1 : Addr) : entryFrame mM #[(.ref x0), (.ref x1)] 2 = mkF mM 0 #[.val (.ref x0), .val (.ref x1)] [] := by first | (simp [entryFrame, mkF, argsToLocals, Value.category]; done) | rfl
def Q_sib (Z : State) (a : Addr) (b : Addr) (d : Addr) (c : Int32) (cs : Int32) (h0 : Heap) (n0 : Nat) (v_ : Option Value) (h_ : Heap) (L_ : List Loc) : Prop := v_ = none ∧ Fr n0 L_ ∧ Keep h0 h_ [a] ∧ Exa Z h_ a "java/lang/String"
set_option maxRecDepth 65536 in
set_option maxHeartbeats 40000000 in
theorem rm_sib (l : Launch) (Z : State) (a0 : Array Value) (hw : ∀ d ∈ tables_1, d.before a0 Z = true) (ws : List Jvm.Cond) (a : Addr) (b : Addr) (d : Addr) (c : Int32) (cs : Int32) (h0 : Heap) (n0 : Nat) (Z0 : n0 ≤ h0.size) (F_value_a : Fld Z h0 a "java/lang/String" "value" "[B" .null) (F_coder_a : Fld Z h0 a "java/lang/String" "coder" "B" (.int (0 : Int32))) (E_a : Exa Z h0 a "java/lang/String") (g_a : n0 ≤ a) (F_value_b : Fld Z h0 b "java/lang/AbstractStringBuilder" "value" "[B" (.ref d)) (F_coder_b : Fld Z h0 b "java/lang/AbstractStringBuilder" "coder" "B" (.int (0 : Int32))) (F_count_b : Fld Z h0 b "java/lang/AbstractStringBuilder" "count" "I" (.int c)) (E_b : Exa Z h0 b "java/lang/StringBuilder") (B_d : own_B Z h0 d (34 : Int32)) (nab : a ≠ b) (nad : a ≠ d) (hc0 : ¬ c < 0) (hc4 : c < (34 : Int32)) (hcap : c.toNatClampNeg ≤ 34) (hcq : own_cp (0 : Int32) (0 : Int32) c (34 : Int32) c) (hne : ¬ c = (34 : Int32)) (S_String_COMPACT_STRINGS : Sta Z h0 "java/lang/String" "COMPACT_STRINGS" "Z" (.int cs)) (hcs : ¬ cs = 0) :
    MetFree l (⟨"java/lang/String", "<init>", "(Ljava/lang/StringBuilder;)V"⟩ : MethodName) (head1 (Jvm.Cond.code (⟨"java/lang/String", "<init>", "(Ljava/lang/StringBuilder;)V"⟩ : MethodName) jdk_42_method_53_code 2 none :: ws) oR18) (fun aa_ U_ => aa_ = #[(.ref a), (.ref b)] ∧ Z.Warmed39 U_.vm ∧ U_.heap = h0) (fun _ _ _ _ _ => True) (fun _ U_ o_ U'_ => ∃ v_ L_, o_ = .returned v_ ∧ Q_sib Z a b d c cs h0 n0 v_ U'_.heap L_ ∧ FrameEnd U_ o_ U'_ L_ oR18.cells oR18.slots) := by
  refine MetFree.of_bodySF (plainFor_of_name pn_2) hisR ?_
  intro pP eE sS mM argsA below meth cC s₁ Bd hml0 hP hK
  obtain ⟨rfl, hZ, hh⟩ := hP
  have hx := Bd.exec
  have hby := Bd.bytes
  have hml : cC.maxLocals = 2 := hml0
  have hown : sS.vm.findClass "java/lang/String" = some mM.cls := findClass_of_methodNamed Bd.named
  have hnm := (name_of_methodNamed Bd.named Bd.method).1
  have X0 : Stand pP l eE oR18 sS mM #[(.ref a), (.ref b)] below meth cC s₁ [] 0 0 := Stand.of_body Bd
  have e0 : s₁.heap = h0 := by rw [← hh, Bd.state]; rfl
  have N0 := Fr.nil n0
  have pre0 : ∀ t_, Steps pP.tables eE below (s₁.setTop (mkF mM 0 #[.val (.ref a), .val (.ref b)] [])) t_ → Steps pP.tables eE below (s₁.setTop (entryFrame mM #[(.ref a), (.ref b)] 2)) t_ := fun t_ k_ => castTop (ef_sib mM a b) k_
  obtain ⟨_, _, ⟨T_1, L_1, k_1, n_1⟩, -, X_1, ⟨Lc_1, hQ_1, l_1, y_1, z_1⟩, st_1⟩ := X0.specialBack hx (y := MN23) rfl hown (mvT hZ (ow hw 156 rfl)) (mvT hZ (ow hw 157 rfl)) (mvT hZ (ow hw 158 rfl)) (by decide) (backOf (W := 0) (rm_sia l Z a0 hw [] a b d c cs h0 n0 Z0 F_value_a F_coder_a E_a g_a F_value_b F_coder_b F_count_b E_b B_d nab nad hc0 hc4 hcap hcq hne S_String_COMPACT_STRINGS hcs) hZ (ow hw 158 rfl) (ow hw 37 rfl) (by decide) (by decide)) (g := (mkF mM 3 #[.val (.ref a), .val (.ref b)] [.null, (.ref b), (.ref a)])) rfl (by rw [hml]; rfl) (Steps.refl _) (a := a) (argsL := [(.ref b), .null]) (rest := []) (lenOf pd_17 rfl) rfl (by show 2 * 0 + _ ≤ _; exact Nat.le_of_eq rfl) (hb hby d_jdk_42m53_3) (fun _ _ => ⟨rfl, e0, (by decide : 0 + 1 ≤ _), (by decide : 0 + 34 ≤ _)⟩)
  dsimp only [Pt.U, Pt.locs, Pt.cells, Pt.slots] at X_1 l_1 y_1 z_1 st_1 hQ_1
  subst l_1 y_1 z_1
  obtain ⟨rfl, N_1q, Kc_1, pfE_a_1⟩ := hQ_1
  have Z_1 : n0 ≤ T_1.heap.size := (Nat.le_trans Z0 Kc_1.1)
  have K_1 : Keep h0 T_1.heap [a] := (Keep.refl h0 [a]).trans Kc_1 (allS (Or.inl (List.mem_of_getElem? (i := 0) rfl)) all0)
  have N_1 := Fr.app N0 N_1q
  obtain ⟨fs, hr, hrun, hended, hW, hsame⟩ := X_1.leave (v := none) (fun _ => rfl)
  refine ⟨_, _, pre0 _ ?_, hrun, hended, _, _, rfl, ?_, ⟨_, rfl⟩, hW, hsame.mono (by decide) (by decide)⟩
  · show oS pP eE below s₁ (mkF mM 0 #[.val (.ref a), .val (.ref b)] []) _
    refine XS.aloadN X0.here hx rfl (hb hby d_jdk_42m53_0) rfl rfl ?_
    refine XS.aloadN X0.here hx rfl (hb hby d_jdk_42m53_1) rfl rfl ?_
    refine XS.aconstNull X0.here hx rfl (hb hby d_jdk_42m53_2) ?_
    show oS pP eE below s₁ (mkF mM 3 #[.val (.ref a), .val (.ref b)] [.null, (.ref b), (.ref a)]) _
    refine st_1.trans ?_
    show oS pP eE below T_1 (mkF mM 6 #[.val (.ref a), .val (.ref b)] []) _
    exact X_1.returnOut hx Bd.returns (hb hby d_jdk_42m53_6) hr
  · show Q_sib Z a b d c cs h0 n0 _ T_1.heap _
    exact ⟨rfl, N_1, K_1, pfE_a_1⟩
theorem d_jdk_67m42_0 : decode jdk_67_method_42_code 0 = .ok (.new 18, 3) := by decide +kernel
theorem d_jdk_67m42_3 : decode jdk_67_method_42_code 3 = .ok (.dup, 1) := by decide +kernel
theorem d_jdk_67m42_4 : decode jdk_67_method_42_code 4 = .ok (.aload_n 0, 1) := by decide +kernel
theorem d_jdk_67m42_5 : decode jdk_67_method_42_code 5 = .ok (.invokespecial 137, 3) := by decide +kernel
theorem pd_18 : parseMethodDescriptor "(Ljava/lang/StringBuilder;)V" = some ⟨[(.object "java/lang/StringBuilder")], none⟩ := by decide +kernel
abbrev MN24 : MethodName := ⟨"java/lang/String", "<init>", "(Ljava/lang/StringBuilder;)V"⟩
theorem d_jdk_67m42_8 : decode jdk_67_method_42_code 8 = .ok (.areturn, 1) := by decide +kernel
theorem ef_tos (mM : MethodId) (x0 : Addr) : entryFrame mM #[(.ref x0)] 1 = mkF mM 0 #[.val (.ref x0)] [] := by first | (simp [entryFrame, mkF, argsToLocals, Value.category]; done) | rfl
def Q_tos (Z : State) (b : Addr) (d : Addr) (c : Int32) (cs : Int32) (h0 : Heap) (n0 : Nat) (v_ : Option Value) (h_ : Heap) (L_ : List Loc) : Prop := ∃ g : Addr, v_ = some (.ref g) ∧ Fr n0 L_ ∧ Keep h0 h_ [] ∧ h0.size ≤ g ∧ Exa Z h_ g "java/lang/String"
set_option maxRecDepth 65536 in
set_option maxHeartbeats 40000000 in
theorem rm_tos (l : Launch) (Z : State) (a0 : Array Value) (hw : ∀ d ∈ tables_1, d.before a0 Z = true) (ws : List Jvm.Cond) (b : Addr) (d : Addr) (c : Int32) (cs : Int32) (h0 : Heap) (n0 : Nat) (Z0 : n0 ≤ h0.size) (F_value_b : Fld Z h0 b "java/lang/AbstractStringBuilder" "value" "[B" (.ref d)) (F_coder_b : Fld Z h0 b "java/lang/AbstractStringBuilder" "coder" "B" (.int (0 : Int32))) (F_count_b : Fld Z h0 b "java/lang/AbstractStringBuilder" "count" "I" (.int c)) (E_b : Exa Z h0 b "java/lang/StringBuilder") (B_d : own_B Z h0 d (34 : Int32)) (hc0 : ¬ c < 0) (hc4 : c < (34 : Int32)) (hcap : c.toNatClampNeg ≤ 34) (hcq : own_cp (0 : Int32) (0 : Int32) c (34 : Int32) c) (hne : ¬ c = (34 : Int32)) (S_String_COMPACT_STRINGS : Sta Z h0 "java/lang/String" "COMPACT_STRINGS" "Z" (.int cs)) (hcs : ¬ cs = 0) :
    MetFree l (⟨"java/lang/StringBuilder", "toString", "()Ljava/lang/String;"⟩ : MethodName) (head1 (Jvm.Cond.code (⟨"java/lang/StringBuilder", "toString", "()Ljava/lang/String;"⟩ : MethodName) jdk_67_method_42_code 1 (some (.object "java/lang/String")) :: ws) oR19) (fun aa_ U_ => aa_ = #[(.ref b)] ∧ Z.Warmed39 U_.vm ∧ U_.heap = h0) (fun _ _ _ _ _ => True) (fun _ U_ o_ U'_ => ∃ v_ L_, o_ = .returned v_ ∧ Q_tos Z b d c cs h0 n0 v_ U'_.heap L_ ∧ FrameEnd U_ o_ U'_ L_ oR19.cells oR19.slots) := by
  refine MetFree.of_bodySF (plainFor_of_name pn_1) hisR ?_
  intro pP eE sS mM argsA below meth cC s₁ Bd hml0 hP hK
  obtain ⟨rfl, hZ, hh⟩ := hP
  have hx := Bd.exec
  have hby := Bd.bytes
  have hml : cC.maxLocals = 1 := hml0
  have hown : sS.vm.findClass "java/lang/StringBuilder" = some mM.cls := findClass_of_methodNamed Bd.named
  have hnm := (name_of_methodNamed Bd.named Bd.method).1
  have X0 : Stand pP l eE oR19 sS mM #[(.ref b)] below meth cC s₁ [] 0 0 := Stand.of_body Bd
  have e0 : s₁.heap = h0 := by rw [← hh, Bd.state]; rfl
  have N0 := Fr.nil n0
  have pre0 : ∀ t_, Steps pP.tables eE below (s₁.setTop (mkF mM 0 #[.val (.ref b)] [])) t_ → Steps pP.tables eE below (s₁.setTop (entryFrame mM #[(.ref b)] 1)) t_ := fun t_ k_ => castTop (ef_tos mM b) k_
  obtain ⟨T_1, h_1, X_1, e_1, E_1, A_1, D_1, -, st_1⟩ := newO X0 hx hZ hown (ow hw 151 rfl) (ow hw 44 rfl) (ow hw 37 rfl) e0 (g := (mkF mM 0 #[.val (.ref b)] [])) rfl (hb hby d_jdk_67m42_0) (by decide) (by decide)
  obtain ⟨b_1, g_1⟩ : ∃ z, z = h0.size := ⟨_, rfl⟩
  rw [← g_1] at A_1 D_1 st_1
  have g_b_1 : n0 ≤ b_1 := Nat.le_trans Z0 (Nat.le_of_eq g_1.symm)
  have sz_b_1 : h0.size ≤ b_1 := Nat.le_trans (Keep.refl h0 []).1 (Nat.le_of_eq g_1.symm)
  have Z_1 : n0 ≤ h_1.size := (Nat.le_trans Z0 E_1.1)
  have K_1 : Keep h0 h_1 [] := (Keep.refl h0 []).ext E_1
  have F_value_b_1__1 : Fld Z h_1 b_1 "java/lang/String" "value" "[B" .null := D_1 (Or.inr (ow hw 45 rfl)) (ty := (.array .byte)) (by decide)
  have F_coder_b_1__1 : Fld Z h_1 b_1 "java/lang/String" "coder" "B" (.int (0 : Int32)) := D_1 (Or.inr (ow hw 46 rfl)) (ty := .byte) (by decide)
  have St_1_10 := (S_String_COMPACT_STRINGS.ext E_1)
  obtain ⟨_, _, ⟨T_2, L_2, k_2, n_2⟩, -, X_2, ⟨Lc_2, hQ_2, l_2, y_2, z_2⟩, st_2⟩ := X_1.specialBack hx (y := MN24) rfl hown (mvT hZ (ow hw 152 rfl)) (mvT hZ (ow hw 153 rfl)) (mvT hZ (ow hw 155 rfl)) (by decide) (backOf (W := 1) (rm_sib l Z a0 hw [] b_1 b d c cs h_1 n0 Z_1 F_value_b_1__1 F_coder_b_1__1 A_1 g_b_1 (F_value_b.ext E_1) (F_coder_b.ext E_1) (F_count_b.ext E_1) (E_b.ext E_1) (B_d.ext E_1) (Ne.symm (Nat.ne_of_lt (Nat.lt_of_lt_of_le E_b.lt (Nat.le_of_eq g_1.symm)))) (Ne.symm (Nat.ne_of_lt (Nat.lt_of_lt_of_le B_d.lt (Nat.le_of_eq g_1.symm)))) hc0 hc4 hcap hcq hne St_1_10 hcs) hZ (ow hw 155 rfl) (ow hw 37 rfl) (by decide) (by decide)) (g := (mkF mM 5 #[.val (.ref b)] [(.ref b), (.ref b_1), (.ref b_1)])) rfl (by rw [hml]; rfl) (Steps.refl _) (a := b_1) (argsL := [(.ref b)]) (rest := [(.ref b_1)]) (lenOf pd_18 rfl) rfl (by show 2 * 0 + _ ≤ _; exact Nat.le_of_eq rfl) (hb hby d_jdk_67m42_5) (fun _ _ => ⟨rfl, e_1, (by decide : 1 + 1 ≤ _), (by decide : 4 + 34 ≤ _)⟩)
  dsimp only [Pt.U, Pt.locs, Pt.cells, Pt.slots] at X_2 l_2 y_2 z_2 st_2 hQ_2
  subst l_2 y_2 z_2
  obtain ⟨rfl, N_2q, Kc_2, pfE_a_2⟩ := hQ_2
  have Z_2 : n0 ≤ T_2.heap.size := (Nat.le_trans Z_1 Kc_2.1)
  have K_2 : Keep h0 T_2.heap [] := K_1.trans Kc_2 (allS (Or.inr sz_b_1) all0)
  have N_2 := Fr.app N0 N_2q
  obtain ⟨fs, hr, hrun, hended, hW, hsame⟩ := X_2.leave (v := some (.ref b_1)) (fun h => by rw [Bd.returns] at h; cases h)
  refine ⟨_, _, pre0 _ ?_, hrun, hended, _, _, rfl, ?_, ⟨_, rfl⟩, hW, hsame.mono (by decide) (by decide)⟩
  · show oS pP eE below s₁ (mkF mM 0 #[.val (.ref b)] []) _
    refine st_1 _ ?_
    show oS pP eE below T_1 (mkF mM 3 #[.val (.ref b)] [(.ref b_1)]) _
    refine XS.dup X_1.here hx rfl (hb hby d_jdk_67m42_3) rfl rfl ?_
    refine XS.aloadN X_1.here hx rfl (hb hby d_jdk_67m42_4) rfl rfl ?_
    show oS pP eE below T_1 (mkF mM 5 #[.val (.ref b)] [(.ref b), (.ref b_1), (.ref b_1)]) _
    refine st_2.trans ?_
    show oS pP eE below T_2 (mkF mM 8 #[.val (.ref b)] [(.ref b_1)]) _
    exact retOut X_2 hx Bd.returns rfl (Or.inr (Or.inr (Or.inr (Or.inr ⟨rfl, rfl, rfl⟩)))) (hb hby d_jdk_67m42_8) hr
  · show Q_tos Z b d c cs h0 n0 _ T_2.heap _
    exact ⟨b_1, rfl, N_2, K_2, sz_b_1, pfE_a_2⟩
theorem d_jdk_117m8_0 : decode jdk_117_method_8_code 0 = .ok (.dload_n 0, 1) := by decide +kernel
theorem d_jdk_117m8_1 : decode jdk_117_method_8_code 1 = .ok (.invokestatic 38, 3) := by decide +kernel
theorem pd_19 : parseMethodDescriptor "(D)D" = some ⟨[.double], some .double⟩ := by decide +kernel
abbrev MN25 : MethodName := ⟨"java/lang/Math", "abs", "(D)D"⟩
theorem d_jdk_117m8_4 : decode jdk_117_method_8_code 4 = .ok (.ldc2_w 111, 3) := by decide +kernel
theorem d_jdk_117m8_7 : decode jdk_117_method_8_code 7 = .ok (.dcmp .g, 1) := by decide +kernel
theorem d_jdk_117m8_8 : decode jdk_117_method_8_code 8 = .ok (.ifCond .gt 7, 3) := by decide +kernel
theorem d_jdk_117m8_11 : decode jdk_117_method_8_code 11 = .ok (.iconst 1, 1) := by decide +kernel
theorem d_jdk_117m8_12 : decode jdk_117_method_8_code 12 = .ok (.goto 4, 3) := by decide +kernel
theorem d_jdk_117m8_16 : decode jdk_117_method_8_code 16 = .ok (.ireturn, 1) := by decide +kernel
theorem pn_6 : plainName "java/lang/Double" = true := by first | (simp [plainName, overriddenIn]; done) | decide +kernel
theorem ef_fin (mM : MethodId) (x0 : UInt64) : entryFrame mM #[(.double x0)] 2 = mkF mM 0 #[.val (.double x0), .second] [] := by first | (simp [entryFrame, mkF, argsToLocals, Value.category]; done) | rfl
def Q_fin (Z : State) (xd : UInt64) (h0 : Heap) (n0 : Nat) (v_ : Option Value) (h_ : Heap) (L_ : List Loc) : Prop := v_ = some (.int (1 : Int32)) ∧ Fr n0 L_ ∧ h_ = h0
set_option maxRecDepth 65536 in
set_option maxHeartbeats 40000000 in
theorem rm_fin (l : Launch) (Z : State) (a0 : Array Value) (hw : ∀ d ∈ tables_1, d.before a0 Z = true) (ws : List Jvm.Cond) (xd : UInt64) (h0 : Heap) (n0 : Nat) (Z0 : n0 ≤ h0.size) (hn1 : Jvm.Free.Fl.NoNaN64 xd) (hfi : ¬ 0 < (cmpValue (FP.dcmp (xd &&& (9223372036854775807 : UInt64)) (9218868437227405311 : UInt64)) .g)) :
    MetFree l (⟨"java/lang/Double", "isFinite", "(D)Z"⟩ : MethodName) (head1 (Jvm.Cond.code (⟨"java/lang/Double", "isFinite", "(D)Z"⟩ : MethodName) jdk_117_method_8_code 2 (some .boolean) :: ws) oR3) (fun aa_ U_ => aa_ = #[(.double xd)] ∧ Z.Warmed39 U_.vm ∧ U_.heap = h0) (fun _ _ _ _ _ => True) (fun _ U_ o_ U'_ => ∃ v_ L_, o_ = .returned v_ ∧ Q_fin Z xd h0 n0 v_ U'_.heap L_ ∧ FrameEnd U_ o_ U'_ L_ oR3.cells oR3.slots) := by
  refine MetFree.of_bodySF (plainFor_of_name pn_6) hisR ?_
  intro pP eE sS mM argsA below meth cC s₁ Bd hml0 hP hK
  obtain ⟨rfl, hZ, hh⟩ := hP
  have hx := Bd.exec
  have hby := Bd.bytes
  have hml : cC.maxLocals = 2 := hml0
  have hown : sS.vm.findClass "java/lang/Double" = some mM.cls := findClass_of_methodNamed Bd.named
  have hnm := (name_of_methodNamed Bd.named Bd.method).1
  have X0 : Stand pP l eE oR3 sS mM #[(.double xd)] below meth cC s₁ [] 0 0 := Stand.of_body Bd
  have e0 : s₁.heap = h0 := by rw [← hh, Bd.state]; rfl
  have N0 := Fr.nil n0
  have pre0 : ∀ t_, Steps pP.tables eE below (s₁.setTop (mkF mM 0 #[.val (.double xd), .second] [])) t_ → Steps pP.tables eE below (s₁.setTop (entryFrame mM #[(.double xd)] 2)) t_ := fun t_ k_ => castTop (ef_fin mM xd) k_
  obtain ⟨_, _, ⟨T_1, L_1, k_1, n_1⟩, -, X_1, ⟨Lc_1, hQ_1, l_1, y_1, z_1⟩, st_1⟩ := Jvm.LawKit.callS X0 hx (y := MN25) hown (mvT hZ (ow hw 188 rfl)) (mvT hZ (ow hw 189 rfl)) (mvT hZ (ow hw 134 rfl)) (mvT hZ (ow hw 190 rfl)) (by decide) (own_absBack (W := 0) (h := h0) (n0 := n0) xd hn1 (mvT hZ (ow hw 190 rfl)) (by decide) (by decide)) (g := (mkF mM 1 #[.val (.double xd), .second] [(.double xd)])) rfl (by rw [hml]; rfl) (argsL := [(.double xd)]) (rest := []) (lenOf pd_19 rfl) rfl (by show 2 * 0 + _ ≤ _; exact Nat.le_of_eq rfl) (hb hby d_jdk_117m8_1) (fun _ _ => ⟨rfl, e0, (by decide : 0 + 0 ≤ _), (by decide : 0 + 0 ≤ _)⟩)
  dsimp only [Pt.U, Pt.locs, Pt.cells, Pt.slots] at X_1 l_1 y_1 z_1 st_1 hQ_1
  subst l_1 y_1 z_1
  obtain ⟨rfl, N_1q, eh_1⟩ := hQ_1
  have N_1 := Fr.app N0 N_1q
  obtain ⟨fs, hr, hrun, hended, hW, hsame⟩ := X_1.leave (v := some (.int (1 : Int32))) (fun h => by rw [Bd.returns] at h; cases h)
  refine ⟨_, _, pre0 _ ?_, hrun, hended, _, _, rfl, ?_, ⟨_, rfl⟩, hW, hsame.mono (by decide) (by decide)⟩
  · show oS pP eE below s₁ (mkF mM 0 #[.val (.double xd), .second] []) _
    refine XS.dloadN X0.here hx rfl (hb hby d_jdk_117m8_0) rfl ?_
    show oS pP eE below s₁ (mkF mM 1 #[.val (.double xd), .second] [(.double xd)]) _
    refine st_1 _ ?_
    show oS pP eE below T_1 (mkF mM 4 #[.val (.double xd), .second] [(.double (xd &&& (9223372036854775807 : UInt64)))]) _
    refine X_1.ldc2DoubleC hx hown (mvT hZ (ow hw 191 rfl)) (g := (mkF mM 4 #[.val (.double xd), .second] [(.double (xd &&& (9223372036854775807 : UInt64)))])) rfl (hb hby d_jdk_117m8_4) _ ?_
    show oS pP eE below T_1 (mkF mM 7 #[.val (.double xd), .second] [(.double (9218868437227405311 : UInt64)), (.double (xd &&& (9223372036854775807 : UInt64)))]) _
    refine XS.dcmpS X_1.here hx rfl (hb hby d_jdk_117m8_7) rfl rfl ?_
    refine XS.ifNo X_1.here hx rfl (hb hby d_jdk_117m8_8) rfl (XT.i0_gt_f hfi) ?_
    refine XS.iconst X_1.here hx rfl (hb hby d_jdk_117m8_11) ?_
    refine XS.goto X_1.here hx rfl (pc0 := 12) (pc' := 16) rfl (hb hby d_jdk_117m8_12) (by decide) (by decide) ?_
    show oS pP eE below T_1 (mkF mM 16 #[.val (.double xd), .second] [(.int (1 : Int32))]) _
    exact retN X_1 hx (t := .boolean) Bd.returns (by simp) (hb hby d_jdk_117m8_16) hr
  · show Q_fin Z xd h0 n0 _ T_1.heap _
    rw [eh_1]
    exact ⟨rfl, N_1, rfl⟩
def Q_al (Z : State) (a : Addr) (b : Addr) (w1 : Int32) (v1 : Int32) (ox1 : UInt64) (oy1 : UInt64) (cw1 : UInt64) (ch1 : UInt64) (w2 : Int32) (v2 : Int32) (ox2 : UInt64) (oy2 : UInt64) (cw2 : UInt64) (ch2 : UInt64) (h0 : Heap) (n0 : Nat) (v_ : Option Value) (h_ : Heap) (L_ : List Loc) : Prop := v_ = some (.int (own_al w1 v1 ox1 oy1 cw1 ch1 w2 v2 ox2 oy2 cw2 ch2)) ∧ Fr n0 L_ ∧ h_ = h0
theorem d_prog_8m2_0 : decode prog_8_method_2_code 0 = .ok (.aload_n 0, 1) := by decide +kernel
theorem d_prog_8m2_1 : decode prog_8_method_2_code 1 = .ok (.getfield 60, 3) := by decide +kernel
theorem d_prog_8m2_4 : decode prog_8_method_2_code 4 = .ok (.aload_n 1, 1) := by decide +kernel
theorem d_prog_8m2_5 : decode prog_8_method_2_code 5 = .ok (.getfield 60, 3) := by decide +kernel
theorem d_prog_8m2_8 : decode prog_8_method_2_code 8 = .ok (.if_icmp .ne 66, 3) := by decide +kernel
theorem d_prog_8m2_74 : decode prog_8_method_2_code 74 = .ok (.iconst 0, 1) := by decide +kernel
theorem d_prog_8m2_75 : decode prog_8_method_2_code 75 = .ok (.ireturn, 1) := by decide +kernel
theorem pn_7 : plainName "com/example/greenweft/greenweft/map/Grid" = true := by first | (simp [plainName, overriddenIn]; done) | decide +kernel
theorem ef_al_0 (mM : MethodId) (x0 : Addr) (x1 : Addr) : entryFrame mM #[(.ref x0), (.ref x1)] 2 = mkF mM 0 #[.val (.ref x0), .val (.ref x1)] [] := by first | (simp [entryFrame, mkF, argsToLocals, Value.category]; done) | rfl
set_option maxRecDepth 65536 in
set_option maxHeartbeats 40000000 in
theorem rm_al_0 (l : Launch) (Z : State) (a0 : Array Value) (hw : ∀ d ∈ tables_1, d.before a0 Z = true) (ws : List Jvm.Cond) (a : Addr) (b : Addr) (w1 : Int32) (v1 : Int32) (ox1 : UInt64) (oy1 : UInt64) (cw1 : UInt64) (ch1 : UInt64) (w2 : Int32) (v2 : Int32) (ox2 : UInt64) (oy2 : UInt64) (cw2 : UInt64) (ch2 : UInt64) (h0 : Heap) (n0 : Nat) (Z0 : n0 ≤ h0.size) (F_width_a : Fld Z h0 a "com/example/greenweft/greenweft/map/Grid" "width" "I" (.int w1)) (F_height_a : Fld Z h0 a "com/example/greenweft/greenweft/map/Grid" "height" "I" (.int v1)) (F_originX_a : Fld Z h0 a "com/example/greenweft/greenweft/map/Grid" "originX" "D" (.double ox1)) (F_originY_a : Fld Z h0 a "com/example/greenweft/greenweft/map/Grid" "originY" "D" (.double oy1)) (F_cellWidth_a : Fld Z h0 a "com/example/greenweft/greenweft/map/Grid" "cellWidth" "D" (.double cw1)) (F_cellHeight_a : Fld Z h0 a "com/example/greenweft/greenweft/map/Grid" "cellHeight" "D" (.double ch1)) (F_width_b : Fld Z h0 b "com/example/greenweft/greenweft/map/Grid" "width" "I" (.int w2)) (F_height_b : Fld Z h0 b "com/example/greenweft/greenweft/map/Grid" "height" "I" (.int v2)) (F_originX_b : Fld Z h0 b "com/example/greenweft/greenweft/map/Grid" "originX" "D" (.double ox2)) (F_originY_b : Fld Z h0 b "com/example/greenweft/greenweft/map/Grid" "originY" "D" (.double oy2)) (F_cellWidth_b : Fld Z h0 b "com/example/greenweft/greenweft/map/Grid" "cellWidth" "D" (.double cw2)) (F_cellHeight_b : Fld Z h0 b "com/example/greenweft/greenweft/map/Grid" "cellHeight" "D" (.double ch2)) (q0 : ¬ w1 = w2) :
    MetFree l (⟨"com/example/greenweft/greenweft/map/Grid", "alignsWith", "(Lcom/example/greenweft/greenweft/map/Grid;)Z"⟩ : MethodName) (head1 (Jvm.Cond.code (⟨"com/example/greenweft/greenweft/map/Grid", "alignsWith", "(Lcom/example/greenweft/greenweft/map/Grid;)Z"⟩ : MethodName) prog_8_method_2_code 2 (some .boolean) :: ws) oR2) (fun aa_ U_ => aa_ = #[(.ref a), (.ref b)] ∧ Z.Warmed39 U_.vm ∧ U_.heap = h0) (fun _ _ _ _ _ => True) (fun _ U_ o_ U'_ => ∃ v_ L_, o_ = .returned v_ ∧ Q_al Z a b w1 v1 ox1 oy1 cw1 ch1 w2 v2 ox2 oy2 cw2 ch2 h0 n0 v_ U'_.heap L_ ∧ FrameEnd U_ o_ U'_ L_ oR2.cells oR2.slots) := by
  refine MetFree.of_bodySF (plainFor_of_name pn_7) hisR ?_
  intro pP eE sS mM argsA below meth cC s₁ Bd hml0 hP hK
  obtain ⟨rfl, hZ, hh⟩ := hP
  have hx := Bd.exec
  have hby := Bd.bytes
  have hml : cC.maxLocals = 2 := hml0
  have hown : sS.vm.findClass "com/example/greenweft/greenweft/map/Grid" = some mM.cls := findClass_of_methodNamed Bd.named
  have hnm := (name_of_methodNamed Bd.named Bd.method).1
  have X0 : Stand pP l eE oR2 sS mM #[(.ref a), (.ref b)] below meth cC s₁ [] 0 0 := Stand.of_body Bd
  have e0 : s₁.heap = h0 := by rw [← hh, Bd.state]; rfl
  have N0 := Fr.nil n0
  have pre0 : ∀ t_, Steps pP.tables eE below (s₁.setTop (mkF mM 0 #[.val (.ref a), .val (.ref b)] [])) t_ → Steps pP.tables eE below (s₁.setTop (entryFrame mM #[(.ref a), (.ref b)] 2)) t_ := fun t_ k_ => castTop (ef_al_0 mM a b) k_
  obtain ⟨T_1, X_1, e_1, st_1⟩ := getF X0 hx hZ hown (host := "") (Or.inl (ow hw 192 rfl)) Via.refl e0 F_width_a (g := (mkF mM 1 #[.val (.ref a), .val (.ref b)] [(.ref a)])) rfl rfl (hb hby d_prog_8m2_1)
  obtain ⟨T_2, X_2, e_2, st_2⟩ := getF X_1 hx hZ hown (host := "") (Or.inl (ow hw 192 rfl)) Via.refl e_1 F_width_b (g := (mkF mM 5 #[.val (.ref a), .val (.ref b)] [(.ref b), (.int w1)])) rfl rfl (hb hby d_prog_8m2_5)
  obtain ⟨fs, hr, hrun, hended, hW, hsame⟩ := X_2.leave (v := some (.int (0 : Int32))) (fun h => by rw [Bd.returns] at h; cases h)
  refine ⟨_, _, pre0 _ ?_, hrun, hended, _, _, rfl, ?_, ⟨_, rfl⟩, hW, hsame.mono (by decide) (by decide)⟩
  · show oS pP eE below s₁ (mkF mM 0 #[.val (.ref a), .val (.ref b)] []) _
    refine XS.aloadN X0.here hx rfl (hb hby d_prog_8m2_0) rfl rfl ?_
    show oS pP eE below s₁ (mkF mM 1 #[.val (.ref a), .val (.ref b)] [(.ref a)]) _
    refine st_1 _ ?_
    show oS pP eE below T_1 (mkF mM 4 #[.val (.ref a), .val (.ref b)] [(.int w1)]) _
    refine XS.aloadN X_1.here hx rfl (hb hby d_prog_8m2_4) rfl rfl ?_
    show oS pP eE below T_1 (mkF mM 5 #[.val (.ref a), .val (.ref b)] [(.ref b), (.int w1)]) _
    refine st_2 _ ?_
    show oS pP eE below T_2 (mkF mM 8 #[.val (.ref a), .val (.ref b)] [(.int w2), (.int w1)]) _
    refine XS.icmpYes X_2.here hx rfl (pc0 := 8) (pc' := 74) rfl (hb hby d_prog_8m2_8) rfl (XT.ii_ne_t q0) (by decide) (by decide) ?_
    refine XS.iconst X_2.here hx rfl (hb hby d_prog_8m2_74) ?_
    show oS pP eE below T_2 (mkF mM 75 #[.val (.ref a), .val (.ref b)] [(.int (0 : Int32))]) _
    exact retN X_2 hx (t := .boolean) Bd.returns (by simp) (hb hby d_prog_8m2_75) hr
  · show Q_al Z a b w1 v1 ox1 oy1 cw1 ch1 w2 v2 ox2 oy2 cw2 ch2 h0 n0 _ T_2.heap _
    rw [e_2]
    exact ⟨(congrArg (fun z => some (Value.int z)) (own_al0 (Or.inl q0)).symm), N0, rfl⟩
theorem d_prog_8m2_11 : decode prog_8_method_2_code 11 = .ok (.aload_n 0, 1) := by decide +kernel
theorem d_prog_8m2_12 : decode prog_8_method_2_code 12 = .ok (.getfield 66, 3) := by decide +kernel
theorem d_prog_8m2_15 : decode prog_8_method_2_code 15 = .ok (.aload_n 1, 1) := by decide +kernel
theorem d_prog_8m2_16 : decode prog_8_method_2_code 16 = .ok (.getfield 66, 3) := by decide +kernel
theorem d_prog_8m2_19 : decode prog_8_method_2_code 19 = .ok (.if_icmp .ne 55, 3) := by decide +kernel
theorem ef_al_1 (mM : MethodId) (x0 : Addr) (x1 : Addr) : entryFrame mM #[(.ref x0), (.ref x1)] 2 = mkF mM 0 #[.val (.ref x0), .val (.ref x1)] [] := by first | (simp [entryFrame, mkF, argsToLocals, Value.category]; done) | rfl
set_option maxRecDepth 65536 in
set_option maxHeartbeats 40000000 in
theorem rm_al_1 (l : Launch) (Z : State) (a0 : Array Value) (hw : ∀ d ∈ tables_1, d.before a0 Z = true) (ws : List Jvm.Cond) (a : Addr) (b : Addr) (w1 : Int32) (v1 : Int32) (ox1 : UInt64) (oy1 : UInt64) (cw1 : UInt64) (ch1 : UInt64) (w2 : Int32) (v2 : Int32) (ox2 : UInt64) (oy2 : UInt64) (cw2 : UInt64) (ch2 : UInt64) (h0 : Heap) (n0 : Nat) (Z0 : n0 ≤ h0.size) (F_width_a : Fld Z h0 a "com/example/greenweft/greenweft/map/Grid" "width" "I" (.int w1)) (F_height_a : Fld Z h0 a "com/example/greenweft/greenweft/map/Grid" "height" "I" (.int v1)) (F_originX_a : Fld Z h0 a "com/example/greenweft/greenweft/map/Grid" "originX" "D" (.double ox1)) (F_originY_a : Fld Z h0 a "com/example/greenweft/greenweft/map/Grid" "originY" "D" (.double oy1)) (F_cellWidth_a : Fld Z h0 a "com/example/greenweft/greenweft/map/Grid" "cellWidth" "D" (.double cw1)) (F_cellHeight_a : Fld Z h0 a "com/example/greenweft/greenweft/map/Grid" "cellHeight" "D" (.double ch1)) (F_width_b : Fld Z h0 b "com/example/greenweft/greenweft/map/Grid" "width" "I" (.int w2)) (F_height_b : Fld Z h0 b "com/example/greenweft/greenweft/map/Grid" "height" "I" (.int v2)) (F_originX_b : Fld Z h0 b "com/example/greenweft/greenweft/map/Grid" "originX" "D" (.double ox2)) (F_originY_b : Fld Z h0 b "com/example/greenweft/greenweft/map/Grid" "originY" "D" (.double oy2)) (F_cellWidth_b : Fld Z h0 b "com/example/greenweft/greenweft/map/Grid" "cellWidth" "D" (.double cw2)) (F_cellHeight_b : Fld Z h0 b "com/example/greenweft/greenweft/map/Grid" "cellHeight" "D" (.double ch2)) (q0 : w1 = w2) (q1 : ¬ v1 = v2) :
    MetFree l (⟨"com/example/greenweft/greenweft/map/Grid", "alignsWith", "(Lcom/example/greenweft/greenweft/map/Grid;)Z"⟩ : MethodName) (head1 (Jvm.Cond.code (⟨"com/example/greenweft/greenweft/map/Grid", "alignsWith", "(Lcom/example/greenweft/greenweft/map/Grid;)Z"⟩ : MethodName) prog_8_method_2_code 2 (some .boolean) :: ws) oR2) (fun aa_ U_ => aa_ = #[(.ref a), (.ref b)] ∧ Z.Warmed39 U_.vm ∧ U_.heap = h0) (fun _ _ _ _ _ => True) (fun _ U_ o_ U'_ => ∃ v_ L_, o_ = .returned v_ ∧ Q_al Z a b w1 v1 ox1 oy1 cw1 ch1 w2 v2 ox2 oy2 cw2 ch2 h0 n0 v_ U'_.heap L_ ∧ FrameEnd U_ o_ U'_ L_ oR2.cells oR2.slots) := by
  refine MetFree.of_bodySF (plainFor_of_name pn_7) hisR ?_
  intro pP eE sS mM argsA below meth cC s₁ Bd hml0 hP hK
  obtain ⟨rfl, hZ, hh⟩ := hP
  have hx := Bd.exec
  have hby := Bd.bytes
  have hml : cC.maxLocals = 2 := hml0
  have hown : sS.vm.findClass "com/example/greenweft/greenweft/map/Grid" = some mM.cls := findClass_of_methodNamed Bd.named
  have hnm := (name_of_methodNamed Bd.named Bd.method).1
  have X0 : Stand pP l eE oR2 sS mM #[(.ref a), (.ref b)] below meth cC s₁ [] 0 0 := Stand.of_body Bd
  have e0 : s₁.heap = h0 := by rw [← hh, Bd.state]; rfl
  have N0 := Fr.nil n0
  have pre0 : ∀ t_, Steps pP.tables eE below (s₁.setTop (mkF mM 0 #[.val (.ref a), .val (.ref b)] [])) t_ → Steps pP.tables eE below (s₁.setTop (entryFrame mM #[(.ref a), (.ref b)] 2)) t_ := fun t_ k_ => castTop (ef_al_1 mM a b) k_
  obtain ⟨T_1, X_1, e_1, st_1⟩ := getF X0 hx hZ hown (host := "") (Or.inl (ow hw 192 rfl)) Via.refl e0 F_width_a (g := (mkF mM 1 #[.val (.ref a), .val (.ref b)] [(.ref a)])) rfl rfl (hb hby d_prog_8m2_1)
  obtain ⟨T_2, X_2, e_2, st_2⟩ := getF X_1 hx hZ hown (host := "") (Or.inl (ow hw 192 rfl)) Via.refl e_1 F_width_b (g := (mkF mM 5 #[.val (.ref a), .val (.ref b)] [(.ref b), (.int w1)])) rfl rfl (hb hby d_prog_8m2_5)
  obtain ⟨T_3, X_3, e_3, st_3⟩ := getF X_2 hx hZ hown (host := "") (Or.inl (ow hw 194 rfl)) Via.refl e_2 F_height_a (g := (mkF mM 12 #[.val (.ref a), .val (.ref b)] [(.ref a)])) rfl rfl (hb hby d_prog_8m2_12)
  obtain ⟨T_4, X_4, e_4, st_4⟩ := getF X_3 hx hZ hown (host := "") (Or.inl (ow hw 194 rfl)) Via.refl e_3 F_height_b (g := (mkF mM 16 #[.val (.ref a), .val (.ref b)] [(.ref b), (.int v1)])) rfl rfl (hb hby d_prog_8m2_16)
  obtain ⟨fs, hr, hrun, hended, hW, hsame⟩ := X_4.leave (v := some (.int (0 : Int32))) (fun h => by rw [Bd.returns] at h; cases h)
  refine ⟨_, _, pre0 _ ?_, hrun, hended, _, _, rfl, ?_, ⟨_, rfl⟩, hW, hsame.mono (by decide) (by decide)⟩
  · show oS pP eE below s₁ (mkF mM 0 #[.val (.ref a), .val (.ref b)] []) _
    refine XS.aloadN X0.here hx rfl (hb hby d_prog_8m2_0) rfl rfl ?_
    show oS pP eE below s₁ (mkF mM 1 #[.val (.ref a), .val (.ref b)] [(.ref a)]) _
    refine st_1 _ ?_
    show oS pP eE below T_1 (mkF mM 4 #[.val (.ref a), .val (.ref b)] [(.int w1)]) _
    refine XS.aloadN X_1.here hx rfl (hb hby d_prog_8m2_4) rfl rfl ?_
    show oS pP eE below T_1 (mkF mM 5 #[.val (.ref a), .val (.ref b)] [(.ref b), (.int w1)]) _
    refine st_2 _ ?_
    show oS pP eE below T_2 (mkF mM 8 #[.val (.ref a), .val (.ref b)] [(.int w2), (.int w1)]) _
    refine XS.icmpNo X_2.here hx rfl (hb hby d_prog_8m2_8) rfl (XT.ii_ne_f q0) ?_
    refine XS.aloadN X_2.here hx rfl (hb hby d_prog_8m2_11) rfl rfl ?_
    show oS pP eE below T_2 (mkF mM 12 #[.val (.ref a), .val (.ref b)] [(.ref a)]) _
    refine st_3 _ ?_
    show oS pP eE below T_3 (mkF mM 15 #[.val (.ref a), .val (.ref b)] [(.int v1)]) _
    refine XS.aloadN X_3.here hx rfl (hb hby d_prog_8m2_15) rfl rfl ?_
    show oS pP eE below T_3 (mkF mM 16 #[.val (.ref a), .val (.ref b)] [(.ref b), (.int v1)]) _
    refine st_4 _ ?_
    show oS pP eE below T_4 (mkF mM 19 #[.val (.ref a), .val (.ref b)] [(.int v2), (.int v1)]) _
    refine XS.icmpYes X_4.here hx rfl (pc0 := 19) (pc' := 74) rfl (hb hby d_prog_8m2_19) rfl (XT.ii_ne_t q1) (by decide) (by decide) ?_
    refine XS.iconst X_4.here hx rfl (hb hby d_prog_8m2_74) ?_
    show oS pP eE below T_4 (mkF mM 75 #[.val (.ref a), .val (.ref b)] [(.int (0 : Int32))]) _
    exact retN X_4 hx (t := .boolean) Bd.returns (by simp) (hb hby d_prog_8m2_75) hr
  · show Q_al Z a b w1 v1 ox1 oy1 cw1 ch1 w2 v2 ox2 oy2 cw2 ch2 h0 n0 _ T_4.heap _
    rw [e_4]
    exact ⟨(congrArg (fun z => some (Value.int z)) (own_al0 (Or.inr (Or.inl q1))).symm), N0, rfl⟩
theorem d_prog_8m2_22 : decode prog_8_method_2_code 22 = .ok (.aload_n 0, 1) := by decide +kernel
theorem d_prog_8m2_23 : decode prog_8_method_2_code 23 = .ok (.getfield 69, 3) := by decide +kernel
theorem d_prog_8m2_26 : decode prog_8_method_2_code 26 = .ok (.aload_n 1, 1) := by decide +kernel
theorem d_prog_8m2_27 : decode prog_8_method_2_code 27 = .ok (.getfield 69, 3) := by decide +kernel
theorem d_prog_8m2_30 : decode prog_8_method_2_code 30 = .ok (.dcmp .l, 1) := by decide +kernel
theorem d_prog_8m2_31 : decode prog_8_method_2_code 31 = .ok (.ifCond .ne 43, 3) := by decide +kernel
theorem ef_al_2 (mM : MethodId) (x0 : Addr) (x1 : Addr) : entryFrame mM #[(.ref x0), (.ref x1)] 2 = mkF mM 0 #[.val (.ref x0), .val (.ref x1)] [] := by first | (simp [entryFrame, mkF, argsToLocals, Value.category]; done) | rfl
set_option maxRecDepth 65536 in
set_option maxHeartbeats 40000000 in
theorem rm_al_2 (l : Launch) (Z : State) (a0 : Array Value) (hw : ∀ d ∈ tables_1, d.before a0 Z = true) (ws : List Jvm.Cond) (a : Addr) (b : Addr) (w1 : Int32) (v1 : Int32) (ox1 : UInt64) (oy1 : UInt64) (cw1 : UInt64) (ch1 : UInt64) (w2 : Int32) (v2 : Int32) (ox2 : UInt64) (oy2 : UInt64) (cw2 : UInt64) (ch2 : UInt64) (h0 : Heap) (n0 : Nat) (Z0 : n0 ≤ h0.size) (F_width_a : Fld Z h0 a "com/example/greenweft/greenweft/map/Grid" "width" "I" (.int w1)) (F_height_a : Fld Z h0 a "com/example/greenweft/greenweft/map/Grid" "height" "I" (.int v1)) (F_originX_a : Fld Z h0 a "com/example/greenweft/greenweft/map/Grid" "originX" "D" (.double ox1)) (F_originY_a : Fld Z h0 a "com/example/greenweft/greenweft/map/Grid" "originY" "D" (.double oy1)) (F_cellWidth_a : Fld Z h0 a "com/example/greenweft/greenweft/map/Grid" "cellWidth" "D" (.double cw1)) (F_cellHeight_a : Fld Z h0 a "com/example/greenweft/greenweft/map/Grid" "cellHeight" "D" (.double ch1)) (F_width_b : Fld Z h0 b "com/example/greenweft/greenweft/map/Grid" "width" "I" (.int w2)) (F_height_b : Fld Z h0 b "com/example/greenweft/greenweft/map/Grid" "height" "I" (.int v2)) (F_originX_b : Fld Z h0 b "com/example/greenweft/greenweft/map/Grid" "originX" "D" (.double ox2)) (F_originY_b : Fld Z h0 b "com/example/greenweft/greenweft/map/Grid" "originY" "D" (.double oy2)) (F_cellWidth_b : Fld Z h0 b "com/example/greenweft/greenweft/map/Grid" "cellWidth" "D" (.double cw2)) (F_cellHeight_b : Fld Z h0 b "com/example/greenweft/greenweft/map/Grid" "cellHeight" "D" (.double ch2)) (q0 : w1 = w2) (q1 : v1 = v2) (q2 : ¬ (cmpValue (FP.dcmp ox1 ox2) .l) = 0) :
    MetFree l (⟨"com/example/greenweft/greenweft/map/Grid", "alignsWith", "(Lcom/example/greenweft/greenweft/map/Grid;)Z"⟩ : MethodName) (head1 (Jvm.Cond.code (⟨"com/example/greenweft/greenweft/map/Grid", "alignsWith", "(Lcom/example/greenweft/greenweft/map/Grid;)Z"⟩ : MethodName) prog_8_method_2_code 2 (some .boolean) :: ws) oR2) (fun aa_ U_ => aa_ = #[(.ref a), (.ref b)] ∧ Z.Warmed39 U_.vm ∧ U_.heap = h0) (fun _ _ _ _ _ => True) (fun _ U_ o_ U'_ => ∃ v_ L_, o_ = .returned v_ ∧ Q_al Z a b w1 v1 ox1 oy1 cw1 ch1 w2 v2 ox2 oy2 cw2 ch2 h0 n0 v_ U'_.heap L_ ∧ FrameEnd U_ o_ U'_ L_ oR2.cells oR2.slots) := by
  refine MetFree.of_bodySF (plainFor_of_name pn_7) hisR ?_
  intro pP eE sS mM argsA below meth cC s₁ Bd hml0 hP hK
  obtain ⟨rfl, hZ, hh⟩ := hP
  have hx := Bd.exec
  have hby := Bd.bytes
  have hml : cC.maxLocals = 2 := hml0
  have hown : sS.vm.findClass "com/example/greenweft/greenweft/map/Grid" = some mM.cls := findClass_of_methodNamed Bd.named
  have hnm := (name_of_methodNamed Bd.named Bd.method).1
  have X0 : Stand pP l eE oR2 sS mM #[(.ref a), (.ref b)] below meth cC s₁ [] 0 0 := Stand.of_body Bd
  have e0 : s₁.heap = h0 := by rw [← hh, Bd.state]; rfl
  have N0 := Fr.nil n0
  have pre0 : ∀ t_, Steps pP.tables eE below (s₁.setTop (mkF mM 0 #[.val (.ref a), .val (.ref b)] [])) t_ → Steps pP.tables eE below (s₁.setTop (entryFrame mM #[(.ref a), (.ref b)] 2)) t_ := fun t_ k_ => castTop (ef_al_2 mM a b) k_
  obtain ⟨T_1, X_1, e_1, st_1⟩ := getF X0 hx hZ hown (host := "") (Or.inl (ow hw 192 rfl)) Via.refl e0 F_width_a (g := (mkF mM 1 #[.val (.ref a), .val (.ref b)] [(.ref a)])) rfl rfl (hb hby d_prog_8m2_1)
  obtain ⟨T_2, X_2, e_2, st_2⟩ := getF X_1 hx hZ hown (host := "") (Or.inl (ow hw 192 rfl)) Via.refl e_1 F_width_b (g := (mkF mM 5 #[.val (.ref a), .val (.ref b)] [(.ref b), (.int w1)])) rfl rfl (hb hby d_prog_8m2_5)
  obtain ⟨T_3, X_3, e_3, st_3⟩ := getF X_2 hx hZ hown (host := "") (Or.inl (ow hw 194 rfl)) Via.refl e_2 F_height_a (g := (mkF mM 12 #[.val (.ref a), .val (.ref b)] [(.ref a)])) rfl rfl (hb hby d_prog_8m2_12)
  obtain ⟨T_4, X_4, e_4, st_4⟩ := getF X_3 hx hZ hown (host := "") (Or.inl (ow hw 194 rfl)) Via.refl e_3 F_height_b (g := (mkF mM 16 #[.val (.ref a), .val (.ref b)] [(.ref b), (.int v1)])) rfl rfl (hb hby d_prog_8m2_16)
  obtain ⟨T_5, X_5, e_5, st_5⟩ := getF X_4 hx hZ hown (host := "") (Or.inl (ow hw 196 rfl)) Via.refl e_4 F_originX_a (g := (mkF mM 23 #[.val (.ref a), .val (.ref b)] [(.ref a)])) rfl rfl (hb hby d_prog_8m2_23)
  obtain ⟨T_6, X_6, e_6, st_6⟩ := getF X_5 hx hZ hown (host := "") (Or.inl (ow hw 196 rfl)) Via.refl e_5 F_originX_b (g := (mkF mM 27 #[.val (.ref a), .val (.ref b)] [(.ref b), (.double ox1)])) rfl rfl (hb hby d_prog_8m2_27)
  obtain ⟨fs, hr, hrun, hended, hW, hsame⟩ := X_6.leave (v := some (.int (0 : Int32))) (fun h => by rw [Bd.returns] at h; cases h)
  refine ⟨_, _, pre0 _ ?_, hrun, hended, _, _, rfl, ?_, ⟨_, rfl⟩, hW, hsame.mono (by decide) (by decide)⟩
  · show oS pP eE below s₁ (mkF mM 0 #[.val (.ref a), .val (.ref b)] []) _
    refine XS.aloadN X0.here hx rfl (hb hby d_prog_8m2_0) rfl rfl ?_
    show oS pP eE below s₁ (mkF mM 1 #[.val (.ref a), .val (.ref b)] [(.ref a)]) _
    refine st_1 _ ?_
    show oS pP eE below T_1 (mkF mM 4 #[.val (.ref a), .val (.ref b)] [(.int w1)]) _
    refine XS.aloadN X_1.here hx rfl (hb hby d_prog_8m2_4) rfl rfl ?_
    show oS pP eE below T_1 (mkF mM 5 #[.val (.ref a), .val (.ref b)] [(.ref b), (.int w1)]) _
    refine st_2 _ ?_
    show oS pP eE below T_2 (mkF mM 8 #[.val (.ref a), .val (.ref b)] [(.int w2), (.int w1)]) _
    refine XS.icmpNo X_2.here hx rfl (hb hby d_prog_8m2_8) rfl (XT.ii_ne_f q0) ?_
    refine XS.aloadN X_2.here hx rfl (hb hby d_prog_8m2_11) rfl rfl ?_
    show oS pP eE below T_2 (mkF mM 12 #[.val (.ref a), .val (.ref b)] [(.ref a)]) _
    refine st_3 _ ?_
    show oS pP eE below T_3 (mkF mM 15 #[.val (.ref a), .val (.ref b)] [(.int v1)]) _
    refine XS.aloadN X_3.here hx rfl (hb hby d_prog_8m2_15) rfl rfl ?_
    show oS pP eE below T_3 (mkF mM 16 #[.val (.ref a), .val (.ref b)] [(.ref b), (.int v1)]) _
    refine st_4 _ ?_
    show oS pP eE below T_4 (mkF mM 19 #[.val (.ref a), .val (.ref b)] [(.int v2), (.int v1)]) _
    refine XS.icmpNo X_4.here hx rfl (hb hby d_prog_8m2_19) rfl (XT.ii_ne_f q1) ?_
    refine XS.aloadN X_4.here hx rfl (hb hby d_prog_8m2_22) rfl rfl ?_
    show oS pP eE below T_4 (mkF mM 23 #[.val (.ref a), .val (.ref b)] [(.ref a)]) _
    refine st_5 _ ?_
    show oS pP eE below T_5 (mkF mM 26 #[.val (.ref a), .val (.ref b)] [(.double ox1)]) _
    refine XS.aloadN X_5.here hx rfl (hb hby d_prog_8m2_26) rfl rfl ?_
    show oS pP eE below T_5 (mkF mM 27 #[.val (.ref a), .val (.ref b)] [(.ref b), (.double ox1)]) _
    refine st_6 _ ?_
    show oS pP eE below T_6 (mkF mM 30 #[.val (.ref a), .val (.ref b)] [(.double ox2), (.double ox1)]) _
    refine XS.dcmpS X_6.here hx rfl (hb hby d_prog_8m2_30) rfl rfl ?_
    refine XS.ifYes X_6.here hx rfl (pc0 := 31) (pc' := 74) rfl (hb hby d_prog_8m2_31) rfl (XT.i0_ne_t q2) (by decide) (by decide) ?_
    refine XS.iconst X_6.here hx rfl (hb hby d_prog_8m2_74) ?_
    show oS pP eE below T_6 (mkF mM 75 #[.val (.ref a), .val (.ref b)] [(.int (0 : Int32))]) _
    exact retN X_6 hx (t := .boolean) Bd.returns (by simp) (hb hby d_prog_8m2_75) hr
  · show Q_al Z a b w1 v1 ox1 oy1 cw1 ch1 w2 v2 ox2 oy2 cw2 ch2 h0 n0 _ T_6.heap _
    rw [e_6]
    exact ⟨(congrArg (fun z => some (Value.int z)) (own_al0 (Or.inr (Or.inr (Or.inl q2)))).symm), N0, rfl⟩
theorem d_prog_8m2_34 : decode prog_8_method_2_code 34 = .ok (.aload_n 0, 1) := by decide +kernel
theorem d_prog_8m2_35 : decode prog_8_method_2_code 35 = .ok (.getfield 73, 3) := by decide +kernel
theorem d_prog_8m2_38 : decode prog_8_method_2_code 38 = .ok (.aload_n 1, 1) := by decide +kernel
theorem d_prog_8m2_39 : decode prog_8_method_2_code 39 = .ok (.getfield 73, 3) := by decide +kernel
theorem d_prog_8m2_42 : decode prog_8_method_2_code 42 = .ok (.dcmp .l, 1) := by decide +kernel
theorem d_prog_8m2_43 : decode prog_8_method_2_code 43 = .ok (.ifCond .ne 31, 3) := by decide +kernel
theorem ef_al_3 (mM : MethodId) (x0 : Addr) (x1 : Addr) : entryFrame mM #[(.ref x0), (.ref x1)] 2 = mkF mM 0 #[.val (.ref x0), .val (.ref x1)] [] := by first | (simp [entryFrame, mkF, argsToLocals, Value.category]; done) | rfl
set_option maxRecDepth 65536 in
set_option maxHeartbeats 40000000 in
theorem rm_al_3 (l : Launch) (Z : State) (a0 : Array Value) (hw : ∀ d ∈ tables_1, d.before a0 Z = true) (ws : List Jvm.Cond) (a : Addr) (b : Addr) (w1 : Int32) (v1 : Int32) (ox1 : UInt64) (oy1 : UInt64) (cw1 : UInt64) (ch1 : UInt64) (w2 : Int32) (v2 : Int32) (ox2 : UInt64) (oy2 : UInt64) (cw2 : UInt64) (ch2 : UInt64) (h0 : Heap) (n0 : Nat) (Z0 : n0 ≤ h0.size) (F_width_a : Fld Z h0 a "com/example/greenweft/greenweft/map/Grid" "width" "I" (.int w1)) (F_height_a : Fld Z h0 a "com/example/greenweft/greenweft/map/Grid" "height" "I" (.int v1)) (F_originX_a : Fld Z h0 a "com/example/greenweft/greenweft/map/Grid" "originX" "D" (.double ox1)) (F_originY_a : Fld Z h0 a "com/example/greenweft/greenweft/map/Grid" "originY" "D" (.double oy1)) (F_cellWidth_a : Fld Z h0 a "com/example/greenweft/greenweft/map/Grid" "cellWidth" "D" (.double cw1)) (F_cellHeight_a : Fld Z h0 a "com/example/greenweft/greenweft/map/Grid" "cellHeight" "D" (.double ch1)) (F_width_b : Fld Z h0 b "com/example/greenweft/greenweft/map/Grid" "width" "I" (.int w2)) (F_height_b : Fld Z h0 b "com/example/greenweft/greenweft/map/Grid" "height" "I" (.int v2)) (F_originX_b : Fld Z h0 b "com/example/greenweft/greenweft/map/Grid" "originX" "D" (.double ox2)) (F_originY_b : Fld Z h0 b "com/example/greenweft/greenweft/map/Grid" "originY" "D" (.double oy2)) (F_cellWidth_b : Fld Z h0 b "com/example/greenweft/greenweft/map/Grid" "cellWidth" "D" (.double cw2)) (F_cellHeight_b : Fld Z h0 b "com/example/greenweft/greenweft/map/Grid" "cellHeight" "D" (.double ch2)) (q0 : w1 = w2) (q1 : v1 = v2) (q2 : (cmpValue (FP.dcmp ox1 ox2) .l) = 0) (q3 : ¬ (cmpValue (FP.dcmp oy1 oy2) .l) = 0) :
    MetFree l (⟨"com/example/greenweft/greenweft/map/Grid", "alignsWith", "(Lcom/example/greenweft/greenweft/map/Grid;)Z"⟩ : MethodName) (head1 (Jvm.Cond.code (⟨"com/example/greenweft/greenweft/map/Grid", "alignsWith", "(Lcom/example/greenweft/greenweft/map/Grid;)Z"⟩ : MethodName) prog_8_method_2_code 2 (some .boolean) :: ws) oR2) (fun aa_ U_ => aa_ = #[(.ref a), (.ref b)] ∧ Z.Warmed39 U_.vm ∧ U_.heap = h0) (fun _ _ _ _ _ => True) (fun _ U_ o_ U'_ => ∃ v_ L_, o_ = .returned v_ ∧ Q_al Z a b w1 v1 ox1 oy1 cw1 ch1 w2 v2 ox2 oy2 cw2 ch2 h0 n0 v_ U'_.heap L_ ∧ FrameEnd U_ o_ U'_ L_ oR2.cells oR2.slots) := by
  refine MetFree.of_bodySF (plainFor_of_name pn_7) hisR ?_
  intro pP eE sS mM argsA below meth cC s₁ Bd hml0 hP hK
  obtain ⟨rfl, hZ, hh⟩ := hP
  have hx := Bd.exec
  have hby := Bd.bytes
  have hml : cC.maxLocals = 2 := hml0
  have hown : sS.vm.findClass "com/example/greenweft/greenweft/map/Grid" = some mM.cls := findClass_of_methodNamed Bd.named
  have hnm := (name_of_methodNamed Bd.named Bd.method).1
  have X0 : Stand pP l eE oR2 sS mM #[(.ref a), (.ref b)] below meth cC s₁ [] 0 0 := Stand.of_body Bd
  have e0 : s₁.heap = h0 := by rw [← hh, Bd.state]; rfl
  have N0 := Fr.nil n0
  have pre0 : ∀ t_, Steps pP.tables eE below (s₁.setTop (mkF mM 0 #[.val (.ref a), .val (.ref b)] [])) t_ → Steps pP.tables eE below (s₁.setTop (entryFrame mM #[(.ref a), (.ref b)] 2)) t_ := fun t_ k_ => castTop (ef_al_3 mM a b) k_
  obtain ⟨T_1, X_1, e_1, st_1⟩ := getF X0 hx hZ hown (host := "") (Or.inl (ow hw 192 rfl)) Via.refl e0 F_width_a (g := (mkF mM 1 #[.val (.ref a), .val (.ref b)] [(.ref a)])) rfl rfl (hb hby d_prog_8m2_1)
  obtain ⟨T_2, X_2, e_2, st_2⟩ := getF X_1 hx hZ hown (host := "") (Or.inl (ow hw 192 rfl)) Via.refl e_1 F_width_b (g := (mkF mM 5 #[.val (.ref a), .val (.ref b)] [(.ref b), (.int w1)])) rfl rfl (hb hby d_prog_8m2_5)
  obtain ⟨T_3, X_3, e_3, st_3⟩ := getF X_2 hx hZ hown (host := "") (Or.inl (ow hw 194 rfl)) Via.refl e_2 F_height_a (g := (mkF mM 12 #[.val (.ref a), .val (.ref b)] [(.ref a)])) rfl rfl (hb hby d_prog_8m2_12)
  obtain ⟨T_4, X_4, e_4, st_4⟩ := getF X_3 hx hZ hown (host := "") (Or.inl (ow hw 194 rfl)) Via.refl e_3 F_height_b (g := (mkF mM 16 #[.val (.ref a), .val (.ref b)] [(.ref b), (.int v1)])) rfl rfl (hb hby d_prog_8m2_16)
  obtain ⟨T_5, X_5, e_5, st_5⟩ := getF X_4 hx hZ hown (host := "") (Or.inl (ow hw 196 rfl)) Via.refl e_4 F_originX_a (g := (mkF mM 23 #[.val (.ref a), .val (.ref b)] [(.ref a)])) rfl rfl (hb hby d_prog_8m2_23)
  obtain ⟨T_6, X_6, e_6, st_6⟩ := getF X_5 hx hZ hown (host := "") (Or.inl (ow hw 196 rfl)) Via.refl e_5 F_originX_b (g := (mkF mM 27 #[.val (.ref a), .val (.ref b)] [(.ref b), (.double ox1)])) rfl rfl (hb hby d_prog_8m2_27)
  obtain ⟨T_7, X_7, e_7, st_7⟩ := getF X_6 hx hZ hown (host := "") (Or.inl (ow hw 198 rfl)) Via.refl e_6 F_originY_a (g := (mkF mM 35 #[.val (.ref a), .val (.ref b)] [(.ref a)])) rfl rfl (hb hby d_prog_8m2_35)
  obtain ⟨T_8, X_8, e_8, st_8⟩ := getF X_7 hx hZ hown (host := "") (Or.inl (ow hw 198 rfl)) Via.refl e_7 F_originY_b (g := (mkF mM 39 #[.val (.ref a), .val (.ref b)] [(.ref b), (.double oy1)])) rfl rfl (hb hby d_prog_8m2_39)
  obtain ⟨fs, hr, hrun, hended, hW, hsame⟩ := X_8.leave (v := some (.int (0 : Int32))) (fun h => by rw [Bd.returns] at h; cases h)
  refine ⟨_, _, pre0 _ ?_, hrun, hended, _, _, rfl, ?_, ⟨_, rfl⟩, hW, hsame.mono (by decide) (by decide)⟩
  · show oS pP eE below s₁ (mkF mM 0 #[.val (.ref a), .val (.ref b)] []) _
    refine XS.aloadN X0.here hx rfl (hb hby d_prog_8m2_0) rfl rfl ?_
    show oS pP eE below s₁ (mkF mM 1 #[.val (.ref a), .val (.ref b)] [(.ref a)]) _
    refine st_1 _ ?_
    show oS pP eE below T_1 (mkF mM 4 #[.val (.ref a), .val (.ref b)] [(.int w1)]) _
    refine XS.aloadN X_1.here hx rfl (hb hby d_prog_8m2_4) rfl rfl ?_
    show oS pP eE below T_1 (mkF mM 5 #[.val (.ref a), .val (.ref b)] [(.ref b), (.int w1)]) _
    refine st_2 _ ?_
    show oS pP eE below T_2 (mkF mM 8 #[.val (.ref a), .val (.ref b)] [(.int w2), (.int w1)]) _
    refine XS.icmpNo X_2.here hx rfl (hb hby d_prog_8m2_8) rfl (XT.ii_ne_f q0) ?_
    refine XS.aloadN X_2.here hx rfl (hb hby d_prog_8m2_11) rfl rfl ?_
    show oS pP eE below T_2 (mkF mM 12 #[.val (.ref a), .val (.ref b)] [(.ref a)]) _
    refine st_3 _ ?_
    show oS pP eE below T_3 (mkF mM 15 #[.val (.ref a), .val (.ref b)] [(.int v1)]) _
    refine XS.aloadN X_3.here hx rfl (hb hby d_prog_8m2_15) rfl rfl ?_
    show oS pP eE below T_3 (mkF mM 16 #[.val (.ref a), .val (.ref b)] [(.ref b), (.int v1)]) _
    refine st_4 _ ?_
    show oS pP eE below T_4 (mkF mM 19 #[.val (.ref a), .val (.ref b)] [(.int v2), (.int v1)]) _
    refine XS.icmpNo X_4.here hx rfl (hb hby d_prog_8m2_19) rfl (XT.ii_ne_f q1) ?_
    refine XS.aloadN X_4.here hx rfl (hb hby d_prog_8m2_22) rfl rfl ?_
    show oS pP eE below T_4 (mkF mM 23 #[.val (.ref a), .val (.ref b)] [(.ref a)]) _
    refine st_5 _ ?_
    show oS pP eE below T_5 (mkF mM 26 #[.val (.ref a), .val (.ref b)] [(.double ox1)]) _
    refine XS.aloadN X_5.here hx rfl (hb hby d_prog_8m2_26) rfl rfl ?_
    show oS pP eE below T_5 (mkF mM 27 #[.val (.ref a), .val (.ref b)] [(.ref b), (.double ox1)]) _
    refine st_6 _ ?_
    show oS pP eE below T_6 (mkF mM 30 #[.val (.ref a), .val (.ref b)] [(.double ox2), (.double ox1)]) _
    refine XS.dcmpS X_6.here hx rfl (hb hby d_prog_8m2_30) rfl rfl ?_
    refine XS.ifNo X_6.here hx rfl (hb hby d_prog_8m2_31) rfl (XT.i0_ne_f q2) ?_
    refine XS.aloadN X_6.here hx rfl (hb hby d_prog_8m2_34) rfl rfl ?_
    show oS pP eE below T_6 (mkF mM 35 #[.val (.ref a), .val (.ref b)] [(.ref a)]) _
    refine st_7 _ ?_
    show oS pP eE below T_7 (mkF mM 38 #[.val (.ref a), .val (.ref b)] [(.double oy1)]) _
    refine XS.aloadN X_7.here hx rfl (hb hby d_prog_8m2_38) rfl rfl ?_
    show oS pP eE below T_7 (mkF mM 39 #[.val (.ref a), .val (.ref b)] [(.ref b), (.double oy1)]) _
    refine st_8 _ ?_
    show oS pP eE below T_8 (mkF mM 42 #[.val (.ref a), .val (.ref b)] [(.double oy2), (.double oy1)]) _
    refine XS.dcmpS X_8.here hx rfl (hb hby d_prog_8m2_42) rfl rfl ?_
    refine XS.ifYes X_8.here hx rfl (pc0 := 43) (pc' := 74) rfl (hb hby d_prog_8m2_43) rfl (XT.i0_ne_t q3) (by decide) (by decide) ?_
    refine XS.iconst X_8.here hx rfl (hb hby d_prog_8m2_74) ?_
    show oS pP eE below T_8 (mkF mM 75 #[.val (.ref a), .val (.ref b)] [(.int (0 : Int32))]) _
    exact retN X_8 hx (t := .boolean) Bd.returns (by simp) (hb hby d_prog_8m2_75) hr
  · show Q_al Z a b w1 v1 ox1 oy1 cw1 ch1 w2 v2 ox2 oy2 cw2 ch2 h0 n0 _ T_8.heap _
    rw [e_8]
    exact ⟨(congrArg (fun z => some (Value.int z)) (own_al0 (Or.inr (Or.inr (Or.inr (Or.inl q3))))).symm), N0, rfl⟩
theorem d_prog_8m2_46 : decode prog_8_method_2_code 46 = .ok (.aload_n 0, 1) := by decide +kernel
theorem d_prog_8m2_47 : decode prog_8_method_2_code 47 = .ok (.getfield 76, 3) := by decide +kernel
theorem d_prog_8m2_50 : decode prog_8_method_2_code 50 = .ok (.aload_n 1, 1) := by decide +kernel
theorem d_prog_8m2_51 : decode prog_8_method_2_code 51 = .ok (.getfield 76, 3) := by decide +kernel
theorem d_prog_8m2_54 : decode prog_8_method_2_code 54 = .ok (.dcmp .l, 1) := by decide +kernel
theorem d_prog_8m2_55 : decode prog_8_method_2_code 55 = .ok (.ifCond .ne 19, 3) := by decide +kernel
theorem ef_al_4 (mM : MethodId) (x0 : Addr) (x1 : Addr) : entryFrame mM #[(.ref x0), (.ref x1)] 2 = mkF mM 0 #[.val (.ref x0), .val (.ref x1)] [] := by first | (simp [entryFrame, mkF, argsToLocals, Value.category]; done) | rfl
set_option maxRecDepth 65536 in
set_option maxHeartbeats 40000000 in
theorem rm_al_4 (l : Launch) (Z : State) (a0 : Array Value) (hw : ∀ d ∈ tables_1, d.before a0 Z = true) (ws : List Jvm.Cond) (a : Addr) (b : Addr) (w1 : Int32) (v1 : Int32) (ox1 : UInt64) (oy1 : UInt64) (cw1 : UInt64) (ch1 : UInt64) (w2 : Int32) (v2 : Int32) (ox2 : UInt64) (oy2 : UInt64) (cw2 : UInt64) (ch2 : UInt64) (h0 : Heap) (n0 : Nat) (Z0 : n0 ≤ h0.size) (F_width_a : Fld Z h0 a "com/example/greenweft/greenweft/map/Grid" "width" "I" (.int w1)) (F_height_a : Fld Z h0 a "com/example/greenweft/greenweft/map/Grid" "height" "I" (.int v1)) (F_originX_a : Fld Z h0 a "com/example/greenweft/greenweft/map/Grid" "originX" "D" (.double ox1)) (F_originY_a : Fld Z h0 a "com/example/greenweft/greenweft/map/Grid" "originY" "D" (.double oy1)) (F_cellWidth_a : Fld Z h0 a "com/example/greenweft/greenweft/map/Grid" "cellWidth" "D" (.double cw1)) (F_cellHeight_a : Fld Z h0 a "com/example/greenweft/greenweft/map/Grid" "cellHeight" "D" (.double ch1)) (F_width_b : Fld Z h0 b "com/example/greenweft/greenweft/map/Grid" "width" "I" (.int w2)) (F_height_b : Fld Z h0 b "com/example/greenweft/greenweft/map/Grid" "height" "I" (.int v2)) (F_originX_b : Fld Z h0 b "com/example/greenweft/greenweft/map/Grid" "originX" "D" (.double ox2)) (F_originY_b : Fld Z h0 b "com/example/greenweft/greenweft/map/Grid" "originY" "D" (.double oy2)) (F_cellWidth_b : Fld Z h0 b "com/example/greenweft/greenweft/map/Grid" "cellWidth" "D" (.double cw2)) (F_cellHeight_b : Fld Z h0 b "com/example/greenweft/greenweft/map/Grid" "cellHeight" "D" (.double ch2)) (q0 : w1 = w2) (q1 : v1 = v2) (q2 : (cmpValue (FP.dcmp ox1 ox2) .l) = 0) (q3 : (cmpValue (FP.dcmp oy1 oy2) .l) = 0) (q4 : ¬ (cmpValue (FP.dcmp cw1 cw2) .l) = 0) :
    MetFree l (⟨"com/example/greenweft/greenweft/map/Grid", "alignsWith", "(Lcom/example/greenweft/greenweft/map/Grid;)Z"⟩ : MethodName) (head1 (Jvm.Cond.code (⟨"com/example/greenweft/greenweft/map/Grid", "alignsWith", "(Lcom/example/greenweft/greenweft/map/Grid;)Z"⟩ : MethodName) prog_8_method_2_code 2 (some .boolean) :: ws) oR2) (fun aa_ U_ => aa_ = #[(.ref a), (.ref b)] ∧ Z.Warmed39 U_.vm ∧ U_.heap = h0) (fun _ _ _ _ _ => True) (fun _ U_ o_ U'_ => ∃ v_ L_, o_ = .returned v_ ∧ Q_al Z a b w1 v1 ox1 oy1 cw1 ch1 w2 v2 ox2 oy2 cw2 ch2 h0 n0 v_ U'_.heap L_ ∧ FrameEnd U_ o_ U'_ L_ oR2.cells oR2.slots) := by
  refine MetFree.of_bodySF (plainFor_of_name pn_7) hisR ?_
  intro pP eE sS mM argsA below meth cC s₁ Bd hml0 hP hK
  obtain ⟨rfl, hZ, hh⟩ := hP
  have hx := Bd.exec
  have hby := Bd.bytes
  have hml : cC.maxLocals = 2 := hml0
  have hown : sS.vm.findClass "com/example/greenweft/greenweft/map/Grid" = some mM.cls := findClass_of_methodNamed Bd.named
  have hnm := (name_of_methodNamed Bd.named Bd.method).1
  have X0 : Stand pP l eE oR2 sS mM #[(.ref a), (.ref b)] below meth cC s₁ [] 0 0 := Stand.of_body Bd
  have e0 : s₁.heap = h0 := by rw [← hh, Bd.state]; rfl
  have N0 := Fr.nil n0
  have pre0 : ∀ t_, Steps pP.tables eE below (s₁.setTop (mkF mM 0 #[.val (.ref a), .val (.ref b)] [])) t_ → Steps pP.tables eE below (s₁.setTop (entryFrame mM #[(.ref a), (.ref b)] 2)) t_ := fun t_ k_ => castTop (ef_al_4 mM a b) k_
  obtain ⟨T_1, X_1, e_1, st_1⟩ := getF X0 hx hZ hown (host := "") (Or.inl (ow hw 192 rfl)) Via.refl e0 F_width_a (g := (mkF mM 1 #[.val (.ref a), .val (.ref b)] [(.ref a)])) rfl rfl (hb hby d_prog_8m2_1)
  obtain ⟨T_2, X_2, e_2, st_2⟩ := getF X_1 hx hZ hown (host := "") (Or.inl (ow hw 192 rfl)) Via.refl e_1 F_width_b (g := (mkF mM 5 #[.val (.ref a), .val (.ref b)] [(.ref b), (.int w1)])) rfl rfl (hb hby d_prog_8m2_5)
  obtain ⟨T_3, X_3, e_3, st_3⟩ := getF X_2 hx hZ hown (host := "") (Or.inl (ow hw 194 rfl)) Via.refl e_2 F_height_a (g := (mkF mM 12 #[.val (.ref a), .val (.ref b)] [(.ref a)])) rfl rfl (hb hby d_prog_8m2_12)
  obtain ⟨T_4, X_4, e_4, st_4⟩ := getF X_3 hx hZ hown (host := "") (Or.inl (ow hw 194 rfl)) Via.refl e_3 F_height_b (g := (mkF mM 16 #[.val (.ref a), .val (.ref b)] [(.ref b), (.int v1)])) rfl rfl (hb hby d_prog_8m2_16)
  obtain ⟨T_5, X_5, e_5, st_5⟩ := getF X_4 hx hZ hown (host := "") (Or.inl (ow hw 196 rfl)) Via.refl e_4 F_originX_a (g := (mkF mM 23 #[.val (.ref a), .val (.ref b)] [(.ref a)])) rfl rfl (hb hby d_prog_8m2_23)
  obtain ⟨T_6, X_6, e_6, st_6⟩ := getF X_5 hx hZ hown (host := "") (Or.inl (ow hw 196 rfl)) Via.refl e_5 F_originX_b (g := (mkF mM 27 #[.val (.ref a), .val (.ref b)] [(.ref b), (.double ox1)])) rfl rfl (hb hby d_prog_8m2_27)
  obtain ⟨T_7, X_7, e_7, st_7⟩ := getF X_6 hx hZ hown (host := "") (Or.inl (ow hw 198 rfl)) Via.refl e_6 F_originY_a (g := (mkF mM 35 #[.val (.ref a), .val (.ref b)] [(.ref a)])) rfl rfl (hb hby d_prog_8m2_35)
  obtain ⟨T_8, X_8, e_8, st_8⟩ := getF X_7 hx hZ hown (host := "") (Or.inl (ow hw 198 rfl)) Via.refl e_7 F_originY_b (g := (mkF mM 39 #[.val (.ref a), .val (.ref b)] [(.ref b), (.double oy1)])) rfl rfl (hb hby d_prog_8m2_39)
  obtain ⟨T_9, X_9, e_9, st_9⟩ := getF X_8 hx hZ hown (host := "") (Or.inl (ow hw 200 rfl)) Via.refl e_8 F_cellWidth_a (g := (mkF mM 47 #[.val (.ref a), .val (.ref b)] [(.ref a)])) rfl rfl (hb hby d_prog_8m2_47)
  obtain ⟨T_10, X_10, e_10, st_10⟩ := getF X_9 hx hZ hown (host := "") (Or.inl (ow hw 200 rfl)) Via.refl e_9 F_cellWidth_b (g := (mkF mM 51 #[.val (.ref a), .val (.ref b)] [(.ref b), (.double cw1)])) rfl rfl (hb hby d_prog_8m2_51)
  obtain ⟨fs, hr, hrun, hended, hW, hsame⟩ := X_10.leave (v := some (.int (0 : Int32))) (fun h => by rw [Bd.returns] at h; cases h)
  refine ⟨_, _, pre0 _ ?_, hrun, hended, _, _, rfl, ?_, ⟨_, rfl⟩, hW, hsame.mono (by decide) (by decide)⟩
  · show oS pP eE below s₁ (mkF mM 0 #[.val (.ref a), .val (.ref b)] []) _
    refine XS.aloadN X0.here hx rfl (hb hby d_prog_8m2_0) rfl rfl ?_
    show oS pP eE below s₁ (mkF mM 1 #[.val (.ref a), .val (.ref b)] [(.ref a)]) _
    refine st_1 _ ?_
    show oS pP eE below T_1 (mkF mM 4 #[.val (.ref a), .val (.ref b)] [(.int w1)]) _
    refine XS.aloadN X_1.here hx rfl (hb hby d_prog_8m2_4) rfl rfl ?_
    show oS pP eE below T_1 (mkF mM 5 #[.val (.ref a), .val (.ref b)] [(.ref b), (.int w1)]) _
    refine st_2 _ ?_
    show oS pP eE below T_2 (mkF mM 8 #[.val (.ref a), .val (.ref b)] [(.int w2), (.int w1)]) _
    refine XS.icmpNo X_2.here hx rfl (hb hby d_prog_8m2_8) rfl (XT.ii_ne_f q0) ?_
    refine XS.aloadN X_2.here hx rfl (hb hby d_prog_8m2_11) rfl rfl ?_
    show oS pP eE below T_2 (mkF mM 12 #[.val (.ref a), .val (.ref b)] [(.ref a)]) _
    refine st_3 _ ?_
    show oS pP eE below T_3 (mkF mM 15 #[.val (.ref a), .val (.ref b)] [(.int v1)]) _
    refine XS.aloadN X_3.here hx rfl (hb hby d_prog_8m2_15) rfl rfl ?_
    show oS pP eE below T_3 (mkF mM 16 #[.val (.ref a), .val (.ref b)] [(.ref b), (.int v1)]) _
    refine st_4 _ ?_
    show oS pP eE below T_4 (mkF mM 19 #[.val (.ref a), .val (.ref b)] [(.int v2), (.int v1)]) _
    refine XS.icmpNo X_4.here hx rfl (hb hby d_prog_8m2_19) rfl (XT.ii_ne_f q1) ?_
    refine XS.aloadN X_4.here hx rfl (hb hby d_prog_8m2_22) rfl rfl ?_
    show oS pP eE below T_4 (mkF mM 23 #[.val (.ref a), .val (.ref b)] [(.ref a)]) _
    refine st_5 _ ?_
    show oS pP eE below T_5 (mkF mM 26 #[.val (.ref a), .val (.ref b)] [(.double ox1)]) _
    refine XS.aloadN X_5.here hx rfl (hb hby d_prog_8m2_26) rfl rfl ?_
    show oS pP eE below T_5 (mkF mM 27 #[.val (.ref a), .val (.ref b)] [(.ref b), (.double ox1)]) _
    refine st_6 _ ?_
    show oS pP eE below T_6 (mkF mM 30 #[.val (.ref a), .val (.ref b)] [(.double ox2), (.double ox1)]) _
    refine XS.dcmpS X_6.here hx rfl (hb hby d_prog_8m2_30) rfl rfl ?_
    refine XS.ifNo X_6.here hx rfl (hb hby d_prog_8m2_31) rfl (XT.i0_ne_f q2) ?_
    refine XS.aloadN X_6.here hx rfl (hb hby d_prog_8m2_34) rfl rfl ?_
    show oS pP eE below T_6 (mkF mM 35 #[.val (.ref a), .val (.ref b)] [(.ref a)]) _
    refine st_7 _ ?_
    show oS pP eE below T_7 (mkF mM 38 #[.val (.ref a), .val (.ref b)] [(.double oy1)]) _
    refine XS.aloadN X_7.here hx rfl (hb hby d_prog_8m2_38) rfl rfl ?_
    show oS pP eE below T_7 (mkF mM 39 #[.val (.ref a), .val (.ref b)] [(.ref b), (.double oy1)]) _
    refine st_8 _ ?_
    show oS pP eE below T_8 (mkF mM 42 #[.val (.ref a), .val (.ref b)] [(.double oy2), (.double oy1)]) _
    refine XS.dcmpS X_8.here hx rfl (hb hby d_prog_8m2_42) rfl rfl ?_
    refine XS.ifNo X_8.here hx rfl (hb hby d_prog_8m2_43) rfl (XT.i0_ne_f q3) ?_
    refine XS.aloadN X_8.here hx rfl (hb hby d_prog_8m2_46) rfl rfl ?_
    show oS pP eE below T_8 (mkF mM 47 #[.val (.ref a), .val (.ref b)] [(.ref a)]) _
    refine st_9 _ ?_
    show oS pP eE below T_9 (mkF mM 50 #[.val (.ref a), .val (.ref b)] [(.double cw1)]) _
    refine XS.aloadN X_9.here hx rfl (hb hby d_prog_8m2_50) rfl rfl ?_
    show oS pP eE below T_9 (mkF mM 51 #[.val (.ref a), .val (.ref b)] [(.ref b), (.double cw1)]) _
    refine st_10 _ ?_
    show oS pP eE below T_10 (mkF mM 54 #[.val (.ref a), .val (.ref b)] [(.double cw2), (.double cw1)]) _
    refine XS.dcmpS X_10.here hx rfl (hb hby d_prog_8m2_54) rfl rfl ?_
    refine XS.ifYes X_10.here hx rfl (pc0 := 55) (pc' := 74) rfl (hb hby d_prog_8m2_55) rfl (XT.i0_ne_t q4) (by decide) (by decide) ?_
    refine XS.iconst X_10.here hx rfl (hb hby d_prog_8m2_74) ?_
    show oS pP eE below T_10 (mkF mM 75 #[.val (.ref a), .val (.ref b)] [(.int (0 : Int32))]) _
    exact retN X_10 hx (t := .boolean) Bd.returns (by simp) (hb hby d_prog_8m2_75) hr
  · show Q_al Z a b w1 v1 ox1 oy1 cw1 ch1 w2 v2 ox2 oy2 cw2 ch2 h0 n0 _ T_10.heap _
    rw [e_10]
    exact ⟨(congrArg (fun z => some (Value.int z)) (own_al0 (Or.inr (Or.inr (Or.inr (Or.inr (Or.inl q4)))))).symm), N0, rfl⟩
theorem d_prog_8m2_58 : decode prog_8_method_2_code 58 = .ok (.aload_n 0, 1) := by decide +kernel
theorem d_prog_8m2_59 : decode prog_8_method_2_code 59 = .ok (.getfield 79, 3) := by decide +kernel
theorem d_prog_8m2_62 : decode prog_8_method_2_code 62 = .ok (.aload_n 1, 1) := by decide +kernel
theorem d_prog_8m2_63 : decode prog_8_method_2_code 63 = .ok (.getfield 79, 3) := by decide +kernel
theorem d_prog_8m2_66 : decode prog_8_method_2_code 66 = .ok (.dcmp .l, 1) := by decide +kernel
theorem d_prog_8m2_67 : decode prog_8_method_2_code 67 = .ok (.ifCond .ne 7, 3) := by decide +kernel
theorem ef_al_5 (mM : MethodId) (x0 : Addr) (x1 : Addr) : entryFrame mM #[(.ref x0), (.ref x1)] 2 = mkF mM 0 #[.val (.ref x0), .val (.ref x1)] [] := by first | (simp [entryFrame, mkF, argsToLocals, Value.category]; done) | rfl
set_option maxRecDepth 65536 in
set_option maxHeartbeats 40000000 in
theorem rm_al_5 (l : Launch) (Z : State) (a0 : Array Value) (hw : ∀ d ∈ tables_1, d.before a0 Z = true) (ws : List Jvm.Cond) (a : Addr) (b : Addr) (w1 : Int32) (v1 : Int32) (ox1 : UInt64) (oy1 : UInt64) (cw1 : UInt64) (ch1 : UInt64) (w2 : Int32) (v2 : Int32) (ox2 : UInt64) (oy2 : UInt64) (cw2 : UInt64) (ch2 : UInt64) (h0 : Heap) (n0 : Nat) (Z0 : n0 ≤ h0.size) (F_width_a : Fld Z h0 a "com/example/greenweft/greenweft/map/Grid" "width" "I" (.int w1)) (F_height_a : Fld Z h0 a "com/example/greenweft/greenweft/map/Grid" "height" "I" (.int v1)) (F_originX_a : Fld Z h0 a "com/example/greenweft/greenweft/map/Grid" "originX" "D" (.double ox1)) (F_originY_a : Fld Z h0 a "com/example/greenweft/greenweft/map/Grid" "originY" "D" (.double oy1)) (F_cellWidth_a : Fld Z h0 a "com/example/greenweft/greenweft/map/Grid" "cellWidth" "D" (.double cw1)) (F_cellHeight_a : Fld Z h0 a "com/example/greenweft/greenweft/map/Grid" "cellHeight" "D" (.double ch1)) (F_width_b : Fld Z h0 b "com/example/greenweft/greenweft/map/Grid" "width" "I" (.int w2)) (F_height_b : Fld Z h0 b "com/example/greenweft/greenweft/map/Grid" "height" "I" (.int v2)) (F_originX_b : Fld Z h0 b "com/example/greenweft/greenweft/map/Grid" "originX" "D" (.double ox2)) (F_originY_b : Fld Z h0 b "com/example/greenweft/greenweft/map/Grid" "originY" "D" (.double oy2)) (F_cellWidth_b : Fld Z h0 b "com/example/greenweft/greenweft/map/Grid" "cellWidth" "D" (.double cw2)) (F_cellHeight_b : Fld Z h0 b "com/example/greenweft/greenweft/map/Grid" "cellHeight" "D" (.double ch2)) (q0 : w1 = w2) (q1 : v1 = v2) (q2 : (cmpValue (FP.dcmp ox1 ox2) .l) = 0) (q3 : (cmpValue (FP.dcmp oy1 oy2) .l) = 0) (q4 : (cmpValue (FP.dcmp cw1 cw2) .l) = 0) (q5 : ¬ (cmpValue (FP.dcmp ch1 ch2) .l) = 0) :
    MetFree l (⟨"com/example/greenweft/greenweft/map/Grid", "alignsWith", "(Lcom/example/greenweft/greenweft/map/Grid;)Z"⟩ : MethodName) (head1 (Jvm.Cond.code (⟨"com/example/greenweft/greenweft/map/Grid", "alignsWith", "(Lcom/example/greenweft/greenweft/map/Grid;)Z"⟩ : MethodName) prog_8_method_2_code 2 (some .boolean) :: ws) oR2) (fun aa_ U_ => aa_ = #[(.ref a), (.ref b)] ∧ Z.Warmed39 U_.vm ∧ U_.heap = h0) (fun _ _ _ _ _ => True) (fun _ U_ o_ U'_ => ∃ v_ L_, o_ = .returned v_ ∧ Q_al Z a b w1 v1 ox1 oy1 cw1 ch1 w2 v2 ox2 oy2 cw2 ch2 h0 n0 v_ U'_.heap L_ ∧ FrameEnd U_ o_ U'_ L_ oR2.cells oR2.slots) := by
  refine MetFree.of_bodySF (plainFor_of_name pn_7) hisR ?_
  intro pP eE sS mM argsA below meth cC s₁ Bd hml0 hP hK
  obtain ⟨rfl, hZ, hh⟩ := hP
  have hx := Bd.exec
  have hby := Bd.bytes
  have hml : cC.maxLocals = 2 := hml0
  have hown : sS.vm.findClass "com/example/greenweft/greenweft/map/Grid" = some mM.cls := findClass_of_methodNamed Bd.named
  have hnm := (name_of_methodNamed Bd.named Bd.method).1
  have X0 : Stand pP l eE oR2 sS mM #[(.ref a), (.ref b)] below meth cC s₁ [] 0 0 := Stand.of_body Bd
  have e0 : s₁.heap = h0 := by rw [← hh, Bd.state]; rfl
  have N0 := Fr.nil n0
  have pre0 : ∀ t_, Steps pP.tables eE below (s₁.setTop (mkF mM 0 #[.val (.ref a), .val (.ref b)] [])) t_ → Steps pP.tables eE below (s₁.setTop (entryFrame mM #[(.ref a), (.ref b)] 2)) t_ := fun t_ k_ => castTop (ef_al_5 mM a b) k_
  obtain ⟨T_1, X_1, e_1, st_1⟩ := getF X0 hx hZ hown (host := "") (Or.inl (ow hw 192 rfl)) Via.refl e0 F_width_a (g := (mkF mM 1 #[.val (.ref a), .val (.ref b)] [(.ref a)])) rfl rfl (hb hby d_prog_8m2_1)
  obtain ⟨T_2, X_2, e_2, st_2⟩ := getF X_1 hx hZ hown (host := "") (Or.inl (ow hw 192 rfl)) Via.refl e_1 F_width_b (g := (mkF mM 5 #[.val (.ref a), .val (.ref b)] [(.ref b), (.int w1)])) rfl rfl (hb hby d_prog_8m2_5)
  obtain ⟨T_3, X_3, e_3, st_3⟩ := getF X_2 hx hZ hown (host := "") (Or.inl (ow hw 194 rfl)) Via.refl e_2 F_height_a (g := (mkF mM 12 #[.val (.ref a), .val (.ref b)] [(.ref a)])) rfl rfl (hb hby d_prog_8m2_12)
  obtain ⟨T_4, X_4, e_4, st_4⟩ := getF X_3 hx hZ hown (host := "") (Or.inl (ow hw 194 rfl)) Via.refl e_3 F_height_b (g := (mkF mM 16 #[.val (.ref a), .val (.ref b)] [(.ref b), (.int v1)])) rfl rfl (hb hby d_prog_8m2_16)
  obtain ⟨T_5, X_5, e_5, st_5⟩ := getF X_4 hx hZ hown (host := "") (Or.inl (ow hw 196 rfl)) Via.refl e_4 F_originX_a (g := (mkF mM 23 #[.val (.ref a), .val (.ref b)] [(.ref a)])) rfl rfl (hb hby d_prog_8m2_23)
  obtain ⟨T_6, X_6, e_6, st_6⟩ := getF X_5 hx hZ hown (host := "") (Or.inl (ow hw 196 rfl)) Via.refl e_5 F_originX_b (g := (mkF mM 27 #[.val (.ref a), .val (.ref b)] [(.ref b), (.double ox1)])) rfl rfl (hb hby d_prog_8m2_27)
  obtain ⟨T_7, X_7, e_7, st_7⟩ := getF X_6 hx hZ hown (host := "") (Or.inl (ow hw 198 rfl)) Via.refl e_6 F_originY_a (g := (mkF mM 35 #[.val (.ref a), .val (.ref b)] [(.ref a)])) rfl rfl (hb hby d_prog_8m2_35)
  obtain ⟨T_8, X_8, e_8, st_8⟩ := getF X_7 hx hZ hown (host := "") (Or.inl (ow hw 198 rfl)) Via.refl e_7 F_originY_b (g := (mkF mM 39 #[.val (.ref a), .val (.ref b)] [(.ref b), (.double oy1)])) rfl rfl (hb hby d_prog_8m2_39)
  obtain ⟨T_9, X_9, e_9, st_9⟩ := getF X_8 hx hZ hown (host := "") (Or.inl (ow hw 200 rfl)) Via.refl e_8 F_cellWidth_a (g := (mkF mM 47 #[.val (.ref a), .val (.ref b)] [(.ref a)])) rfl rfl (hb hby d_prog_8m2_47)
  obtain ⟨T_10, X_10, e_10, st_10⟩ := getF X_9 hx hZ hown (host := "") (Or.inl (ow hw 200 rfl)) Via.refl e_9 F_cellWidth_b (g := (mkF mM 51 #[.val (.ref a), .val (.ref b)] [(.ref b), (.double cw1)])) rfl rfl (hb hby d_prog_8m2_51)
  obtain ⟨T_11, X_11, e_11, st_11⟩ := getF X_10 hx hZ hown (host := "") (Or.inl (ow hw 202 rfl)) Via.refl e_10 F_cellHeight_a (g := (mkF mM 59 #[.val (.ref a), .val (.ref b)] [(.ref a)])) rfl rfl (hb hby d_prog_8m2_59)
  obtain ⟨T_12, X_12, e_12, st_12⟩ := getF X_11 hx hZ hown (host := "") (Or.inl (ow hw 202 rfl)) Via.refl e_11 F_cellHeight_b (g := (mkF mM 63 #[.val (.ref a), .val (.ref b)] [(.ref b), (.double ch1)])) rfl rfl (hb hby d_prog_8m2_63)
  obtain ⟨fs, hr, hrun, hended, hW, hsame⟩ := X_12.leave (v := some (.int (0 : Int32))) (fun h => by rw [Bd.returns] at h; cases h)
  refine ⟨_, _, pre0 _ ?_, hrun, hended, _, _, rfl, ?_, ⟨_, rfl⟩, hW, hsame.mono (by decide) (by decide)⟩
  · show oS pP eE below s₁ (mkF mM 0 #[.val (.ref a), .val (.ref b)] []) _
    refine XS.aloadN X0.here hx rfl (hb hby d_prog_8m2_0) rfl rfl ?_
    show oS pP eE below s₁ (mkF mM 1 #[.val (.ref a), .val (.ref b)] [(.ref a)]) _
    refine st_1 _ ?_
    show oS pP eE below T_1 (mkF mM 4 #[.val (.ref a), .val (.ref b)] [(.int w1)]) _
    refine XS.aloadN X_1.here hx rfl (hb hby d_prog_8m2_4) rfl rfl ?_
    show oS pP eE below T_1 (mkF mM 5 #[.val (.ref a), .val (.ref b)] [(.ref b), (.int w1)]) _
    refine st_2 _ ?_
    show oS pP eE below T_2 (mkF mM 8 #[.val (.ref a), .val (.ref b)] [(.int w2), (.int w1)]) _
    refine XS.icmpNo X_2.here hx rfl (hb hby d_prog_8m2_8) rfl (XT.ii_ne_f q0) ?_
    refine XS.aloadN X_2.here hx rfl (hb hby d_prog_8m2_11) rfl rfl ?_
    show oS pP eE below T_2 (mkF mM 12 #[.val (.ref a), .val (.ref b)] [(.ref a)]) _
    refine st_3 _ ?_
    show oS pP eE below T_3 (mkF mM 15 #[.val (.ref a), .val (.ref b)] [(.int v1)]) _
    refine XS.aloadN X_3.here hx rfl (hb hby d_prog_8m2_15) rfl rfl ?_
    show oS pP eE below T_3 (mkF mM 16 #[.val (.ref a), .val (.ref b)] [(.ref b), (.int v1)]) _
    refine st_4 _ ?_
    show oS pP eE below T_4 (mkF mM 19 #[.val (.ref a), .val (.ref b)] [(.int v2), (.int v1)]) _
    refine XS.icmpNo X_4.here hx rfl (hb hby d_prog_8m2_19) rfl (XT.ii_ne_f q1) ?_
    refine XS.aloadN X_4.here hx rfl (hb hby d_prog_8m2_22) rfl rfl ?_
    show oS pP eE below T_4 (mkF mM 23 #[.val (.ref a), .val (.ref b)] [(.ref a)]) _
    refine st_5 _ ?_
    show oS pP eE below T_5 (mkF mM 26 #[.val (.ref a), .val (.ref b)] [(.double ox1)]) _
    refine XS.aloadN X_5.here hx rfl (hb hby d_prog_8m2_26) rfl rfl ?_
    show oS pP eE below T_5 (mkF mM 27 #[.val (.ref a), .val (.ref b)] [(.ref b), (.double ox1)]) _
    refine st_6 _ ?_
    show oS pP eE below T_6 (mkF mM 30 #[.val (.ref a), .val (.ref b)] [(.double ox2), (.double ox1)]) _
    refine XS.dcmpS X_6.here hx rfl (hb hby d_prog_8m2_30) rfl rfl ?_
    refine XS.ifNo X_6.here hx rfl (hb hby d_prog_8m2_31) rfl (XT.i0_ne_f q2) ?_
    refine XS.aloadN X_6.here hx rfl (hb hby d_prog_8m2_34) rfl rfl ?_
    show oS pP eE below T_6 (mkF mM 35 #[.val (.ref a), .val (.ref b)] [(.ref a)]) _
    refine st_7 _ ?_
    show oS pP eE below T_7 (mkF mM 38 #[.val (.ref a), .val (.ref b)] [(.double oy1)]) _
    refine XS.aloadN X_7.here hx rfl (hb hby d_prog_8m2_38) rfl rfl ?_
    show oS pP eE below T_7 (mkF mM 39 #[.val (.ref a), .val (.ref b)] [(.ref b), (.double oy1)]) _
    refine st_8 _ ?_
    show oS pP eE below T_8 (mkF mM 42 #[.val (.ref a), .val (.ref b)] [(.double oy2), (.double oy1)]) _
    refine XS.dcmpS X_8.here hx rfl (hb hby d_prog_8m2_42) rfl rfl ?_
    refine XS.ifNo X_8.here hx rfl (hb hby d_prog_8m2_43) rfl (XT.i0_ne_f q3) ?_
    refine XS.aloadN X_8.here hx rfl (hb hby d_prog_8m2_46) rfl rfl ?_
    show oS pP eE below T_8 (mkF mM 47 #[.val (.ref a), .val (.ref b)] [(.ref a)]) _
    refine st_9 _ ?_
    show oS pP eE below T_9 (mkF mM 50 #[.val (.ref a), .val (.ref b)] [(.double cw1)]) _
    refine XS.aloadN X_9.here hx rfl (hb hby d_prog_8m2_50) rfl rfl ?_
    show oS pP eE below T_9 (mkF mM 51 #[.val (.ref a), .val (.ref b)] [(.ref b), (.double cw1)]) _
    refine st_10 _ ?_
    show oS pP eE below T_10 (mkF mM 54 #[.val (.ref a), .val (.ref b)] [(.double cw2), (.double cw1)]) _
    refine XS.dcmpS X_10.here hx rfl (hb hby d_prog_8m2_54) rfl rfl ?_
    refine XS.ifNo X_10.here hx rfl (hb hby d_prog_8m2_55) rfl (XT.i0_ne_f q4) ?_
    refine XS.aloadN X_10.here hx rfl (hb hby d_prog_8m2_58) rfl rfl ?_
    show oS pP eE below T_10 (mkF mM 59 #[.val (.ref a), .val (.ref b)] [(.ref a)]) _
    refine st_11 _ ?_
    show oS pP eE below T_11 (mkF mM 62 #[.val (.ref a), .val (.ref b)] [(.double ch1)]) _
    refine XS.aloadN X_11.here hx rfl (hb hby d_prog_8m2_62) rfl rfl ?_
    show oS pP eE below T_11 (mkF mM 63 #[.val (.ref a), .val (.ref b)] [(.ref b), (.double ch1)]) _
    refine st_12 _ ?_
    show oS pP eE below T_12 (mkF mM 66 #[.val (.ref a), .val (.ref b)] [(.double ch2), (.double ch1)]) _
    refine XS.dcmpS X_12.here hx rfl (hb hby d_prog_8m2_66) rfl rfl ?_
    refine XS.ifYes X_12.here hx rfl (pc0 := 67) (pc' := 74) rfl (hb hby d_prog_8m2_67) rfl (XT.i0_ne_t q5) (by decide) (by decide) ?_
    refine XS.iconst X_12.here hx rfl (hb hby d_prog_8m2_74) ?_
    show oS pP eE below T_12 (mkF mM 75 #[.val (.ref a), .val (.ref b)] [(.int (0 : Int32))]) _
    exact retN X_12 hx (t := .boolean) Bd.returns (by simp) (hb hby d_prog_8m2_75) hr
  · show Q_al Z a b w1 v1 ox1 oy1 cw1 ch1 w2 v2 ox2 oy2 cw2 ch2 h0 n0 _ T_12.heap _
    rw [e_12]
    exact ⟨(congrArg (fun z => some (Value.int z)) (own_al0 (Or.inr (Or.inr (Or.inr (Or.inr (Or.inr q5)))))).symm), N0, rfl⟩
theorem d_prog_8m2_70 : decode prog_8_method_2_code 70 = .ok (.iconst 1, 1) := by decide +kernel
theorem d_prog_8m2_71 : decode prog_8_method_2_code 71 = .ok (.goto 4, 3) := by decide +kernel
theorem ef_al_6 (mM : MethodId) (x0 : Addr) (x1 : Addr) : entryFrame mM #[(.ref x0), (.ref x1)] 2 = mkF mM 0 #[.val (.ref x0), .val (.ref x1)] [] := by first | (simp [entryFrame, mkF, argsToLocals, Value.category]; done) | rfl
set_option maxRecDepth 65536 in
set_option maxHeartbeats 40000000 in
theorem rm_al_6 (l : Launch) (Z : State) (a0 : Array Value) (hw : ∀ d ∈ tables_1, d.before a0 Z = true) (ws : List Jvm.Cond) (a : Addr) (b : Addr) (w1 : Int32) (v1 : Int32) (ox1 : UInt64) (oy1 : UInt64) (cw1 : UInt64) (ch1 : UInt64) (w2 : Int32) (v2 : Int32) (ox2 : UInt64) (oy2 : UInt64) (cw2 : UInt64) (ch2 : UInt64) (h0 : Heap) (n0 : Nat) (Z0 : n0 ≤ h0.size) (F_width_a : Fld Z h0 a "com/example/greenweft/greenweft/map/Grid" "width" "I" (.int w1)) (F_height_a : Fld Z h0 a "com/example/greenweft/greenweft/map/Grid" "height" "I" (.int v1)) (F_originX_a : Fld Z h0 a "com/example/greenweft/greenweft/map/Grid" "originX" "D" (.double ox1)) (F_originY_a : Fld Z h0 a "com/example/greenweft/greenweft/map/Grid" "originY" "D" (.double oy1)) (F_cellWidth_a : Fld Z h0 a "com/example/greenweft/greenweft/map/Grid" "cellWidth" "D" (.double cw1)) (F_cellHeight_a : Fld Z h0 a "com/example/greenweft/greenweft/map/Grid" "cellHeight" "D" (.double ch1)) (F_width_b : Fld Z h0 b "com/example/greenweft/greenweft/map/Grid" "width" "I" (.int w2)) (F_height_b : Fld Z h0 b "com/example/greenweft/greenweft/map/Grid" "height" "I" (.int v2)) (F_originX_b : Fld Z h0 b "com/example/greenweft/greenweft/map/Grid" "originX" "D" (.double ox2)) (F_originY_b : Fld Z h0 b "com/example/greenweft/greenweft/map/Grid" "originY" "D" (.double oy2)) (F_cellWidth_b : Fld Z h0 b "com/example/greenweft/greenweft/map/Grid" "cellWidth" "D" (.double cw2)) (F_cellHeight_b : Fld Z h0 b "com/example/greenweft/greenweft/map/Grid" "cellHeight" "D" (.double ch2)) (q0 : w1 = w2) (q1 : v1 = v2) (q2 : (cmpValue (FP.dcmp ox1 ox2) .l) = 0) (q3 : (cmpValue (FP.dcmp oy1 oy2) .l) = 0) (q4 : (cmpValue (FP.dcmp cw1 cw2) .l) = 0) (q5 : (cmpValue (FP.dcmp ch1 ch2) .l) = 0) :
    MetFree l (⟨"com/example/greenweft/greenweft/map/Grid", "alignsWith", "(Lcom/example/greenweft/greenweft/map/Grid;)Z"⟩ : MethodName) (head1 (Jvm.Cond.code (⟨"com/example/greenweft/greenweft/map/Grid", "alignsWith", "(Lcom/example/greenweft/greenweft/map/Grid;)Z"⟩ : MethodName) prog_8_method_2_code 2 (some .boolean) :: ws) oR2) (fun aa_ U_ => aa_ = #[(.ref a), (.ref b)] ∧ Z.Warmed39 U_.vm ∧ U_.heap = h0) (fun _ _ _ _ _ => True) (fun _ U_ o_ U'_ => ∃ v_ L_, o_ = .returned v_ ∧ Q_al Z a b w1 v1 ox1 oy1 cw1 ch1 w2 v2 ox2 oy2 cw2 ch2 h0 n0 v_ U'_.heap L_ ∧ FrameEnd U_ o_ U'_ L_ oR2.cells oR2.slots) := by
  refine MetFree.of_bodySF (plainFor_of_name pn_7) hisR ?_
  intro pP eE sS mM argsA below meth cC s₁ Bd hml0 hP hK
  obtain ⟨rfl, hZ, hh⟩ := hP
  have hx := Bd.exec
  have hby := Bd.bytes
  have hml : cC.maxLocals = 2 := hml0
  have hown : sS.vm.findClass "com/example/greenweft/greenweft/map/Grid" = some mM.cls := findClass_of_methodNamed Bd.named
  have hnm := (name_of_methodNamed Bd.named Bd.method).1
  have X0 : Stand pP l eE oR2 sS mM #[(.ref a), (.ref b)] below meth cC s₁ [] 0 0 := Stand.of_body Bd
  have e0 : s₁.heap = h0 := by rw [← hh, Bd.state]; rfl
  have N0 := Fr.nil n0
  have pre0 : ∀ t_, Steps pP.tables eE below (s₁.setTop (mkF mM 0 #[.val (.ref a), .val (.ref b)] [])) t_ → Steps pP.tables eE below (s₁.setTop (entryFrame mM #[(.ref a), (.ref b)] 2)) t_ := fun t_ k_ => castTop (ef_al_6 mM a b) k_
  obtain ⟨T_1, X_1, e_1, st_1⟩ := getF X0 hx hZ hown (host := "") (Or.inl (ow hw 192 rfl)) Via.refl e0 F_width_a (g := (mkF mM 1 #[.val (.ref a), .val (.ref b)] [(.ref a)])) rfl rfl (hb hby d_prog_8m2_1)
  obtain ⟨T_2, X_2, e_2, st_2⟩ := getF X_1 hx hZ hown (host := "") (Or.inl (ow hw 192 rfl)) Via.refl e_1 F_width_b (g := (mkF mM 5 #[.val (.ref a), .val (.ref b)] [(.ref b), (.int w1)])) rfl rfl (hb hby d_prog_8m2_5)
  obtain ⟨T_3, X_3, e_3, st_3⟩ := getF X_2 hx hZ hown (host := "") (Or.inl (ow hw 194 rfl)) Via.refl e_2 F_height_a (g := (mkF mM 12 #[.val (.ref a), .val (.ref b)] [(.ref a)])) rfl rfl (hb hby d_prog_8m2_12)
  obtain ⟨T_4, X_4, e_4, st_4⟩ := getF X_3 hx hZ hown (host := "") (Or.inl (ow hw 194 rfl)) Via.refl e_3 F_height_b (g := (mkF mM 16 #[.val (.ref a), .val (.ref b)] [(.ref b), (.int v1)])) rfl rfl (hb hby d_prog_8m2_16)
  obtain ⟨T_5, X_5, e_5, st_5⟩ := getF X_4 hx hZ hown (host := "") (Or.inl (ow hw 196 rfl)) Via.refl e_4 F_originX_a (g := (mkF mM 23 #[.val (.ref a), .val (.ref b)] [(.ref a)])) rfl rfl (hb hby d_prog_8m2_23)
  obtain ⟨T_6, X_6, e_6, st_6⟩ := getF X_5 hx hZ hown (host := "") (Or.inl (ow hw 196 rfl)) Via.refl e_5 F_originX_b (g := (mkF mM 27 #[.val (.ref a), .val (.ref b)] [(.ref b), (.double ox1)])) rfl rfl (hb hby d_prog_8m2_27)
  obtain ⟨T_7, X_7, e_7, st_7⟩ := getF X_6 hx hZ hown (host := "") (Or.inl (ow hw 198 rfl)) Via.refl e_6 F_originY_a (g := (mkF mM 35 #[.val (.ref a), .val (.ref b)] [(.ref a)])) rfl rfl (hb hby d_prog_8m2_35)
  obtain ⟨T_8, X_8, e_8, st_8⟩ := getF X_7 hx hZ hown (host := "") (Or.inl (ow hw 198 rfl)) Via.refl e_7 F_originY_b (g := (mkF mM 39 #[.val (.ref a), .val (.ref b)] [(.ref b), (.double oy1)])) rfl rfl (hb hby d_prog_8m2_39)
  obtain ⟨T_9, X_9, e_9, st_9⟩ := getF X_8 hx hZ hown (host := "") (Or.inl (ow hw 200 rfl)) Via.refl e_8 F_cellWidth_a (g := (mkF mM 47 #[.val (.ref a), .val (.ref b)] [(.ref a)])) rfl rfl (hb hby d_prog_8m2_47)
  obtain ⟨T_10, X_10, e_10, st_10⟩ := getF X_9 hx hZ hown (host := "") (Or.inl (ow hw 200 rfl)) Via.refl e_9 F_cellWidth_b (g := (mkF mM 51 #[.val (.ref a), .val (.ref b)] [(.ref b), (.double cw1)])) rfl rfl (hb hby d_prog_8m2_51)
  obtain ⟨T_11, X_11, e_11, st_11⟩ := getF X_10 hx hZ hown (host := "") (Or.inl (ow hw 202 rfl)) Via.refl e_10 F_cellHeight_a (g := (mkF mM 59 #[.val (.ref a), .val (.ref b)] [(.ref a)])) rfl rfl (hb hby d_prog_8m2_59)
  obtain ⟨T_12, X_12, e_12, st_12⟩ := getF X_11 hx hZ hown (host := "") (Or.inl (ow hw 202 rfl)) Via.refl e_11 F_cellHeight_b (g := (mkF mM 63 #[.val (.ref a), .val (.ref b)] [(.ref b), (.double ch1)])) rfl rfl (hb hby d_prog_8m2_63)
  obtain ⟨fs, hr, hrun, hended, hW, hsame⟩ := X_12.leave (v := some (.int (1 : Int32))) (fun h => by rw [Bd.returns] at h; cases h)
  refine ⟨_, _, pre0 _ ?_, hrun, hended, _, _, rfl, ?_, ⟨_, rfl⟩, hW, hsame.mono (by decide) (by decide)⟩
  · show oS pP eE below s₁ (mkF mM 0 #[.val (.ref a), .val (.ref b)] []) _
    refine XS.aloadN X0.here hx rfl (hb hby d_prog_8m2_0) rfl rfl ?_
    show oS pP eE below s₁ (mkF mM 1 #[.val (.ref a), .val (.ref b)] [(.ref a)]) _
    refine st_1 _ ?_
    show oS pP eE below T_1 (mkF mM 4 #[.val (.ref a), .val (.ref b)] [(.int w1)]) _
    refine XS.aloadN X_1.here hx rfl (hb hby d_prog_8m2_4) rfl rfl ?_
    show oS pP eE below T_1 (mkF mM 5 #[.val (.ref a), .val (.ref b)] [(.ref b), (.int w1)]) _
    refine st_2 _ ?_
    show oS pP eE below T_2 (mkF mM 8 #[.val (.ref a), .val (.ref b)] [(.int w2), (.int w1)]) _
    refine XS.icmpNo X_2.here hx rfl (hb hby d_prog_8m2_8) rfl (XT.ii_ne_f q0) ?_
    refine XS.aloadN X_2.here hx rfl (hb hby d_prog_8m2_11) rfl rfl ?_
    show oS pP eE below T_2 (mkF mM 12 #[.val (.ref a), .val (.ref b)] [(.ref a)]) _
    refine st_3 _ ?_
    show oS pP eE below T_3 (mkF mM 15 #[.val (.ref a), .val (.ref b)] [(.int v1)]) _
    refine XS.aloadN X_3.here hx rfl (hb hby d_prog_8m2_15) rfl rfl ?_
    show oS pP eE below T_3 (mkF mM 16 #[.val (.ref a), .val (.ref b)] [(.ref b), (.int v1)]) _
    refine st_4 _ ?_
    show oS pP eE below T_4 (mkF mM 19 #[.val (.ref a), .val (.ref b)] [(.int v2), (.int v1)]) _
    refine XS.icmpNo X_4.here hx rfl (hb hby d_prog_8m2_19) rfl (XT.ii_ne_f q1) ?_
    refine XS.aloadN X_4.here hx rfl (hb hby d_prog_8m2_22) rfl rfl ?_
    show oS pP eE below T_4 (mkF mM 23 #[.val (.ref a), .val (.ref b)] [(.ref a)]) _
    refine st_5 _ ?_
    show oS pP eE below T_5 (mkF mM 26 #[.val (.ref a), .val (.ref b)] [(.double ox1)]) _
    refine XS.aloadN X_5.here hx rfl (hb hby d_prog_8m2_26) rfl rfl ?_
    show oS pP eE below T_5 (mkF mM 27 #[.val (.ref a), .val (.ref b)] [(.ref b), (.double ox1)]) _
    refine st_6 _ ?_
    show oS pP eE below T_6 (mkF mM 30 #[.val (.ref a), .val (.ref b)] [(.double ox2), (.double ox1)]) _
    refine XS.dcmpS X_6.here hx rfl (hb hby d_prog_8m2_30) rfl rfl ?_
    refine XS.ifNo X_6.here hx rfl (hb hby d_prog_8m2_31) rfl (XT.i0_ne_f q2) ?_
    refine XS.aloadN X_6.here hx rfl (hb hby d_prog_8m2_34) rfl rfl ?_
    show oS pP eE below T_6 (mkF mM 35 #[.val (.ref a), .val (.ref b)] [(.ref a)]) _
    refine st_7 _ ?_
    show oS pP eE below T_7 (mkF mM 38 #[.val (.ref a), .val (.ref b)] [(.double oy1)]) _
    refine XS.aloadN X_7.here hx rfl (hb hby d_prog_8m2_38) rfl rfl ?_
    show oS pP eE below T_7 (mkF mM 39 #[.val (.ref a), .val (.ref b)] [(.ref b), (.double oy1)]) _
    refine st_8 _ ?_
    show oS pP eE below T_8 (mkF mM 42 #[.val (.ref a), .val (.ref b)] [(.double oy2), (.double oy1)]) _
    refine XS.dcmpS X_8.here hx rfl (hb hby d_prog_8m2_42) rfl rfl ?_
    refine XS.ifNo X_8.here hx rfl (hb hby d_prog_8m2_43) rfl (XT.i0_ne_f q3) ?_
    refine XS.aloadN X_8.here hx rfl (hb hby d_prog_8m2_46) rfl rfl ?_
    show oS pP eE below T_8 (mkF mM 47 #[.val (.ref a), .val (.ref b)] [(.ref a)]) _
    refine st_9 _ ?_
    show oS pP eE below T_9 (mkF mM 50 #[.val (.ref a), .val (.ref b)] [(.double cw1)]) _
    refine XS.aloadN X_9.here hx rfl (hb hby d_prog_8m2_50) rfl rfl ?_
    show oS pP eE below T_9 (mkF mM 51 #[.val (.ref a), .val (.ref b)] [(.ref b), (.double cw1)]) _
    refine st_10 _ ?_
    show oS pP eE below T_10 (mkF mM 54 #[.val (.ref a), .val (.ref b)] [(.double cw2), (.double cw1)]) _
    refine XS.dcmpS X_10.here hx rfl (hb hby d_prog_8m2_54) rfl rfl ?_
    refine XS.ifNo X_10.here hx rfl (hb hby d_prog_8m2_55) rfl (XT.i0_ne_f q4) ?_
    refine XS.aloadN X_10.here hx rfl (hb hby d_prog_8m2_58) rfl rfl ?_
    show oS pP eE below T_10 (mkF mM 59 #[.val (.ref a), .val (.ref b)] [(.ref a)]) _
    refine st_11 _ ?_
    show oS pP eE below T_11 (mkF mM 62 #[.val (.ref a), .val (.ref b)] [(.double ch1)]) _
    refine XS.aloadN X_11.here hx rfl (hb hby d_prog_8m2_62) rfl rfl ?_
    show oS pP eE below T_11 (mkF mM 63 #[.val (.ref a), .val (.ref b)] [(.ref b), (.double ch1)]) _
    refine st_12 _ ?_
    show oS pP eE below T_12 (mkF mM 66 #[.val (.ref a), .val (.ref b)] [(.double ch2), (.double ch1)]) _
    refine XS.dcmpS X_12.here hx rfl (hb hby d_prog_8m2_66) rfl rfl ?_
    refine XS.ifNo X_12.here hx rfl (hb hby d_prog_8m2_67) rfl (XT.i0_ne_f q5) ?_
    refine XS.iconst X_12.here hx rfl (hb hby d_prog_8m2_70) ?_
    refine XS.goto X_12.here hx rfl (pc0 := 71) (pc' := 75) rfl (hb hby d_prog_8m2_71) (by decide) (by decide) ?_
    show oS pP eE below T_12 (mkF mM 75 #[.val (.ref a), .val (.ref b)] [(.int (1 : Int32))]) _
    exact retN X_12 hx (t := .boolean) Bd.returns (by simp) (hb hby d_prog_8m2_75) hr
  · show Q_al Z a b w1 v1 ox1 oy1 cw1 ch1 w2 v2 ox2 oy2 cw2 ch2 h0 n0 _ T_12.heap _
    rw [e_12]
    exact ⟨(congrArg (fun z => some (Value.int z)) (own_al1 q0 q1 q2 q3 q4 q5).symm), N0, rfl⟩
set_option maxRecDepth 65536 in
set_option maxHeartbeats 40000000 in
theorem rm_al (l : Launch) (Z : State) (a0 : Array Value) (hw : ∀ d ∈ tables_1, d.before a0 Z = true) (ws : List Jvm.Cond) (a : Addr) (b : Addr) (w1 : Int32) (v1 : Int32) (ox1 : UInt64) (oy1 : UInt64) (cw1 : UInt64) (ch1 : UInt64) (w2 : Int32) (v2 : Int32) (ox2 : UInt64) (oy2 : UInt64) (cw2 : UInt64) (ch2 : UInt64) (h0 : Heap) (n0 : Nat) (Z0 : n0 ≤ h0.size) (F_width_a : Fld Z h0 a "com/example/greenweft/greenweft/map/Grid" "width" "I" (.int w1)) (F_height_a : Fld Z h0 a "com/example/greenweft/greenweft/map/Grid" "height" "I" (.int v1)) (F_originX_a : Fld Z h0 a "com/example/greenweft/greenweft/map/Grid" "originX" "D" (.double ox1)) (F_originY_a : Fld Z h0 a "com/example/greenweft/greenweft/map/Grid" "originY" "D" (.double oy1)) (F_cellWidth_a : Fld Z h0 a "com/example/greenweft/greenweft/map/Grid" "cellWidth" "D" (.double cw1)) (F_cellHeight_a : Fld Z h0 a "com/example/greenweft/greenweft/map/Grid" "cellHeight" "D" (.double ch1)) (F_width_b : Fld Z h0 b "com/example/greenweft/greenweft/map/Grid" "width" "I" (.int w2)) (F_height_b : Fld Z h0 b "com/example/greenweft/greenweft/map/Grid" "height" "I" (.int v2)) (F_originX_b : Fld Z h0 b "com/example/greenweft/greenweft/map/Grid" "originX" "D" (.double ox2)) (F_originY_b : Fld Z h0 b "com/example/greenweft/greenweft/map/Grid" "originY" "D" (.double oy2)) (F_cellWidth_b : Fld Z h0 b "com/example/greenweft/greenweft/map/Grid" "cellWidth" "D" (.double cw2)) (F_cellHeight_b : Fld Z h0 b "com/example/greenweft/greenweft/map/Grid" "cellHeight" "D" (.double ch2)) :
    MetFree l (⟨"com/example/greenweft/greenweft/map/Grid", "alignsWith", "(Lcom/example/greenweft/greenweft/map/Grid;)Z"⟩ : MethodName) (head1 (Jvm.Cond.code (⟨"com/example/greenweft/greenweft/map/Grid", "alignsWith", "(Lcom/example/greenweft/greenweft/map/Grid;)Z"⟩ : MethodName) prog_8_method_2_code 2 (some .boolean) :: ws) oR2) (fun aa_ U_ => aa_ = #[(.ref a), (.ref b)] ∧ Z.Warmed39 U_.vm ∧ U_.heap = h0) (fun _ _ _ _ _ => True) (fun _ U_ o_ U'_ => ∃ v_ L_, o_ = .returned v_ ∧ Q_al Z a b w1 v1 ox1 oy1 cw1 ch1 w2 v2 ox2 oy2 cw2 ch2 h0 n0 v_ U'_.heap L_ ∧ FrameEnd U_ o_ U'_ L_ oR2.cells oR2.slots) := by
  by_cases q0 : w1 = w2
  · by_cases q1 : v1 = v2
    · by_cases q2 : (cmpValue (FP.dcmp ox1 ox2) .l) = 0
      · by_cases q3 : (cmpValue (FP.dcmp oy1 oy2) .l) = 0
        · by_cases q4 : (cmpValue (FP.dcmp cw1 cw2) .l) = 0
          · by_cases q5 : (cmpValue (FP.dcmp ch1 ch2) .l) = 0
            · exact rm_al_6 l Z a0 hw ws a b w1 v1 ox1 oy1 cw1 ch1 w2 v2 ox2 oy2 cw2 ch2 h0 n0 Z0 F_width_a F_height_a F_originX_a F_originY_a F_cellWidth_a F_cellHeight_a F_width_b F_height_b F_originX_b F_originY_b F_cellWidth_b F_cellHeight_b q0 q1 q2 q3 q4 q5
            · exact rm_al_5 l Z a0 hw ws a b w1 v1 ox1 oy1 cw1 ch1 w2 v2 ox2 oy2 cw2 ch2 h0 n0 Z0 F_width_a F_height_a F_originX_a F_originY_a F_cellWidth_a F_cellHeight_a F_width_b F_height_b F_originX_b F_originY_b F_cellWidth_b F_cellHeight_b q0 q1 q2 q3 q4 q5
          · exact rm_al_4 l Z a0 hw ws a b w1 v1 ox1 oy1 cw1 ch1 w2 v2 ox2 oy2 cw2 ch2 h0 n0 Z0 F_width_a F_height_a F_originX_a F_originY_a F_cellWidth_a F_cellHeight_a F_width_b F_height_b F_originX_b F_originY_b F_cellWidth_b F_cellHeight_b q0 q1 q2 q3 q4
        · exact rm_al_3 l Z a0 hw ws a b w1 v1 ox1 oy1 cw1 ch1 w2 v2 ox2 oy2 cw2 ch2 h0 n0 Z0 F_width_a F_height_a F_originX_a F_originY_a F_cellWidth_a F_cellHeight_a F_width_b F_height_b F_originX_b F_originY_b F_cellWidth_b F_cellHeight_b q0 q1 q2 q3
      · exact rm_al_2 l Z a0 hw ws a b w1 v1 ox1 oy1 cw1 ch1 w2 v2 ox2 oy2 cw2 ch2 h0 n0 Z0 F_width_a F_height_a F_originX_a F_originY_a F_cellWidth_a F_cellHeight_a F_width_b F_height_b F_originX_b F_originY_b F_cellWidth_b F_cellHeight_b q0 q1 q2
    · exact rm_al_1 l Z a0 hw ws a b w1 v1 ox1 oy1 cw1 ch1 w2 v2 ox2 oy2 cw2 ch2 h0 n0 Z0 F_width_a F_height_a F_originX_a F_originY_a F_cellWidth_a F_cellHeight_a F_width_b F_height_b F_originX_b F_originY_b F_cellWidth_b F_cellHeight_b q0 q1
  · exact rm_al_0 l Z a0 hw ws a b w1 v1 ox1 oy1 cw1 ch1 w2 v2 ox2 oy2 cw2 ch2 h0 n0 Z0 F_width_a F_height_a F_originX_a F_originY_a F_cellWidth_a F_cellHeight_a F_width_b F_height_b F_originX_b F_originY_b F_cellWidth_b F_cellHeight_b q0
def own_EL : List (String × Nat) := [("com/example/greenweft/greenweft/map/Grid", 10), ("com/example/greenweft/greenweft/map/Grid", 19), ("com/example/greenweft/greenweft/map/Grid", 21)]
theorem own_EW {a0 : Array Value} {Z : State} (hw : ∀ d ∈ tables_1, d.before a0 Z = true) : EW Z a0 own_EL := EW.cons (ow hw 43 rfl) (by decide) (EW.cons (ow hw 121 rfl) (by decide) (EW.cons (ow hw 122 rfl) (by decide) EW.nil))
theorem d_jdk_30m1_0 : decode jdk_30_method_1_code 0 = .ok (.aload_n 0, 1) := by decide +kernel
theorem d_jdk_30m1_1 : decode jdk_30_method_1_code 1 = .ok (.invokespecial 1, 3) := by decide +kernel
theorem d_jdk_30m1_4 : decode jdk_30_method_1_code 4 = .ok (.return_, 1) := by decide +kernel
theorem pn_8 : plainName "java/lang/Record" = true := by first | (simp [plainName, overriddenIn]; done) | decide +kernel
theorem ef_rec (mM : MethodId) (x0 : Addr) : entryFrame mM #[(.ref x0)] 1 = mkF mM 0 #[.val (.ref x0)] [] := by first | (simp [entryFrame, mkF, argsToLocals, Value.category]; done) | rfl
def Q_rec (Z : State) (a : Addr) (h0 : Heap) (n0 : Nat) (v_ : Option Value) (h_ : Heap) (L_ : List Loc) : Prop := v_ = none ∧ Fr n0 L_ ∧ h_ = h0
set_option maxRecDepth 65536 in
set_option maxHeartbeats 40000000 in
theorem rm_rec (l : Launch) (Z : State) (a0 : Array Value) (hw : ∀ d ∈ tables_1, d.before a0 Z = true) (ws : List Jvm.Cond) (a : Addr) (h0 : Heap) (n0 : Nat) (Z0 : n0 ≤ h0.size) :
    MetFree l (⟨"java/lang/Record", "<init>", "()V"⟩ : MethodName) (head1 (Jvm.Cond.code (⟨"java/lang/Record", "<init>", "()V"⟩ : MethodName) jdk_30_method_1_code 1 none :: ws) oR16) (fun aa_ U_ => aa_ = #[(.ref a)] ∧ Z.Warmed39 U_.vm ∧ U_.heap = h0) (fun _ _ _ _ _ => True) (fun _ U_ o_ U'_ => ∃ v_ L_, o_ = .returned v_ ∧ Q_rec Z a h0 n0 v_ U'_.heap L_ ∧ FrameEnd U_ o_ U'_ L_ oR16.cells oR16.slots) := by
  refine MetFree.of_bodySF (plainFor_of_name pn_8) hisR ?_
  intro pP eE sS mM argsA below meth cC s₁ Bd hml0 hP hK
  obtain ⟨rfl, hZ, hh⟩ := hP
  have hx := Bd.exec
  have hby := Bd.bytes
  have hml : cC.maxLocals = 1 := hml0
  have hown : sS.vm.findClass "java/lang/Record" = some mM.cls := findClass_of_methodNamed Bd.named
  have hnm := (name_of_methodNamed Bd.named Bd.method).1
  have X0 : Stand pP l eE oR16 sS mM #[(.ref a)] below meth cC s₁ [] 0 0 := Stand.of_body Bd
  have e0 : s₁.heap = h0 := by rw [← hh, Bd.state]; rfl
  have N0 := Fr.nil n0
  have pre0 : ∀ t_, Steps pP.tables eE below (s₁.setTop (mkF mM 0 #[.val (.ref a)] [])) t_ → Steps pP.tables eE below (s₁.setTop (entryFrame mM #[(.ref a)] 1)) t_ := fun t_ k_ => castTop (ef_rec mM a) k_
  obtain ⟨T_1, X_1, e_1, st_1⟩ := initO X0 hx hZ hown (ow hw 20 rfl) (ow hw 21 rfl) (ow hw 22 rfl) e0 (g := (mkF mM 1 #[.val (.ref a)] [(.ref a)])) rfl (by rw [hml]; rfl) rfl (hb hby d_jdk_30m1_1) (by decide) (W := 0) (by show 2 * 0 + _ ≤ _; exact Nat.le_of_eq rfl) (by decide)
  obtain ⟨fs, hr, hrun, hended, hW, hsame⟩ := X_1.leave (v := none) (fun _ => rfl)
  refine ⟨_, _, pre0 _ ?_, hrun, hended, _, _, rfl, ?_, ⟨_, rfl⟩, hW, hsame.mono (by decide) (by decide)⟩
  · show oS pP eE below s₁ (mkF mM 0 #[.val (.ref a)] []) _
    refine XS.aloadN X0.here hx rfl (hb hby d_jdk_30m1_0) rfl rfl ?_
    show oS pP eE below s₁ (mkF mM 1 #[.val (.ref a)] [(.ref a)]) _
    refine st_1 _ ?_
    show oS pP eE below T_1 (mkF mM 4 #[.val (.ref a)] []) _
    exact X_1.returnOut hx Bd.returns (hb hby d_jdk_30m1_4) hr
  · show Q_rec Z a h0 n0 _ T_1.heap _
    rw [e_1]
    exact ⟨rfl, N0, rfl⟩
def Q_gi (Z : State) (a : Addr) (wd : Int32) (hg : Int32) (ox : UInt64) (oy : UInt64) (cw : UInt64) (ch : UInt64) (co : Addr) (o1 : Addr) (o2 : Addr) (k2 : Int32) (k3 : Int32) (k4 : Int32) (k5 : Int32) (cs : Int32) (h0 : Heap) (n0 : Nat) (v_ : Option Value) (h_ : Heap) (L_ : List Loc) : Prop := v_ = none ∧ Fr n0 L_ ∧ Keep h0 h_ [a] ∧ Fld Z h_ a "com/example/greenweft/greenweft/map/Grid" "width" "I" (.int wd) ∧ Fld Z h_ a "com/example/greenweft/greenweft/map/Grid" "height" "I" (.int hg) ∧ Fld Z h_ a "com/example/greenweft/greenweft/map/Grid" "originX" "D" (.double ox) ∧ Fld Z h_ a "com/example/greenweft/greenweft/map/Grid" "originY" "D" (.double oy) ∧ Fld Z h_ a "com/example/greenweft/greenweft/map/Grid" "cellWidth" "D" (.double cw) ∧ Fld Z h_ a "com/example/greenweft/greenweft/map/Grid" "cellHeight" "D" (.double ch) ∧ Fld Z h_ a "com/example/greenweft/greenweft/map/Grid" "coordinates" "Lcom/example/greenweft/greenweft/map/Coordinates;" (.ref co) ∧ Exa Z h_ a "com/example/greenweft/greenweft/map/Grid"
abbrev lc24 (a : Addr) (wd : Int32) (hg : Int32) (ox : UInt64) (oy : UInt64) (cw : UInt64) (ch : UInt64) (co : Addr) : Array Slot := #[.val (.ref a), .val (.int wd), .val (.int hg), .val (.double ox), .second, .val (.double oy), .second, .val (.double cw), .second, .val (.double ch), .second, .val (.ref co), .unset]
theorem d_prog_8m1_0 : decode prog_8_method_1_code 0 = .ok (.aload_n 0, 1) := by decide +kernel
theorem d_prog_8m1_1 : decode prog_8_method_1_code 1 = .ok (.invokespecial 1, 3) := by decide +kernel
theorem pd_20 : parseMethodDescriptor "()V" = some ⟨[], none⟩ := by decide +kernel
abbrev MN26 : MethodName := ⟨"java/lang/Record", "<init>", "()V"⟩
theorem d_prog_8m1_4 : decode prog_8_method_1_code 4 = .ok (.new 7, 3) := by decide +kernel
theorem d_prog_8m1_7 : decode prog_8_method_1_code 7 = .ok (.dup, 1) := by decide +kernel
theorem d_prog_8m1_8 : decode prog_8_method_1_code 8 = .ok (.invokespecial 9, 3) := by decide +kernel
abbrev MN27 : MethodName := ⟨"java/lang/StringBuilder", "<init>", "()V"⟩
theorem d_prog_8m1_11 : decode prog_8_method_1_code 11 = .ok (.ldc 10, 2) := by decide +kernel
theorem d_prog_8m1_13 : decode prog_8_method_1_code 13 = .ok (.invokevirtual 12, 3) := by decide +kernel
theorem pd_21 : parseMethodDescriptor "(Ljava/lang/String;)Ljava/lang/StringBuilder;" = some ⟨[(.object "java/lang/String")], some (.object "java/lang/StringBuilder")⟩ := by decide +kernel
abbrev MN28 : MethodName := ⟨"java/lang/StringBuilder", "append", "(Ljava/lang/String;)Ljava/lang/StringBuilder;"⟩
theorem d_prog_8m1_16 : decode prog_8_method_1_code 16 = .ok (.iload_n 1, 1) := by decide +kernel
theorem d_prog_8m1_17 : decode prog_8_method_1_code 17 = .ok (.invokevirtual 16, 3) := by decide +kernel
theorem pd_22 : parseMethodDescriptor "(I)Ljava/lang/StringBuilder;" = some ⟨[.int], some (.object "java/lang/StringBuilder")⟩ := by decide +kernel
abbrev MN29 : MethodName := ⟨"java/lang/StringBuilder", "append", "(I)Ljava/lang/StringBuilder;"⟩
theorem d_prog_8m1_20 : decode prog_8_method_1_code 20 = .ok (.ldc 19, 2) := by decide +kernel
theorem d_prog_8m1_22 : decode prog_8_method_1_code 22 = .ok (.invokevirtual 12, 3) := by decide +kernel
theorem d_prog_8m1_25 : decode prog_8_method_1_code 25 = .ok (.iload_n 2, 1) := by decide +kernel
theorem d_prog_8m1_26 : decode prog_8_method_1_code 26 = .ok (.invokevirtual 16, 3) := by decide +kernel
theorem d_prog_8m1_29 : decode prog_8_method_1_code 29 = .ok (.ldc 21, 2) := by decide +kernel
theorem d_prog_8m1_31 : decode prog_8_method_1_code 31 = .ok (.invokevirtual 12, 3) := by decide +kernel
theorem d_prog_8m1_34 : decode prog_8_method_1_code 34 = .ok (.invokevirtual 23, 3) := by decide +kernel
theorem pd_23 : parseMethodDescriptor "()Ljava/lang/String;" = some ⟨[], some (.object "java/lang/String")⟩ := by decide +kernel
abbrev MN30 : MethodName := ⟨"java/lang/StringBuilder", "toString", "()Ljava/lang/String;"⟩
theorem d_prog_8m1_37 : decode prog_8_method_1_code 37 = .ok (.astore 12, 2) := by decide +kernel
abbrev lc25 (a : Addr) (wd : Int32) (hg : Int32) (ox : UInt64) (oy : UInt64) (cw : UInt64) (ch : UInt64) (co : Addr) (g__12 : Addr) : Array Slot := #[.val (.ref a), .val (.int wd), .val (.int hg), .val (.double ox), .second, .val (.double oy), .second, .val (.double cw), .second, .val (.double ch), .second, .val (.ref co), .val (.ref g__12)]
theorem d_prog_8m1_39 : decode prog_8_method_1_code 39 = .ok (.iload_n 1, 1) := by decide +kernel
theorem d_prog_8m1_40 : decode prog_8_method_1_code 40 = .ok (.iconst 1, 1) := by decide +kernel
theorem d_prog_8m1_41 : decode prog_8_method_1_code 41 = .ok (.if_icmp .lt 8, 3) := by decide +kernel
theorem d_prog_8m1_44 : decode prog_8_method_1_code 44 = .ok (.iload_n 2, 1) := by decide +kernel
theorem d_prog_8m1_45 : decode prog_8_method_1_code 45 = .ok (.iconst 1, 1) := by decide +kernel
theorem d_prog_8m1_46 : decode prog_8_method_1_code 46 = .ok (.if_icmp .ge 31, 3) := by decide +kernel
theorem d_prog_8m1_77 : decode prog_8_method_1_code 77 = .ok (.iload_n 1, 1) := by decide +kernel
theorem d_prog_8m1_78 : decode prog_8_method_1_code 78 = .ok (.i2l, 1) := by decide +kernel
theorem d_prog_8m1_79 : decode prog_8_method_1_code 79 = .ok (.iload_n 2, 1) := by decide +kernel
theorem d_prog_8m1_80 : decode prog_8_method_1_code 80 = .ok (.i2l, 1) := by decide +kernel
theorem d_prog_8m1_81 : decode prog_8_method_1_code 81 = .ok (.lmul, 1) := by decide +kernel
theorem d_prog_8m1_82 : decode prog_8_method_1_code 82 = .ok (.ldc2_w 36, 3) := by decide +kernel
theorem d_prog_8m1_85 : decode prog_8_method_1_code 85 = .ok (.lcmp, 1) := by decide +kernel
theorem d_prog_8m1_86 : decode prog_8_method_1_code 86 = .ok (.ifCond .le 41, 3) := by decide +kernel
theorem d_prog_8m1_127 : decode prog_8_method_1_code 127 = .ok (.dload_n 3, 1) := by decide +kernel
theorem d_prog_8m1_128 : decode prog_8_method_1_code 128 = .ok (.invokestatic 41, 3) := by decide +kernel
theorem pd_24 : parseMethodDescriptor "(D)Z" = some ⟨[.double], some .boolean⟩ := by decide +kernel
abbrev MN31 : MethodName := ⟨"java/lang/Double", "isFinite", "(D)Z"⟩
theorem d_prog_8m1_131 : decode prog_8_method_1_code 131 = .ok (.ifCond .eq 11, 3) := by decide +kernel
theorem d_prog_8m1_134 : decode prog_8_method_1_code 134 = .ok (.dload 5, 2) := by decide +kernel
theorem d_prog_8m1_136 : decode prog_8_method_1_code 136 = .ok (.invokestatic 41, 3) := by decide +kernel
theorem d_prog_8m1_139 : decode prog_8_method_1_code 139 = .ok (.ifCond .ne 45, 3) := by decide +kernel
theorem d_prog_8m1_184 : decode prog_8_method_1_code 184 = .ok (.dload 7, 2) := by decide +kernel
theorem d_prog_8m1_186 : decode prog_8_method_1_code 186 = .ok (.dconst 0, 1) := by decide +kernel
theorem d_prog_8m1_187 : decode prog_8_method_1_code 187 = .ok (.dcmp .l, 1) := by decide +kernel
theorem d_prog_8m1_188 : decode prog_8_method_1_code 188 = .ok (.ifCond .le 26, 3) := by decide +kernel
theorem d_prog_8m1_191 : decode prog_8_method_1_code 191 = .ok (.dload 9, 2) := by decide +kernel
theorem d_prog_8m1_193 : decode prog_8_method_1_code 193 = .ok (.dconst 0, 1) := by decide +kernel
theorem d_prog_8m1_194 : decode prog_8_method_1_code 194 = .ok (.dcmp .l, 1) := by decide +kernel
theorem d_prog_8m1_195 : decode prog_8_method_1_code 195 = .ok (.ifCond .le 19, 3) := by decide +kernel
theorem d_prog_8m1_198 : decode prog_8_method_1_code 198 = .ok (.dload 7, 2) := by decide +kernel
theorem d_prog_8m1_200 : decode prog_8_method_1_code 200 = .ok (.invokestatic 41, 3) := by decide +kernel
theorem d_prog_8m1_203 : decode prog_8_method_1_code 203 = .ok (.ifCond .eq 11, 3) := by decide +kernel
theorem d_prog_8m1_206 : decode prog_8_method_1_code 206 = .ok (.dload 9, 2) := by decide +kernel
theorem d_prog_8m1_208 : decode prog_8_method_1_code 208 = .ok (.invokestatic 41, 3) := by decide +kernel
theorem d_prog_8m1_211 : decode prog_8_method_1_code 211 = .ok (.ifCond .ne 46, 3) := by decide +kernel
theorem d_prog_8m1_257 : decode prog_8_method_1_code 257 = .ok (.aload_n 0, 1) := by decide +kernel
theorem d_prog_8m1_258 : decode prog_8_method_1_code 258 = .ok (.iload_n 1, 1) := by decide +kernel
theorem d_prog_8m1_259 : decode prog_8_method_1_code 259 = .ok (.putfield 60, 3) := by decide +kernel
theorem d_prog_8m1_262 : decode prog_8_method_1_code 262 = .ok (.aload_n 0, 1) := by decide +kernel
theorem d_prog_8m1_263 : decode prog_8_method_1_code 263 = .ok (.iload_n 2, 1) := by decide +kernel
theorem d_prog_8m1_264 : decode prog_8_method_1_code 264 = .ok (.putfield 66, 3) := by decide +kernel
theorem d_prog_8m1_267 : decode prog_8_method_1_code 267 = .ok (.aload_n 0, 1) := by decide +kernel
theorem d_prog_8m1_268 : decode prog_8_method_1_code 268 = .ok (.dload_n 3, 1) := by decide +kernel
theorem d_prog_8m1_269 : decode prog_8_method_1_code 269 = .ok (.putfield 69, 3) := by decide +kernel
theorem d_prog_8m1_272 : decode prog_8_method_1_code 272 = .ok (.aload_n 0, 1) := by decide +kernel
theorem d_prog_8m1_273 : decode prog_8_method_1_code 273 = .ok (.dload 5, 2) := by decide +kernel
theorem d_prog_8m1_275 : decode prog_8_method_1_code 275 = .ok (.putfield 73, 3) := by decide +kernel
theorem d_prog_8m1_278 : decode prog_8_method_1_code 278 = .ok (.aload_n 0, 1) := by decide +kernel
theorem d_prog_8m1_279 : decode prog_8_method_1_code 279 = .ok (.dload 7, 2) := by decide +kernel
theorem d_prog_8m1_281 : decode prog_8_method_1_code 281 = .ok (.putfield 76, 3) := by decide +kernel
theorem d_prog_8m1_284 : decode prog_8_method_1_code 284 = .ok (.aload_n 0, 1) := by decide +kernel
theorem d_prog_8m1_285 : decode prog_8_method_1_code 285 = .ok (.dload 9, 2) := by decide +kernel
theorem d_prog_8m1_287 : decode prog_8_method_1_code 287 = .ok (.putfield 79, 3) := by decide +kernel
theorem d_prog_8m1_290 : decode prog_8_method_1_code 290 = .ok (.aload_n 0, 1) := by decide +kernel
theorem d_prog_8m1_291 : decode prog_8_method_1_code 291 = .ok (.aload 11, 2) := by decide +kernel
theorem d_prog_8m1_293 : decode prog_8_method_1_code 293 = .ok (.putfield 82, 3) := by decide +kernel
theorem d_prog_8m1_296 : decode prog_8_method_1_code 296 = .ok (.return_, 1) := by decide +kernel
theorem ef_giA (mM : MethodId) (x0 : Addr) (x1 : Int32) (x2 : Int32) (x3 : UInt64) (x4 : UInt64) (x5 : UInt64) (x6 : UInt64) (x7 : Addr) : entryFrame mM #[(.ref x0), (.int x1), (.int x2), (.double x3), (.double x4), (.double x5), (.double x6), (.ref x7)] 13 = mkF mM 0 #[.val (.ref x0), .val (.int x1), .val (.int x2), .val (.double x3), .second, .val (.double x4), .second, .val (.double x5), .second, .val (.double x6), .second, .val (.ref x7), .unset] [] := by first | (simp [entryFrame, mkF, argsToLocals, Value.category]; done) | rfl
set_option maxRecDepth 65536 in
set_option maxHeartbeats 40000000 in
theorem rm_giA (l : Launch) (Z : State) (a0 : Array Value) (hw : ∀ d ∈ tables_1, d.before a0 Z = true) (ws : List Jvm.Cond) (a : Addr) (wd : Int32) (hg : Int32) (ox : UInt64) (oy : UInt64) (cw : UInt64) (ch : UInt64) (co : Addr) (o1 : Addr) (o2 : Addr) (k2 : Int32) (k3 : Int32) (k4 : Int32) (k5 : Int32) (cs : Int32) (h0 : Heap) (n0 : Nat) (Z0 : n0 ≤ h0.size) (F_width_a : Fld Z h0 a "com/example/greenweft/greenweft/map/Grid" "width" "I" (.int (0 : Int32))) (F_height_a : Fld Z h0 a "com/example/greenweft/greenweft/map/Grid" "height" "I" (.int (0 : Int32))) (F_originX_a : Fld Z h0 a "com/example/greenweft/greenweft/map/Grid" "originX" "D" (.double (0 : UInt64))) (F_originY_a : Fld Z h0 a "com/example/greenweft/greenweft/map/Grid" "originY" "D" (.double (0 : UInt64))) (F_cellWidth_a : Fld Z h0 a "com/example/greenweft/greenweft/map/Grid" "cellWidth" "D" (.double (0 : UInt64))) (F_cellHeight_a : Fld Z h0 a "com/example/greenweft/greenweft/map/Grid" "cellHeight" "D" (.double (0 : UInt64))) (F_coordinates_a : Fld Z h0 a "com/example/greenweft/greenweft/map/Grid" "coordinates" "Lcom/example/greenweft/greenweft/map/Coordinates;" .null) (E_a : Exa Z h0 a "com/example/greenweft/greenweft/map/Grid") (g_a : n0 ≤ a) (S_Integer_DigitOnes : Sta Z h0 "java/lang/Integer" "DigitOnes" "[B" (.ref o1)) (S_Integer_DigitTens : Sta Z h0 "java/lang/Integer" "DigitTens" "[B" (.ref o2)) (B_o1 : own_B Z h0 o1 (100 : Int32)) (B_o2 : own_B Z h0 o2 (100 : Int32)) (S_String_COMPACT_STRINGS : Sta Z h0 "java/lang/String" "COMPACT_STRINGS" "Z" (.int cs)) (hcs : ¬ cs = 0) (hiw : own_i5 wd) (hih : own_i5 hg) (hw1 : ¬ wd < (1 : Int32)) (hh1 : ¬ hg < (1 : Int32)) (hmx : ¬ (2147483647 : Int64) < ((wd.toInt64) * (hg.toInt64))) (nnox : Jvm.Free.Fl.NoNaN64 ox) (fiox : ¬ 0 < (cmpValue (FP.dcmp (ox &&& (9223372036854775807 : UInt64)) (9218868437227405311 : UInt64)) .g)) (nnoy : Jvm.Free.Fl.NoNaN64 oy) (fioy : ¬ 0 < (cmpValue (FP.dcmp (oy &&& (9223372036854775807 : UInt64)) (9218868437227405311 : UInt64)) .g)) (nncw : Jvm.Free.Fl.NoNaN64 cw) (ficw : ¬ 0 < (cmpValue (FP.dcmp (cw &&& (9223372036854775807 : UInt64)) (9218868437227405311 : UInt64)) .g)) (nnch : Jvm.Free.Fl.NoNaN64 ch) (fich : ¬ 0 < (cmpValue (FP.dcmp (ch &&& (9223372036854775807 : UInt64)) (9218868437227405311 : UInt64)) .g)) (pscw : 0 < (cmpValue (FP.dcmp cw (0 : UInt64)) .l)) (psch : 0 < (cmpValue (FP.dcmp ch (0 : UInt64)) .l)) (hk2 : ((10 : Int32) + (own_sz wd)) = k2) (hk3 : (k2 + (3 : Int32)) = k3) (hk4 : (k3 + (own_sz hg)) = k4) (hk5 : (k4 + (6 : Int32)) = k5) (no0 : ¬ 0 < ((10 : Int32) - (16 : Int32))) (cp0 : own_cp (0 : Int32) (0 : Int32) (10 : Int32) (10 : Int32) (16 : Int32)) (no1 : ¬ 0 < (k2 - (16 : Int32))) (ft1 : own_fit wd k2 (16 : Int32)) (gt2 : 0 < (k3 - (16 : Int32))) (lt2 : (k3 - (16 : Int32)) < (18 : Int32)) (cp2 : own_cp (0 : Int32) k2 (3 : Int32) (3 : Int32) (34 : Int32)) (no3 : ¬ 0 < (k4 - (34 : Int32))) (ft3 : own_fit hg k4 (34 : Int32)) (no4 : ¬ 0 < (k5 - (34 : Int32))) (cp4 : own_cp (0 : Int32) k4 (6 : Int32) (6 : Int32) (34 : Int32)) (tz0 : ¬ k5 < 0) (tz1 : k5 < (34 : Int32)) (tz2 : k5.toNatClampNeg ≤ 34) (tz3 : own_cp (0 : Int32) (0 : Int32) k5 (34 : Int32) k5) (tz4 : ¬ k5 = (34 : Int32)) :
    MetFree l (⟨"com/example/greenweft/greenweft/map/Grid", "<init>", "(IIDDDDLcom/example/greenweft/greenweft/map/Coordinates;)V"⟩ : MethodName) (head1 (Jvm.Cond.code (⟨"com/example/greenweft/greenweft/map/Grid", "<init>", "(IIDDDDLcom/example/greenweft/greenweft/map/Coordinates;)V"⟩ : MethodName) prog_8_method_1_code 13 none :: ws) oR20) (fun aa_ U_ => aa_ = #[(.ref a), (.int wd), (.int hg), (.double ox), (.double oy), (.double cw), (.double ch), (.ref co)] ∧ Z.Warmed39 U_.vm ∧ U_.heap = h0 ∧ CHv Z own_EL U_.vm h0) (fun _ _ _ _ _ => True) (fun _ U_ o_ U'_ => ∃ v_ L_, o_ = .returned v_ ∧ Q_gi Z a wd hg ox oy cw ch co o1 o2 k2 k3 k4 k5 cs h0 n0 v_ U'_.heap L_ ∧ CHr Z own_EL U_.vm U_.heap U'_.vm U'_.heap ∧ ReturnedEndW U_ o_ U'_ L_ oR20.cells oR20.slots) := by
  refine MetFree.of_bodySF (plainFor_of_name pn_7) hisR ?_
  intro pP eE sS mM argsA below meth cC s₁ Bd hml0 hP hK
  obtain ⟨rfl, hZ, hh, hCH⟩ := hP
  have hx := Bd.exec
  have hby := Bd.bytes
  have hml : cC.maxLocals = 13 := hml0
  have hown : sS.vm.findClass "com/example/greenweft/greenweft/map/Grid" = some mM.cls := findClass_of_methodNamed Bd.named
  have hnm := (name_of_methodNamed Bd.named Bd.method).1
  have X0 : Stand pP l eE oR20 (sS.setVm sS.vm) mM #[(.ref a), (.int wd), (.int hg), (.double ox), (.double oy), (.double cw), (.double ch), (.ref co)] below meth cC s₁ [] 0 0 := Stand.of_body Bd
  have e0 : s₁.heap = h0 := by rw [← hh, Bd.state]; rfl
  have N0 := Fr.nil n0
  have pre0 : ∀ t_, Steps pP.tables eE below (s₁.setTop (mkF mM 0 #[.val (.ref a), .val (.int wd), .val (.int hg), .val (.double ox), .second, .val (.double oy), .second, .val (.double cw), .second, .val (.double ch), .second, .val (.ref co), .unset] [])) t_ → Steps pP.tables eE below (s₁.setTop (entryFrame mM #[(.ref a), (.int wd), (.int hg), (.double ox), (.double oy), (.double cw), (.double ch), (.ref co)] 13)) t_ := fun t_ k_ => castTop (ef_giA mM a wd hg ox oy cw ch co) k_
  have hZ : Z.Warmed39 (sS.setVm sS.vm).vm := hZ
  have hown : (sS.setVm sS.vm).vm.findClass "com/example/greenweft/greenweft/map/Grid" = some mM.cls := hown
  have hS0 : sS.Since sS.vm 0 := (State.WarmedH.refl sS).since 0
  have hk0 : 0 ≤ h0.size := Nat.zero_le _
  have CR0 := CHr.refl hCH
  obtain ⟨_, _, ⟨T_1, L_1, k_1, n_1⟩, -, X_1, ⟨Lc_1, hQ_1, l_1, y_1, z_1⟩, st_1⟩ := X0.specialBack hx (y := MN26) rfl hown (mvT hZ (ow hw 15 rfl)) (mvT hZ (ow hw 16 rfl)) (mvT hZ (ow hw 19 rfl)) (by decide) (backOf (W := 0) (rm_rec l Z a0 hw [] a h0 n0 Z0 ) hZ (ow hw 19 rfl) (ow hw 18 rfl) (by decide) (by decide)) (g := (mkF mM 1 (lc24 a wd hg ox oy cw ch co) [(.ref a)])) rfl (by rw [hml]; rfl) (Steps.refl _) (a := a) (argsL := []) (rest := []) (lenOf pd_20 rfl) rfl (by show 2 * 0 + _ ≤ _; exact Nat.le_of_eq rfl) (hb hby d_prog_8m1_1) (fun _ _ => ⟨rfl, e0, (by decide : 0 + 0 ≤ _), (by decide : 0 + 0 ≤ _)⟩)
  dsimp only [Pt.U, Pt.locs, Pt.cells, Pt.slots] at X_1 l_1 y_1 z_1 st_1 hQ_1
  subst l_1 y_1 z_1
  obtain ⟨rfl, N_1q, eh_1⟩ := hQ_1
  have N_1 := Fr.app N0 N_1q
  obtain ⟨T_2, h_2, X_2, e_2, E_2, A_2, D_2, -, st_2⟩ := newO X_1 hx hZ hown (ow hw 23 rfl) (ow hw 24 rfl) (ow hw 25 rfl) eh_1 (g := (mkF mM 4 (lc24 a wd hg ox oy cw ch co) [])) rfl (hb hby d_prog_8m1_4) (by decide) (by decide)
  obtain ⟨b_2, g_2⟩ : ∃ z, z = h0.size := ⟨_, rfl⟩
  rw [← g_2] at A_2 D_2 st_2
  have g_b_2 : n0 ≤ b_2 := Nat.le_trans Z0 (Nat.le_of_eq g_2.symm)
  have sz_b_2 : h0.size ≤ b_2 := Nat.le_trans (Keep.refl h0 [a]).1 (Nat.le_of_eq g_2.symm)
  have Z_2 : n0 ≤ h_2.size := (Nat.le_trans Z0 E_2.1)
  have K_2 : Keep h0 h_2 [a] := (Keep.refl h0 [a]).ext E_2
  have hk_2 : _ ≤ h_2.size := Nat.le_trans hk0 E_2.1
  have Ca_2 := CHr.ext E_2 CR0.1
  have CR_2 := CR0.trans Ca_2
  have F_value_b_2__2 : Fld Z h_2 b_2 "java/lang/AbstractStringBuilder" "value" "[B" .null := D_2 (Or.inl (ow hw 40 rfl)) (ty := (.array .byte)) (by decide)
  have F_coder_b_2__2 : Fld Z h_2 b_2 "java/lang/AbstractStringBuilder" "coder" "B" (.int (0 : Int32)) := D_2 (Or.inl (ow hw 42 rfl)) (ty := .byte) (by decide)
  have F_count_b_2__2 : Fld Z h_2 b_2 "java/lang/AbstractStringBuilder" "count" "I" (.int (0 : Int32)) := D_2 (Or.inl (ow hw 73 rfl)) (ty := .int) (by decide)
  have St_1_13 := (S_String_COMPACT_STRINGS.ext E_2)
  obtain ⟨_, _, ⟨T_3, L_3, k_3, n_3⟩, -, X_3, ⟨Lc_3, hQ_3, l_3, y_3, z_3⟩, st_3⟩ := X_2.specialBack hx (y := MN27) rfl hown (mvT hZ (ow hw 26 rfl)) (mvT hZ (ow hw 27 rfl)) (mvT hZ (ow hw 28 rfl)) (by decide) (backOf (W := 1) (rm_sbi l Z a0 hw [] b_2 cs h_2 n0 Z_2 F_value_b_2__2 F_coder_b_2__2 F_count_b_2__2 A_2 g_b_2 St_1_13 hcs) hZ (ow hw 28 rfl) (ow hw 25 rfl) (by decide) (by decide)) (g := (mkF mM 8 (lc24 a wd hg ox oy cw ch co) [(.ref b_2), (.ref b_2)])) rfl (by rw [hml]; rfl) (Steps.refl _) (a := b_2) (argsL := []) (rest := [(.ref b_2)]) (lenOf pd_20 rfl) rfl (by show 2 * 0 + _ ≤ _; exact Nat.le_of_eq rfl) (hb hby d_prog_8m1_8) (fun _ _ => ⟨rfl, e_2, (by decide : 1 + 1 ≤ _), (by decide : 4 + 16 ≤ _)⟩)
  dsimp only [Pt.U, Pt.locs, Pt.cells, Pt.slots] at X_3 l_3 y_3 z_3 st_3 hQ_3
  subst l_3 y_3 z_3
  obtain ⟨d__3, ⟨rfl, N_3q, Kc_3, pfsz_d_3, pfF_value_b_3, pfF_coder_b_3, pfF_count_b_3, pfE_b_3, pfB_d_3⟩⟩ := hQ_3
  have Z_3 : n0 ≤ T_3.heap.size := (Nat.le_trans Z_2 Kc_3.1)
  have K_3 : Keep h0 T_3.heap [a] := K_2.trans Kc_3 (allS (Or.inr sz_b_2) all0)
  have hk_3 : _ ≤ T_3.heap.size := Nat.le_trans hk_2 Kc_3.1
  have Ca_3 := CHr.keep Kc_3 (allS (Safe.exa hZ.alike A_2 (by decide) (by decide)) all0) CR_2.1
  have CR_3 := CR_2.trans Ca_3
  have Sf_d__3 := Safe.keep Kc_3 (allS (Safe.exa hZ.alike A_2 (by decide) (by decide)) all0) CR_2.1 (Safe.new pfsz_d_3)
  have sz_d__3 : h0.size ≤ d__3 := Nat.le_trans K_2.1 pfsz_d_3
  have g_d__3 : n0 ≤ d__3 := Nat.le_trans Z_2 pfsz_d_3
  have N_3 := Fr.app N_1 N_3q
  obtain ⟨a_4, T_4, h_4, k_4, d_4, kd_4, X_4, e_4, E_4, hS_4, hk_4, hZ_4, hown_4, Es_4, Fc_4, Fv_4, Vs_4, -, -, CH_4, -, Sf_4, st_4⟩ := ldcCH X_3 hx hZ hown (ow hw 43 rfl) (own_wS hw) rfl hS0 hk_3 (own_EW hw) (List.mem_of_getElem? (i := 0) rfl) CR_3.1 (vs := [(.int (97 : Int32)), (.int (32 : Int32)), (.int (103 : Int32)), (.int (114 : Int32)), (.int (105 : Int32)), (.int (100 : Int32)), (.int (32 : Int32)), (.int (111 : Int32)), (.int (102 : Int32)), (.int (32 : Int32))]) (z := (10 : Int32)) ⟨by decide, rfl⟩ (by decide) rfl (g := (mkF mM 11 (lc24 a wd hg ox oy cw ch co) [(.ref b_2)])) rfl (hb hby d_prog_8m1_11) (n := 40) (by decide) (by decide) (by decide) (by decide)
  have Z_4 : n0 ≤ h_4.size := (Nat.le_trans Z_3 E_4.1)
  have K_4 : Keep h0 h_4 [a] := K_3.ext E_4
  have Ca_4 := CH_4
  have CR_4 := CR_3.trans Ca_4
  have Sf_d__3_4 := Ca_4.safe pfB_d_3.lt Sf_d__3
  have St_3_13 := ((own_sta_keep St_1_13 Kc_3 (allS (own_exa_ns A_2) all0)).ext E_4)
  obtain ⟨cq_5, kq_5, q_5a, q_5b, q_5c⟩ := isOf hZ_4 e_4 (pfE_b_3.ext E_4)
  obtain ⟨_, _, ⟨T_5, L_5, k_5, n_5⟩, -, X_5, ⟨Lc_5, hQ_5, l_5, y_5, z_5⟩, st_5⟩ := X_4.virtualBack hx (y := MN28) (z := MN28) hown_4 (mvT hZ_4 (ow hw 49 rfl)) (mvT hZ_4 (ow hw 50 rfl)) (notFace_of_selects (args := #[]) (mvT hZ_4 (ow hw 52 rfl))) (mvT hZ_4 (ow hw 52 rfl)) (mvT hZ_4 (ow hw 51 rfl)) (by decide) (backOf (W := 0) (rm_sa16 l Z a0 hw [] b_2 a_4 d_4 d__3 (10 : Int32) (0 : Int32) (10 : Int32) cs h_4 n0 Z_4 (pfF_value_b_3.ext E_4) (pfF_coder_b_3.ext E_4) (pfF_count_b_3.ext E_4) (pfE_b_3.ext E_4) g_b_2 g_d__3 Fv_4 Fc_4 Es_4 (own_B.of Vs_4) (Ne.symm (Sf_4 _ Sf_d__3_4).2) (Ne.symm (ne_exa Es_4 ((A_2.keep Kc_3).ext E_4) (by decide))) (by decide) St_3_13 hcs (pfB_d_3.ext E_4) no0 cp0) hZ_4 (ow hw 53 rfl) (ow hw 25 rfl) (by decide) (by decide)) q_5a q_5c (g := (mkF mM 13 (lc24 a wd hg ox oy cw ch co) [(.ref a_4), (.ref b_2)])) rfl (by rw [hml]; rfl) (Steps.refl _) (argsL := [(.ref a_4)]) (rest := []) (lenOf pd_21 rfl) rfl (by show 2 * 0 + _ ≤ _; exact Nat.le_of_eq rfl) (hb hby d_prog_8m1_13) (fun _ _ => ⟨rfl, e_4, (by decide : 4 + 0 ≤ _), (by decide : 64 + 0 ≤ _)⟩)
  dsimp only [Pt.U, Pt.locs, Pt.cells, Pt.slots] at X_5 l_5 y_5 z_5 st_5 hQ_5
  subst l_5 y_5 z_5
  obtain ⟨rfl, N_5q, Kc_5, pfF_value_b_5, pfF_coder_b_5, pfF_count_b_5, pfE_b_5, pfB_d_5⟩ := hQ_5
  have Z_5 : n0 ≤ T_5.heap.size := (Nat.le_trans Z_4 Kc_5.1)
  have K_5 : Keep h0 T_5.heap [a] := K_4.trans Kc_5 (allS (Or.inr sz_b_2) (allS (Or.inr sz_d__3) all0))
  have hk_5 : _ ≤ T_5.heap.size := Nat.le_trans hk_4 Kc_5.1
  have Ca_5 := CHr.keep Kc_5 (allS (Safe.exa hZ_4.alike (pfE_b_3.ext E_4) (by decide) (by decide)) (allS Sf_d__3_4 all0)) CR_4.1
  have CR_5 := CR_4.trans Ca_5
  have Sf_d__3_5 := Ca_5.safe (pfB_d_3.ext E_4).lt Sf_d__3_4
  have N_5 := Fr.app N_3 N_5q
  have St_4_9 := (own_sta_keep ((own_sta_keep (S_Integer_DigitOnes.ext E_2) Kc_3 (allS (own_exa_ns A_2) all0)).ext E_4) Kc_5 (allS (own_exa_ns (pfE_b_3.ext E_4)) (allS (own_B.ns (pfB_d_3.ext E_4)) all0)))
  have St_4_10 := (own_sta_keep ((own_sta_keep (S_Integer_DigitTens.ext E_2) Kc_3 (allS (own_exa_ns A_2) all0)).ext E_4) Kc_5 (allS (own_exa_ns (pfE_b_3.ext E_4)) (allS (own_B.ns (pfB_d_3.ext E_4)) all0)))
  have Rt_1 := ((((B_o1.ext E_2).keep Kc_3 (ninS (Nat.ne_of_lt (Nat.lt_of_lt_of_le B_o1.lt (Nat.le_of_eq g_2.symm))) nin0)).ext E_4).keep Kc_5 (ninS (Nat.ne_of_lt (Nat.lt_of_lt_of_le B_o1.lt (Nat.le_of_eq g_2.symm))) (ninS (Nat.ne_of_lt (Nat.lt_of_lt_of_le (B_o1.ext E_2).lt pfsz_d_3)) nin0)))
  have Rt_2 := ((((B_o2.ext E_2).keep Kc_3 (ninS (Nat.ne_of_lt (Nat.lt_of_lt_of_le B_o2.lt (Nat.le_of_eq g_2.symm))) nin0)).ext E_4).keep Kc_5 (ninS (Nat.ne_of_lt (Nat.lt_of_lt_of_le B_o2.lt (Nat.le_of_eq g_2.symm))) (ninS (Nat.ne_of_lt (Nat.lt_of_lt_of_le (B_o2.ext E_2).lt pfsz_d_3)) nin0)))
  have St_4_13 := (own_sta_keep St_3_13 Kc_5 (allS (own_exa_ns (pfE_b_3.ext E_4)) (allS (own_B.ns (pfB_d_3.ext E_4)) all0)))
  obtain ⟨cq_6, kq_6, q_6a, q_6b, q_6c⟩ := isOf hZ_4 rfl pfE_b_5
  obtain ⟨_, _, ⟨T_6, L_6, k_6, n_6⟩, -, X_6, ⟨Lc_6, hQ_6, l_6, y_6, z_6⟩, st_6⟩ := X_5.virtualBack hx (y := MN29) (z := MN29) hown_4 (mvT hZ_4 (ow hw 99 rfl)) (mvT hZ_4 (ow hw 100 rfl)) (notFace_of_selects (args := #[]) (mvT hZ_4 (ow hw 102 rfl))) (mvT hZ_4 (ow hw 102 rfl)) (mvT hZ_4 (ow hw 101 rfl)) (by decide) (backOf (W := 0) (rm_si16 l Z a0 hw [] b_2 wd d__3 (10 : Int32) k2 o1 o2 cs T_5.heap n0 Z_5 pfF_value_b_5 pfF_coder_b_5 pfF_count_b_5 pfE_b_5 g_b_2 g_d__3 St_4_9 St_4_10 Rt_1 Rt_2 (Nat.ne_of_lt (Nat.lt_of_lt_of_le (B_o1.ext E_2).lt pfsz_d_3)) (Nat.ne_of_lt (Nat.lt_of_lt_of_le (B_o2.ext E_2).lt pfsz_d_3)) hiw hk2 St_4_13 hcs pfB_d_5 no1 ft1) hZ_4 (ow hw 103 rfl) (ow hw 25 rfl) (by decide) (by decide)) q_6a q_6c (g := (mkF mM 17 (lc24 a wd hg ox oy cw ch co) [(.int wd), (.ref b_2)])) rfl (by rw [hml]; rfl) (Steps.refl _) (argsL := [(.int wd)]) (rest := []) (lenOf pd_22 rfl) rfl (by show 2 * 0 + _ ≤ _; exact Nat.le_of_eq rfl) (hb hby d_prog_8m1_17) (fun _ _ => ⟨rfl, rfl, (by decide : 4 + 0 ≤ _), (by decide : 64 + 0 ≤ _)⟩)
  dsimp only [Pt.U, Pt.locs, Pt.cells, Pt.slots] at X_6 l_6 y_6 z_6 st_6 hQ_6
  subst l_6 y_6 z_6
  obtain ⟨rfl, N_6q, Kc_6, pfF_value_b_6, pfF_coder_b_6, pfF_count_b_6, pfE_b_6, pfB_d_6⟩ := hQ_6
  have Z_6 : n0 ≤ T_6.heap.size := (Nat.le_trans Z_5 Kc_6.1)
  have K_6 : Keep h0 T_6.heap [a] := K_5.trans Kc_6 (allS (Or.inr sz_b_2) (allS (Or.inr sz_d__3) all0))
  have hk_6 : _ ≤ T_6.heap.size := Nat.le_trans hk_5 Kc_6.1
  have Ca_6 := CHr.keep Kc_6 (allS (Safe.exa hZ_4.alike pfE_b_5 (by decide) (by decide)) (allS Sf_d__3_5 all0)) CR_5.1
  have CR_6 := CR_5.trans Ca_6
  have Sf_d__3_6 := Ca_6.safe pfB_d_5.lt Sf_d__3_5
  have N_6 := Fr.app N_5 N_6q
  obtain ⟨a_7, T_7, h_7, k_7, d_7, kd_7, X_7, e_7, E_7, hS_7, hk_7, hZ_7, hown_7, Es_7, Fc_7, Fv_7, Vs_7, -, -, CH_7, -, Sf_7, st_7⟩ := ldcCH X_6 hx hZ_4 hown_4 (ow hw 121 rfl) (own_wS hw) rfl hS_4 hk_6 (own_EW hw) (List.mem_of_getElem? (i := 1) rfl) CR_6.1 (vs := [(.int (32 : Int32)), (.int (120 : Int32)), (.int (32 : Int32))]) (z := (3 : Int32)) ⟨by decide, rfl⟩ (by decide) rfl (g := (mkF mM 20 (lc24 a wd hg ox oy cw ch co) [(.ref b_2)])) rfl (hb hby d_prog_8m1_20) (n := 12) (by decide) (by decide) (by decide) (by decide)
  have Z_7 : n0 ≤ h_7.size := (Nat.le_trans Z_6 E_7.1)
  have K_7 : Keep h0 h_7 [a] := K_6.ext E_7
  have Ca_7 := CH_7
  have CR_7 := CR_6.trans Ca_7
  have Sf_d__3_7 := Ca_7.safe pfB_d_6.lt Sf_d__3_6
  have St_6_13 := ((own_sta_keep St_4_13 Kc_6 (allS (own_exa_ns pfE_b_5) (allS (own_B.ns pfB_d_5) all0))).ext E_7)
  obtain ⟨cq_8, kq_8, q_8a, q_8b, q_8c⟩ := isOf hZ_7 e_7 (pfE_b_6.ext E_7)
  obtain ⟨_, _, ⟨T_8, L_8, k_8, n_8⟩, -, X_8, ⟨Lc_8, hQ_8, l_8, y_8, z_8⟩, st_8⟩ := X_7.virtualBack hx (y := MN28) (z := MN28) hown_7 (mvT hZ_7 (ow hw 49 rfl)) (mvT hZ_7 (ow hw 50 rfl)) (notFace_of_selects (args := #[]) (mvT hZ_7 (ow hw 52 rfl))) (mvT hZ_7 (ow hw 52 rfl)) (mvT hZ_7 (ow hw 51 rfl)) (by decide) (backOf (W := 0) (rm_saG l Z a0 hw [] b_2 a_7 d_7 d__3 (3 : Int32) k2 k3 cs h_7 n0 Z_7 (pfF_value_b_6.ext E_7) (pfF_coder_b_6.ext E_7) (pfF_count_b_6.ext E_7) (pfE_b_6.ext E_7) g_b_2 g_d__3 Fv_7 Fc_7 Es_7 (own_B.of Vs_7) (Ne.symm (Sf_7 _ Sf_d__3_7).2) (Ne.symm (ne_exa Es_7 (((((A_2.keep Kc_3).ext E_4).keep Kc_5).keep Kc_6).ext E_7) (by decide))) hk3 St_6_13 hcs (pfB_d_6.ext E_7) gt2 lt2 cp2) hZ_7 (ow hw 53 rfl) (ow hw 25 rfl) (by decide) (by decide)) q_8a q_8c (g := (mkF mM 22 (lc24 a wd hg ox oy cw ch co) [(.ref a_7), (.ref b_2)])) rfl (by rw [hml]; rfl) (Steps.refl _) (argsL := [(.ref a_7)]) (rest := []) (lenOf pd_21 rfl) rfl (by show 2 * 0 + _ ≤ _; exact Nat.le_of_eq rfl) (hb hby d_prog_8m1_22) (fun _ _ => ⟨rfl, e_7, (by decide : 6 + 1 ≤ _), (by decide : 80 + 34 ≤ _)⟩)
  dsimp only [Pt.U, Pt.locs, Pt.cells, Pt.slots] at X_8 l_8 y_8 z_8 st_8 hQ_8
  subst l_8 y_8 z_8
  obtain ⟨d2__8, ⟨rfl, N_8q, Kc_8, pfsz_d2_8, pfF_value_b_8, pfF_coder_b_8, pfF_count_b_8, pfE_b_8, pfB_d2_8⟩⟩ := hQ_8
  have Z_8 : n0 ≤ T_8.heap.size := (Nat.le_trans Z_7 Kc_8.1)
  have K_8 : Keep h0 T_8.heap [a] := K_7.trans Kc_8 (allS (Or.inr sz_b_2) all0)
  have hk_8 : _ ≤ T_8.heap.size := Nat.le_trans hk_7 Kc_8.1
  have Ca_8 := CHr.keep Kc_8 (allS (Safe.exa hZ_7.alike (pfE_b_6.ext E_7) (by decide) (by decide)) all0) CR_7.1
  have CR_8 := CR_7.trans Ca_8
  have Sf_d__3_8 := Ca_8.safe (pfB_d_6.ext E_7).lt Sf_d__3_7
  have Sf_d2__8 := Safe.keep Kc_8 (allS (Safe.exa hZ_7.alike (pfE_b_6.ext E_7) (by decide) (by decide)) all0) CR_7.1 (Safe.new pfsz_d2_8)
  have sz_d2__8 : h0.size ≤ d2__8 := Nat.le_trans K_7.1 pfsz_d2_8
  have g_d2__8 : n0 ≤ d2__8 := Nat.le_trans Z_7 pfsz_d2_8
  have N_8 := Fr.app N_6 N_8q
  have St_7_9 := (own_sta_keep ((own_sta_keep St_4_9 Kc_6 (allS (own_exa_ns pfE_b_5) (allS (own_B.ns pfB_d_5) all0))).ext E_7) Kc_8 (allS (own_exa_ns (pfE_b_6.ext E_7)) all0))
  have St_7_10 := (own_sta_keep ((own_sta_keep St_4_10 Kc_6 (allS (own_exa_ns pfE_b_5) (allS (own_B.ns pfB_d_5) all0))).ext E_7) Kc_8 (allS (own_exa_ns (pfE_b_6.ext E_7)) all0))
  have Rt_3 := (((Rt_1.keep Kc_6 (ninS (Nat.ne_of_lt (Nat.lt_of_lt_of_le B_o1.lt (Nat.le_of_eq g_2.symm))) (ninS (Nat.ne_of_lt (Nat.lt_of_lt_of_le (B_o1.ext E_2).lt pfsz_d_3)) nin0))).ext E_7).keep Kc_8 (ninS (Nat.ne_of_lt (Nat.lt_of_lt_of_le B_o1.lt (Nat.le_of_eq g_2.symm))) nin0))
  have Rt_4 := (((Rt_2.keep Kc_6 (ninS (Nat.ne_of_lt (Nat.lt_of_lt_of_le B_o2.lt (Nat.le_of_eq g_2.symm))) (ninS (Nat.ne_of_lt (Nat.lt_of_lt_of_le (B_o2.ext E_2).lt pfsz_d_3)) nin0))).ext E_7).keep Kc_8 (ninS (Nat.ne_of_lt (Nat.lt_of_lt_of_le B_o2.lt (Nat.le_of_eq g_2.symm))) nin0))
  have St_7_13 := (own_sta_keep St_6_13 Kc_8 (allS (own_exa_ns (pfE_b_6.ext E_7)) all0))
  obtain ⟨cq_9, kq_9, q_9a, q_9b, q_9c⟩ := isOf hZ_7 rfl pfE_b_8
  obtain ⟨_, _, ⟨T_9, L_9, k_9, n_9⟩, -, X_9, ⟨Lc_9, hQ_9, l_9, y_9, z_9⟩, st_9⟩ := X_8.virtualBack hx (y := MN29) (z := MN29) hown_7 (mvT hZ_7 (ow hw 99 rfl)) (mvT hZ_7 (ow hw 100 rfl)) (notFace_of_selects (args := #[]) (mvT hZ_7 (ow hw 102 rfl))) (mvT hZ_7 (ow hw 102 rfl)) (mvT hZ_7 (ow hw 101 rfl)) (by decide) (backOf (W := 0) (rm_si34 l Z a0 hw [] b_2 hg d2__8 k3 k4 o1 o2 cs T_8.heap n0 Z_8 pfF_value_b_8 pfF_coder_b_8 pfF_count_b_8 pfE_b_8 g_b_2 g_d2__8 St_7_9 St_7_10 Rt_3 Rt_4 (Nat.ne_of_lt (Nat.lt_of_lt_of_le ((Rt_1.keep Kc_6 (ninS (Nat.ne_of_lt (Nat.lt_of_lt_of_le B_o1.lt (Nat.le_of_eq g_2.symm))) (ninS (Nat.ne_of_lt (Nat.lt_of_lt_of_le (B_o1.ext E_2).lt pfsz_d_3)) nin0))).ext E_7).lt pfsz_d2_8)) (Nat.ne_of_lt (Nat.lt_of_lt_of_le ((Rt_2.keep Kc_6 (ninS (Nat.ne_of_lt (Nat.lt_of_lt_of_le B_o2.lt (Nat.le_of_eq g_2.symm))) (ninS (Nat.ne_of_lt (Nat.lt_of_lt_of_le (B_o2.ext E_2).lt pfsz_d_3)) nin0))).ext E_7).lt pfsz_d2_8)) hih hk4 St_7_13 hcs pfB_d2_8 no3 ft3) hZ_7 (ow hw 103 rfl) (ow hw 25 rfl) (by decide) (by decide)) q_9a q_9c (g := (mkF mM 26 (lc24 a wd hg ox oy cw ch co) [(.int hg), (.ref b_2)])) rfl (by rw [hml]; rfl) (Steps.refl _) (argsL := [(.int hg)]) (rest := []) (lenOf pd_22 rfl) rfl (by show 2 * 0 + _ ≤ _; exact Nat.le_of_eq rfl) (hb hby d_prog_8m1_26) (fun _ _ => ⟨rfl, rfl, (by decide : 7 + 0 ≤ _), (by decide : 114 + 0 ≤ _)⟩)
  dsimp only [Pt.U, Pt.locs, Pt.cells, Pt.slots] at X_9 l_9 y_9 z_9 st_9 hQ_9
  subst l_9 y_9 z_9
  obtain ⟨rfl, N_9q, Kc_9, pfF_value_b_9, pfF_coder_b_9, pfF_count_b_9, pfE_b_9, pfB_d_9⟩ := hQ_9
  have Z_9 : n0 ≤ T_9.heap.size := (Nat.le_trans Z_8 Kc_9.1)
  have K_9 : Keep h0 T_9.heap [a] := K_8.trans Kc_9 (allS (Or.inr sz_b_2) (allS (Or.inr sz_d2__8) all0))
  have hk_9 : _ ≤ T_9.heap.size := Nat.le_trans hk_8 Kc_9.1
  have Ca_9 := CHr.keep Kc_9 (allS (Safe.exa hZ_7.alike pfE_b_8 (by decide) (by decide)) (allS Sf_d2__8 all0)) CR_8.1
  have CR_9 := CR_8.trans Ca_9
  have Sf_d__3_9 := Ca_9.safe ((pfB_d_6.ext E_7).keep Kc_8 (ninS (Ne.symm (Nat.ne_of_lt (Nat.lt_of_lt_of_le A_2.lt pfsz_d_3))) nin0)).lt Sf_d__3_8
  have Sf_d2__8_9 := Ca_9.safe pfB_d2_8.lt Sf_d2__8
  have N_9 := Fr.app N_8 N_9q
  obtain ⟨a_10, T_10, h_10, k_10, d_10, kd_10, X_10, e_10, E_10, hS_10, hk_10, hZ_10, hown_10, Es_10, Fc_10, Fv_10, Vs_10, -, -, CH_10, -, Sf_10, st_10⟩ := ldcCH X_9 hx hZ_7 hown_7 (ow hw 122 rfl) (own_wS hw) rfl hS_7 hk_9 (own_EW hw) (List.mem_of_getElem? (i := 2) rfl) CR_9.1 (vs := [(.int (32 : Int32)), (.int (99 : Int32)), (.int (101 : Int32)), (.int (108 : Int32)), (.int (108 : Int32)), (.int (115 : Int32))]) (z := (6 : Int32)) ⟨by decide, rfl⟩ (by decide) rfl (g := (mkF mM 29 (lc24 a wd hg ox oy cw ch co) [(.ref b_2)])) rfl (hb hby d_prog_8m1_29) (n := 24) (by decide) (by decide) (by decide) (by decide)
  have Rt_5 := (((pfB_d_6.ext E_7).keep Kc_8 (ninS (Ne.symm (Nat.ne_of_lt (Nat.lt_of_lt_of_le A_2.lt pfsz_d_3))) nin0)).keep Kc_9 (ninS (Ne.symm (Nat.ne_of_lt (Nat.lt_of_lt_of_le A_2.lt pfsz_d_3))) (ninS (Nat.ne_of_lt (Nat.lt_of_lt_of_le (pfB_d_6.ext E_7).lt pfsz_d2_8)) nin0)))
  have Z_10 : n0 ≤ h_10.size := (Nat.le_trans Z_9 E_10.1)
  have K_10 : Keep h0 h_10 [a] := K_9.ext E_10
  have Ca_10 := CH_10
  have CR_10 := CR_9.trans Ca_10
  have Sf_d__3_10 := Ca_10.safe Rt_5.lt Sf_d__3_9
  have Sf_d2__8_10 := Ca_10.safe pfB_d_9.lt Sf_d2__8_9
  have St_9_13 := ((own_sta_keep St_7_13 Kc_9 (allS (own_exa_ns pfE_b_8) (allS (own_B.ns pfB_d2_8) all0))).ext E_10)
  obtain ⟨cq_11, kq_11, q_11a, q_11b, q_11c⟩ := isOf hZ_10 e_10 (pfE_b_9.ext E_10)
  obtain ⟨_, _, ⟨T_11, L_11, k_11, n_11⟩, -, X_11, ⟨Lc_11, hQ_11, l_11, y_11, z_11⟩, st_11⟩ := X_10.virtualBack hx (y := MN28) (z := MN28) hown_10 (mvT hZ_10 (ow hw 49 rfl)) (mvT hZ_10 (ow hw 50 rfl)) (notFace_of_selects (args := #[]) (mvT hZ_10 (ow hw 52 rfl))) (mvT hZ_10 (ow hw 52 rfl)) (mvT hZ_10 (ow hw 51 rfl)) (by decide) (backOf (W := 0) (rm_sa34 l Z a0 hw [] b_2 a_10 d_10 d2__8 (6 : Int32) k4 k5 cs h_10 n0 Z_10 (pfF_value_b_9.ext E_10) (pfF_coder_b_9.ext E_10) (pfF_count_b_9.ext E_10) (pfE_b_9.ext E_10) g_b_2 g_d2__8 Fv_10 Fc_10 Es_10 (own_B.of Vs_10) (Ne.symm (Sf_10 _ Sf_d2__8_10).2) (Ne.symm (ne_exa Es_10 ((((((((A_2.keep Kc_3).ext E_4).keep Kc_5).keep Kc_6).ext E_7).keep Kc_8).keep Kc_9).ext E_10) (by decide))) hk5 St_9_13 hcs (pfB_d_9.ext E_10) no4 cp4) hZ_10 (ow hw 53 rfl) (ow hw 25 rfl) (by decide) (by decide)) q_11a q_11c (g := (mkF mM 31 (lc24 a wd hg ox oy cw ch co) [(.ref a_10), (.ref b_2)])) rfl (by rw [hml]; rfl) (Steps.refl _) (argsL := [(.ref a_10)]) (rest := []) (lenOf pd_21 rfl) rfl (by show 2 * 0 + _ ≤ _; exact Nat.le_of_eq rfl) (hb hby d_prog_8m1_31) (fun _ _ => ⟨rfl, e_10, (by decide : 9 + 0 ≤ _), (by decide : 142 + 0 ≤ _)⟩)
  dsimp only [Pt.U, Pt.locs, Pt.cells, Pt.slots] at X_11 l_11 y_11 z_11 st_11 hQ_11
  subst l_11 y_11 z_11
  obtain ⟨rfl, N_11q, Kc_11, pfF_value_b_11, pfF_coder_b_11, pfF_count_b_11, pfE_b_11, pfB_d_11⟩ := hQ_11
  have Z_11 : n0 ≤ T_11.heap.size := (Nat.le_trans Z_10 Kc_11.1)
  have K_11 : Keep h0 T_11.heap [a] := K_10.trans Kc_11 (allS (Or.inr sz_b_2) (allS (Or.inr sz_d2__8) all0))
  have hk_11 : _ ≤ T_11.heap.size := Nat.le_trans hk_10 Kc_11.1
  have Ca_11 := CHr.keep Kc_11 (allS (Safe.exa hZ_10.alike (pfE_b_9.ext E_10) (by decide) (by decide)) (allS Sf_d2__8_10 all0)) CR_10.1
  have CR_11 := CR_10.trans Ca_11
  have Sf_d__3_11 := Ca_11.safe (Rt_5.ext E_10).lt Sf_d__3_10
  have Sf_d2__8_11 := Ca_11.safe (pfB_d_9.ext E_10).lt Sf_d2__8_10
  have N_11 := Fr.app N_9 N_11q
  have St_10_13 := (own_sta_keep St_9_13 Kc_11 (allS (own_exa_ns (pfE_b_9.ext E_10)) (allS (own_B.ns (pfB_d_9.ext E_10)) all0)))
  obtain ⟨cq_12, kq_12, q_12a, q_12b, q_12c⟩ := isOf hZ_10 rfl pfE_b_11
  obtain ⟨_, _, ⟨T_12, L_12, k_12, n_12⟩, -, X_12, ⟨Lc_12, hQ_12, l_12, y_12, z_12⟩, st_12⟩ := X_11.virtualBack hx (y := MN30) (z := MN30) hown_10 (mvT hZ_10 (ow hw 146 rfl)) (mvT hZ_10 (ow hw 147 rfl)) (notFace_of_selects (args := #[]) (mvT hZ_10 (ow hw 149 rfl))) (mvT hZ_10 (ow hw 149 rfl)) (mvT hZ_10 (ow hw 148 rfl)) (by decide) (backOf (W := 0) (rm_tos l Z a0 hw [] b_2 d2__8 k5 cs T_11.heap n0 Z_11 pfF_value_b_11 pfF_coder_b_11 pfF_count_b_11 pfE_b_11 pfB_d_11 tz0 tz1 tz2 tz3 tz4 St_10_13 hcs) hZ_10 (ow hw 150 rfl) (ow hw 25 rfl) (by decide) (by decide)) q_12a q_12c (g := (mkF mM 34 (lc24 a wd hg ox oy cw ch co) [(.ref b_2)])) rfl (by rw [hml]; rfl) (Steps.refl _) (argsL := []) (rest := []) (lenOf pd_23 rfl) rfl (by show 2 * 0 + _ ≤ _; exact Nat.le_of_eq rfl) (hb hby d_prog_8m1_34) (fun _ _ => ⟨rfl, rfl, (by decide : 9 + 2 ≤ _), (by decide : 142 + 38 ≤ _)⟩)
  dsimp only [Pt.U, Pt.locs, Pt.cells, Pt.slots] at X_12 l_12 y_12 z_12 st_12 hQ_12
  subst l_12 y_12 z_12
  obtain ⟨g__12, ⟨rfl, N_12q, Kc_12, pfsz_g_12, pfE_g_12⟩⟩ := hQ_12
  have Rt_6 := ((Rt_5.ext E_10).keep Kc_11 (ninS (Ne.symm (Nat.ne_of_lt (Nat.lt_of_lt_of_le A_2.lt pfsz_d_3))) (ninS (Nat.ne_of_lt (Nat.lt_of_lt_of_le (pfB_d_6.ext E_7).lt pfsz_d2_8)) nin0)))
  have Z_12 : n0 ≤ T_12.heap.size := (Nat.le_trans Z_11 Kc_12.1)
  have K_12 : Keep h0 T_12.heap [a] := K_11.trans Kc_12 all0
  have hk_12 : _ ≤ T_12.heap.size := Nat.le_trans hk_11 Kc_12.1
  have Ca_12 := CHr.keep Kc_12 all0 CR_11.1
  have CR_12 := CR_11.trans Ca_12
  have Sf_d__3_12 := Ca_12.safe Rt_6.lt Sf_d__3_11
  have Sf_d2__8_12 := Ca_12.safe pfB_d_11.lt Sf_d2__8_11
  have sz_g__12 : h0.size ≤ g__12 := Nat.le_trans K_11.1 pfsz_g_12
  have g_g__12 : n0 ≤ g__12 := Nat.le_trans Z_11 pfsz_g_12
  have N_12 := Fr.app N_11 N_12q
  obtain ⟨_, _, ⟨T_13, L_13, k_13, n_13⟩, -, X_13, ⟨Lc_13, hQ_13, l_13, y_13, z_13⟩, st_13⟩ := Jvm.LawKit.callS X_12 hx (y := MN31) hown_10 (mvT hZ_10 (ow hw 184 rfl)) (mvT hZ_10 (ow hw 185 rfl)) (mvT hZ_10 (ow hw 186 rfl)) (mvT hZ_10 (ow hw 187 rfl)) (by decide) (backOf (W := 0) (rm_fin l Z a0 hw [] ox T_12.heap n0 Z_12 nnox fiox) hZ_10 (ow hw 187 rfl) (ow hw 186 rfl) (by decide) (by decide)) (g := (mkF mM 128 (lc25 a wd hg ox oy cw ch co g__12) [(.double ox)])) rfl (by rw [hml]; rfl) (argsL := [(.double ox)]) (rest := []) (lenOf pd_24 rfl) rfl (by show 2 * 0 + _ ≤ _; exact Nat.le_of_eq rfl) (hb hby d_prog_8m1_128) (fun _ _ => ⟨rfl, rfl, (by decide : 11 + 0 ≤ _), (by decide : 180 + 0 ≤ _)⟩)
  dsimp only [Pt.U, Pt.locs, Pt.cells, Pt.slots] at X_13 l_13 y_13 z_13 st_13 hQ_13
  subst l_13 y_13 z_13
  obtain ⟨rfl, N_13q, eh_13⟩ := hQ_13
  have N_13 := Fr.app N_12 N_13q
  obtain ⟨_, _, ⟨T_14, L_14, k_14, n_14⟩, -, X_14, ⟨Lc_14, hQ_14, l_14, y_14, z_14⟩, st_14⟩ := Jvm.LawKit.callS X_13 hx (y := MN31) hown_10 (mvT hZ_10 (ow hw 184 rfl)) (mvT hZ_10 (ow hw 185 rfl)) (mvT hZ_10 (ow hw 186 rfl)) (mvT hZ_10 (ow hw 187 rfl)) (by decide) (backOf (W := 0) (rm_fin l Z a0 hw [] oy T_12.heap n0 Z_12 nnoy fioy) hZ_10 (ow hw 187 rfl) (ow hw 186 rfl) (by decide) (by decide)) (g := (mkF mM 136 (lc25 a wd hg ox oy cw ch co g__12) [(.double oy)])) rfl (by rw [hml]; rfl) (argsL := [(.double oy)]) (rest := []) (lenOf pd_24 rfl) rfl (by show 2 * 0 + _ ≤ _; exact Nat.le_of_eq rfl) (hb hby d_prog_8m1_136) (fun _ _ => ⟨rfl, eh_13, (by decide : 11 + 0 ≤ _), (by decide : 180 + 0 ≤ _)⟩)
  dsimp only [Pt.U, Pt.locs, Pt.cells, Pt.slots] at X_14 l_14 y_14 z_14 st_14 hQ_14
  subst l_14 y_14 z_14
  obtain ⟨rfl, N_14q, eh_14⟩ := hQ_14
  have N_14 := Fr.app N_13 N_14q
  obtain ⟨_, _, ⟨T_15, L_15, k_15, n_15⟩, -, X_15, ⟨Lc_15, hQ_15, l_15, y_15, z_15⟩, st_15⟩ := Jvm.LawKit.callS X_14 hx (y := MN31) hown_10 (mvT hZ_10 (ow hw 184 rfl)) (mvT hZ_10 (ow hw 185 rfl)) (mvT hZ_10 (ow hw 186 rfl)) (mvT hZ_10 (ow hw 187 rfl)) (by decide) (backOf (W := 0) (rm_fin l Z a0 hw [] cw T_12.heap n0 Z_12 nncw ficw) hZ_10 (ow hw 187 rfl) (ow hw 186 rfl) (by decide) (by decide)) (g := (mkF mM 200 (lc25 a wd hg ox oy cw ch co g__12) [(.double cw)])) rfl (by rw [hml]; rfl) (argsL := [(.double cw)]) (rest := []) (lenOf pd_24 rfl) rfl (by show 2 * 0 + _ ≤ _; exact Nat.le_of_eq rfl) (hb hby d_prog_8m1_200) (fun _ _ => ⟨rfl, eh_14, (by decide : 11 + 0 ≤ _), (by decide : 180 + 0 ≤ _)⟩)
  dsimp only [Pt.U, Pt.locs, Pt.cells, Pt.slots] at X_15 l_15 y_15 z_15 st_15 hQ_15
  subst l_15 y_15 z_15
  obtain ⟨rfl, N_15q, eh_15⟩ := hQ_15
  have N_15 := Fr.app N_14 N_15q
  obtain ⟨_, _, ⟨T_16, L_16, k_16, n_16⟩, -, X_16, ⟨Lc_16, hQ_16, l_16, y_16, z_16⟩, st_16⟩ := Jvm.LawKit.callS X_15 hx (y := MN31) hown_10 (mvT hZ_10 (ow hw 184 rfl)) (mvT hZ_10 (ow hw 185 rfl)) (mvT hZ_10 (ow hw 186 rfl)) (mvT hZ_10 (ow hw 187 rfl)) (by decide) (backOf (W := 0) (rm_fin l Z a0 hw [] ch T_12.heap n0 Z_12 nnch fich) hZ_10 (ow hw 187 rfl) (ow hw 186 rfl) (by decide) (by decide)) (g := (mkF mM 208 (lc25 a wd hg ox oy cw ch co g__12) [(.double ch)])) rfl (by rw [hml]; rfl) (argsL := [(.double ch)]) (rest := []) (lenOf pd_24 rfl) rfl (by show 2 * 0 + _ ≤ _; exact Nat.le_of_eq rfl) (hb hby d_prog_8m1_208) (fun _ _ => ⟨rfl, eh_15, (by decide : 11 + 0 ≤ _), (by decide : 180 + 0 ≤ _)⟩)
  dsimp only [Pt.U, Pt.locs, Pt.cells, Pt.slots] at X_16 l_16 y_16 z_16 st_16 hQ_16
  subst l_16 y_16 z_16
  obtain ⟨rfl, N_16q, eh_16⟩ := hQ_16
  have N_16 := Fr.app N_15 N_16q
  have Rt_7 := (((((((((((F_width_a.ext E_2).keep Kc_3 (ninS (Nat.ne_of_lt (Nat.lt_of_lt_of_le E_a.lt (Nat.le_of_eq g_2.symm))) nin0)).ext E_4).keep Kc_5 (ninS (Nat.ne_of_lt (Nat.lt_of_lt_of_le E_a.lt (Nat.le_of_eq g_2.symm))) (ninS (Nat.ne_of_lt (Nat.lt_of_lt_of_le (E_a.ext E_2).lt pfsz_d_3)) nin0))).keep Kc_6 (ninS (Nat.ne_of_lt (Nat.lt_of_lt_of_le E_a.lt (Nat.le_of_eq g_2.symm))) (ninS (Nat.ne_of_lt (Nat.lt_of_lt_of_le (E_a.ext E_2).lt pfsz_d_3)) nin0))).ext E_7).keep Kc_8 (ninS (Nat.ne_of_lt (Nat.lt_of_lt_of_le E_a.lt (Nat.le_of_eq g_2.symm))) nin0)).keep Kc_9 (ninS (Nat.ne_of_lt (Nat.lt_of_lt_of_le E_a.lt (Nat.le_of_eq g_2.symm))) (ninS (Nat.ne_of_lt (Nat.lt_of_lt_of_le ((((((E_a.ext E_2).keep Kc_3).ext E_4).keep Kc_5).keep Kc_6).ext E_7).lt pfsz_d2_8)) nin0))).ext E_10).keep Kc_11 (ninS (Nat.ne_of_lt (Nat.lt_of_lt_of_le E_a.lt (Nat.le_of_eq g_2.symm))) (ninS (Nat.ne_of_lt (Nat.lt_of_lt_of_le ((((((E_a.ext E_2).keep Kc_3).ext E_4).keep Kc_5).keep Kc_6).ext E_7).lt pfsz_d2_8)) nin0))).keep Kc_12 nin0)
  obtain ⟨T_17, h_17, X_17, e_17, W_17, st_17⟩ := putF X_16 hx hZ_10 hown_10 (host := "") (Or.inl (ow hw 192 rfl)) Via.refl eh_16 Rt_7 (((((((((((E_a.ext E_2).keep Kc_3).ext E_4).keep Kc_5).keep Kc_6).ext E_7).keep Kc_8).keep Kc_9).ext E_10).keep Kc_11).keep Kc_12) (Or.inr ⟨(ow hw 193 rfl), rfl, hnm⟩) (ow hw 3 rfl) (ty := .int) (by decide) rfl rfl (g := (mkF mM 259 (lc25 a wd hg ox oy cw ch co g__12) [(.int wd), (.ref a)])) rfl rfl (hb hby d_prog_8m1_259)
  have Fw_17 := Rt_7.same W_17
  have Z_17 : n0 ≤ h_17.size := (Nat.le_trans Z_12 (Keep.of_wr W_17).1)
  have K_17 : Keep h0 h_17 [a] := K_12.wr W_17 (Or.inl (List.mem_of_getElem? (i := 0) rfl))
  have hk_17 : _ ≤ h_17.size := Nat.le_trans hk_12 (Keep.of_wr W_17).1
  have Ca_17 := CHr.wr W_17 (Safe.exa hZ_10.alike (((((((((((E_a.ext E_2).keep Kc_3).ext E_4).keep Kc_5).keep Kc_6).ext E_7).keep Kc_8).keep Kc_9).ext E_10).keep Kc_11).keep Kc_12) (by decide) (by decide)) CR_12.1
  have CR_17 := CR_12.trans Ca_17
  have Sf_d__3_17 := Ca_17.safe (Rt_6.keep Kc_12 nin0).lt Sf_d__3_12
  have Sf_d2__8_17 := Ca_17.safe (pfB_d_11.keep Kc_12 nin0).lt Sf_d2__8_12
  have N_17 := Fr.snoc X_17 N_16 g_a
  have Rt_8 := ((((((((((((F_height_a.ext E_2).keep Kc_3 (ninS (Nat.ne_of_lt (Nat.lt_of_lt_of_le E_a.lt (Nat.le_of_eq g_2.symm))) nin0)).ext E_4).keep Kc_5 (ninS (Nat.ne_of_lt (Nat.lt_of_lt_of_le E_a.lt (Nat.le_of_eq g_2.symm))) (ninS (Nat.ne_of_lt (Nat.lt_of_lt_of_le (E_a.ext E_2).lt pfsz_d_3)) nin0))).keep Kc_6 (ninS (Nat.ne_of_lt (Nat.lt_of_lt_of_le E_a.lt (Nat.le_of_eq g_2.symm))) (ninS (Nat.ne_of_lt (Nat.lt_of_lt_of_le (E_a.ext E_2).lt pfsz_d_3)) nin0))).ext E_7).keep Kc_8 (ninS (Nat.ne_of_lt (Nat.lt_of_lt_of_le E_a.lt (Nat.le_of_eq g_2.symm))) nin0)).keep Kc_9 (ninS (Nat.ne_of_lt (Nat.lt_of_lt_of_le E_a.lt (Nat.le_of_eq g_2.symm))) (ninS (Nat.ne_of_lt (Nat.lt_of_lt_of_le ((((((E_a.ext E_2).keep Kc_3).ext E_4).keep Kc_5).keep Kc_6).ext E_7).lt pfsz_d2_8)) nin0))).ext E_10).keep Kc_11 (ninS (Nat.ne_of_lt (Nat.lt_of_lt_of_le E_a.lt (Nat.le_of_eq g_2.symm))) (ninS (Nat.ne_of_lt (Nat.lt_of_lt_of_le ((((((E_a.ext E_2).keep Kc_3).ext E_4).keep Kc_5).keep Kc_6).ext E_7).lt pfsz_d2_8)) nin0))).keep Kc_12 nin0).other W_17 (Or.inr (slot_ne (Or.inr (ow hw 195 rfl)) (Or.inr (ow hw 193 rfl)) (by decide) (t := .int) (t' := .int) (by decide) (by decide))))
  obtain ⟨T_18, h_18, X_18, e_18, W_18, st_18⟩ := putF X_17 hx hZ_10 hown_10 (host := "") (Or.inl (ow hw 194 rfl)) Via.refl e_17 Rt_8 ((((((((((((E_a.ext E_2).keep Kc_3).ext E_4).keep Kc_5).keep Kc_6).ext E_7).keep Kc_8).keep Kc_9).ext E_10).keep Kc_11).keep Kc_12).wr W_17) (Or.inr ⟨(ow hw 195 rfl), rfl, hnm⟩) (ow hw 3 rfl) (ty := .int) (by decide) rfl rfl (g := (mkF mM 264 (lc25 a wd hg ox oy cw ch co g__12) [(.int hg), (.ref a)])) rfl rfl (hb hby d_prog_8m1_264)
  have Fw_18 := Rt_8.same W_18
  have Rt_9 := ((pfB_d_11.keep Kc_12 nin0).other W_17 (Ne.symm (Nat.ne_of_lt (Nat.lt_of_lt_of_le ((((((E_a.ext E_2).keep Kc_3).ext E_4).keep Kc_5).keep Kc_6).ext E_7).lt pfsz_d2_8))))
  have Z_18 : n0 ≤ h_18.size := (Nat.le_trans Z_17 (Keep.of_wr W_18).1)
  have K_18 : Keep h0 h_18 [a] := K_17.wr W_18 (Or.inl (List.mem_of_getElem? (i := 0) rfl))
  have hk_18 : _ ≤ h_18.size := Nat.le_trans hk_17 (Keep.of_wr W_18).1
  have Ca_18 := CHr.wr W_18 (Safe.exa hZ_10.alike ((((((((((((E_a.ext E_2).keep Kc_3).ext E_4).keep Kc_5).keep Kc_6).ext E_7).keep Kc_8).keep Kc_9).ext E_10).keep Kc_11).keep Kc_12).wr W_17) (by decide) (by decide)) CR_17.1
  have CR_18 := CR_17.trans Ca_18
  have Sf_d__3_18 := Ca_18.safe ((Rt_6.keep Kc_12 nin0).other W_17 (Ne.symm (Nat.ne_of_lt (Nat.lt_of_lt_of_le (E_a.ext E_2).lt pfsz_d_3)))).lt Sf_d__3_17
  have Sf_d2__8_18 := Ca_18.safe Rt_9.lt Sf_d2__8_17
  have N_18 := Fr.snoc X_18 N_17 g_a
  have Rt_10 := (((((((((((((F_originX_a.ext E_2).keep Kc_3 (ninS (Nat.ne_of_lt (Nat.lt_of_lt_of_le E_a.lt (Nat.le_of_eq g_2.symm))) nin0)).ext E_4).keep Kc_5 (ninS (Nat.ne_of_lt (Nat.lt_of_lt_of_le E_a.lt (Nat.le_of_eq g_2.symm))) (ninS (Nat.ne_of_lt (Nat.lt_of_lt_of_le (E_a.ext E_2).lt pfsz_d_3)) nin0))).keep Kc_6 (ninS (Nat.ne_of_lt (Nat.lt_of_lt_of_le E_a.lt (Nat.le_of_eq g_2.symm))) (ninS (Nat.ne_of_lt (Nat.lt_of_lt_of_le (E_a.ext E_2).lt pfsz_d_3)) nin0))).ext E_7).keep Kc_8 (ninS (Nat.ne_of_lt (Nat.lt_of_lt_of_le E_a.lt (Nat.le_of_eq g_2.symm))) nin0)).keep Kc_9 (ninS (Nat.ne_of_lt (Nat.lt_of_lt_of_le E_a.lt (Nat.le_of_eq g_2.symm))) (ninS (Nat.ne_of_lt (Nat.lt_of_lt_of_le ((((((E_a.ext E_2).keep Kc_3).ext E_4).keep Kc_5).keep Kc_6).ext E_7).lt pfsz_d2_8)) nin0))).ext E_10).keep Kc_11 (ninS (Nat.ne_of_lt (Nat.lt_of_lt_of_le E_a.lt (Nat.le_of_eq g_2.symm))) (ninS (Nat.ne_of_lt (Nat.lt_of_lt_of_le ((((((E_a.ext E_2).keep Kc_3).ext E_4).keep Kc_5).keep Kc_6).ext E_7).lt pfsz_d2_8)) nin0))).keep Kc_12 nin0).other W_17 (Or.inr (slot_ne (Or.inr (ow hw 197 rfl)) (Or.inr (ow hw 193 rfl)) (by decide) (t := .double) (t' := .int) (by decide) (by decide)))).other W_18 (Or.inr (slot_ne (Or.inr (ow hw 197 rfl)) (Or.inr (ow hw 195 rfl)) (by decide) (t := .double) (t' := .int) (by decide) (by decide))))
  obtain ⟨T_19, h_19, X_19, e_19, W_19, st_19⟩ := putF X_18 hx hZ_10 hown_10 (host := "") (Or.inl (ow hw 196 rfl)) Via.refl e_18 Rt_10 (((((((((((((E_a.ext E_2).keep Kc_3).ext E_4).keep Kc_5).keep Kc_6).ext E_7).keep Kc_8).keep Kc_9).ext E_10).keep Kc_11).keep Kc_12).wr W_17).wr W_18) (Or.inr ⟨(ow hw 197 rfl), rfl, hnm⟩) (ow hw 3 rfl) (ty := .double) (by decide) rfl rfl (g := (mkF mM 269 (lc25 a wd hg ox oy cw ch co g__12) [(.double ox), (.ref a)])) rfl rfl (hb hby d_prog_8m1_269)
  have Fw_19 := Rt_10.same W_19
  have Rt_11 := (((Rt_6.keep Kc_12 nin0).other W_17 (Ne.symm (Nat.ne_of_lt (Nat.lt_of_lt_of_le (E_a.ext E_2).lt pfsz_d_3)))).other W_18 (Ne.symm (Nat.ne_of_lt (Nat.lt_of_lt_of_le (E_a.ext E_2).lt pfsz_d_3))))
  have Z_19 : n0 ≤ h_19.size := (Nat.le_trans Z_18 (Keep.of_wr W_19).1)
  have K_19 : Keep h0 h_19 [a] := K_18.wr W_19 (Or.inl (List.mem_of_getElem? (i := 0) rfl))
  have hk_19 : _ ≤ h_19.size := Nat.le_trans hk_18 (Keep.of_wr W_19).1
  have Ca_19 := CHr.wr W_19 (Safe.exa hZ_10.alike (((((((((((((E_a.ext E_2).keep Kc_3).ext E_4).keep Kc_5).keep Kc_6).ext E_7).keep Kc_8).keep Kc_9).ext E_10).keep Kc_11).keep Kc_12).wr W_17).wr W_18) (by decide) (by decide)) CR_18.1
  have CR_19 := CR_18.trans Ca_19
  have Sf_d__3_19 := Ca_19.safe Rt_11.lt Sf_d__3_18
  have Sf_d2__8_19 := Ca_19.safe (Rt_9.other W_18 (Ne.symm (Nat.ne_of_lt (Nat.lt_of_lt_of_le ((((((E_a.ext E_2).keep Kc_3).ext E_4).keep Kc_5).keep Kc_6).ext E_7).lt pfsz_d2_8)))).lt Sf_d2__8_18
  have N_19 := Fr.snoc X_19 N_18 g_a
  have Rt_12 := ((((((((((((((F_originY_a.ext E_2).keep Kc_3 (ninS (Nat.ne_of_lt (Nat.lt_of_lt_of_le E_a.lt (Nat.le_of_eq g_2.symm))) nin0)).ext E_4).keep Kc_5 (ninS (Nat.ne_of_lt (Nat.lt_of_lt_of_le E_a.lt (Nat.le_of_eq g_2.symm))) (ninS (Nat.ne_of_lt (Nat.lt_of_lt_of_le (E_a.ext E_2).lt pfsz_d_3)) nin0))).keep Kc_6 (ninS (Nat.ne_of_lt (Nat.lt_of_lt_of_le E_a.lt (Nat.le_of_eq g_2.symm))) (ninS (Nat.ne_of_lt (Nat.lt_of_lt_of_le (E_a.ext E_2).lt pfsz_d_3)) nin0))).ext E_7).keep Kc_8 (ninS (Nat.ne_of_lt (Nat.lt_of_lt_of_le E_a.lt (Nat.le_of_eq g_2.symm))) nin0)).keep Kc_9 (ninS (Nat.ne_of_lt (Nat.lt_of_lt_of_le E_a.lt (Nat.le_of_eq g_2.symm))) (ninS (Nat.ne_of_lt (Nat.lt_of_lt_of_le ((((((E_a.ext E_2).keep Kc_3).ext E_4).keep Kc_5).keep Kc_6).ext E_7).lt pfsz_d2_8)) nin0))).ext E_10).keep Kc_11 (ninS (Nat.ne_of_lt (Nat.lt_of_lt_of_le E_a.lt (Nat.le_of_eq g_2.symm))) (ninS (Nat.ne_of_lt (Nat.lt_of_lt_of_le ((((((E_a.ext E_2).keep Kc_3).ext E_4).keep Kc_5).keep Kc_6).ext E_7).lt pfsz_d2_8)) nin0))).keep Kc_12 nin0).other W_17 (Or.inr (slot_ne (Or.inr (ow hw 199 rfl)) (Or.inr (ow hw 193 rfl)) (by decide) (t := .double) (t' := .int) (by decide) (by decide)))).other W_18 (Or.inr (slot_ne (Or.inr (ow hw 199 rfl)) (Or.inr (ow hw 195 rfl)) (by decide) (t := .double) (t' := .int) (by decide) (by decide)))).other W_19 (Or.inr (slot_ne (Or.inr (ow hw 199 rfl)) (Or.inr (ow hw 197 rfl)) (by decide) (t := .double) (t' := .double) (by decide) (by decide))))
  have Rt_13 := ((((((((((((((E_a.ext E_2).keep Kc_3).ext E_4).keep Kc_5).keep Kc_6).ext E_7).keep Kc_8).keep Kc_9).ext E_10).keep Kc_11).keep Kc_12).wr W_17).wr W_18).wr W_19)
  obtain ⟨T_20, h_20, X_20, e_20, W_20, st_20⟩ := putF X_19 hx hZ_10 hown_10 (host := "") (Or.inl (ow hw 198 rfl)) Via.refl e_19 Rt_12 Rt_13 (Or.inr ⟨(ow hw 199 rfl), rfl, hnm⟩) (ow hw 3 rfl) (ty := .double) (by decide) rfl rfl (g := (mkF mM 275 (lc25 a wd hg ox oy cw ch co g__12) [(.double oy), (.ref a)])) rfl rfl (hb hby d_prog_8m1_275)
  have Fw_20 := Rt_12.same W_20
  have Rt_14 := ((Rt_9.other W_18 (Ne.symm (Nat.ne_of_lt (Nat.lt_of_lt_of_le ((((((E_a.ext E_2).keep Kc_3).ext E_4).keep Kc_5).keep Kc_6).ext E_7).lt pfsz_d2_8)))).other W_19 (Ne.symm (Nat.ne_of_lt (Nat.lt_of_lt_of_le ((((((E_a.ext E_2).keep Kc_3).ext E_4).keep Kc_5).keep Kc_6).ext E_7).lt pfsz_d2_8))))
  have Z_20 : n0 ≤ h_20.size := (Nat.le_trans Z_19 (Keep.of_wr W_20).1)
  have K_20 : Keep h0 h_20 [a] := K_19.wr W_20 (Or.inl (List.mem_of_getElem? (i := 0) rfl))
  have hk_20 : _ ≤ h_20.size := Nat.le_trans hk_19 (Keep.of_wr W_20).1
  have Ca_20 := CHr.wr W_20 (Safe.exa hZ_10.alike Rt_13 (by decide) (by decide)) CR_19.1
  have CR_20 := CR_19.trans Ca_20
  have Sf_d__3_20 := Ca_20.safe (Rt_11.other W_19 (Ne.symm (Nat.ne_of_lt (Nat.lt_of_lt_of_le (E_a.ext E_2).lt pfsz_d_3)))).lt Sf_d__3_19
  have Sf_d2__8_20 := Ca_20.safe Rt_14.lt Sf_d2__8_19
  have N_20 := Fr.snoc X_20 N_19 g_a
  have Rt_15 := (((((((((((((((F_cellWidth_a.ext E_2).keep Kc_3 (ninS (Nat.ne_of_lt (Nat.lt_of_lt_of_le E_a.lt (Nat.le_of_eq g_2.symm))) nin0)).ext E_4).keep Kc_5 (ninS (Nat.ne_of_lt (Nat.lt_of_lt_of_le E_a.lt (Nat.le_of_eq g_2.symm))) (ninS (Nat.ne_of_lt (Nat.lt_of_lt_of_le (E_a.ext E_2).lt pfsz_d_3)) nin0))).keep Kc_6 (ninS (Nat.ne_of_lt (Nat.lt_of_lt_of_le E_a.lt (Nat.le_of_eq g_2.symm))) (ninS (Nat.ne_of_lt (Nat.lt_of_lt_of_le (E_a.ext E_2).lt pfsz_d_3)) nin0))).ext E_7).keep Kc_8 (ninS (Nat.ne_of_lt (Nat.lt_of_lt_of_le E_a.lt (Nat.le_of_eq g_2.symm))) nin0)).keep Kc_9 (ninS (Nat.ne_of_lt (Nat.lt_of_lt_of_le E_a.lt (Nat.le_of_eq g_2.symm))) (ninS (Nat.ne_of_lt (Nat.lt_of_lt_of_le ((((((E_a.ext E_2).keep Kc_3).ext E_4).keep Kc_5).keep Kc_6).ext E_7).lt pfsz_d2_8)) nin0))).ext E_10).keep Kc_11 (ninS (Nat.ne_of_lt (Nat.lt_of_lt_of_le E_a.lt (Nat.le_of_eq g_2.symm))) (ninS (Nat.ne_of_lt (Nat.lt_of_lt_of_le ((((((E_a.ext E_2).keep Kc_3).ext E_4).keep Kc_5).keep Kc_6).ext E_7).lt pfsz_d2_8)) nin0))).keep Kc_12 nin0).other W_17 (Or.inr (slot_ne (Or.inr (ow hw 201 rfl)) (Or.inr (ow hw 193 rfl)) (by decide) (t := .double) (t' := .int) (by decide) (by decide)))).other W_18 (Or.inr (slot_ne (Or.inr (ow hw 201 rfl)) (Or.inr (ow hw 195 rfl)) (by decide) (t := .double) (t' := .int) (by decide) (by decide)))).other W_19 (Or.inr (slot_ne (Or.inr (ow hw 201 rfl)) (Or.inr (ow hw 197 rfl)) (by decide) (t := .double) (t' := .double) (by decide) (by decide)))).other W_20 (Or.inr (slot_ne (Or.inr (ow hw 201 rfl)) (Or.inr (ow hw 199 rfl)) (by decide) (t := .double) (t' := .double) (by decide) (by decide))))
  obtain ⟨T_21, h_21, X_21, e_21, W_21, st_21⟩ := putF X_20 hx hZ_10 hown_10 (host := "") (Or.inl (ow hw 200 rfl)) Via.refl e_20 Rt_15 (Rt_13.wr W_20) (Or.inr ⟨(ow hw 201 rfl), rfl, hnm⟩) (ow hw 3 rfl) (ty := .double) (by decide) rfl rfl (g := (mkF mM 281 (lc25 a wd hg ox oy cw ch co g__12) [(.double cw), (.ref a)])) rfl rfl (hb hby d_prog_8m1_281)
  have Fw_21 := Rt_15.same W_21
  have Rt_16 := ((Rt_11.other W_19 (Ne.symm (Nat.ne_of_lt (Nat.lt_of_lt_of_le (E_a.ext E_2).lt pfsz_d_3)))).other W_20 (Ne.symm (Nat.ne_of_lt (Nat.lt_of_lt_of_le (E_a.ext E_2).lt pfsz_d_3))))
  have Z_21 : n0 ≤ h_21.size := (Nat.le_trans Z_20 (Keep.of_wr W_21).1)
  have K_21 : Keep h0 h_21 [a] := K_20.wr W_21 (Or.inl (List.mem_of_getElem? (i := 0) rfl))
  have hk_21 : _ ≤ h_21.size := Nat.le_trans hk_20 (Keep.of_wr W_21).1
  have Ca_21 := CHr.wr W_21 (Safe.exa hZ_10.alike (Rt_13.wr W_20) (by decide) (by decide)) CR_20.1
  have CR_21 := CR_20.trans Ca_21
  have Sf_d__3_21 := Ca_21.safe Rt_16.lt Sf_d__3_20
  have Sf_d2__8_21 := Ca_21.safe (Rt_14.other W_20 (Ne.symm (Nat.ne_of_lt (Nat.lt_of_lt_of_le ((((((E_a.ext E_2).keep Kc_3).ext E_4).keep Kc_5).keep Kc_6).ext E_7).lt pfsz_d2_8)))).lt Sf_d2__8_20
  have N_21 := Fr.snoc X_21 N_20 g_a
  have Rt_17 := ((((((((((((((((F_cellHeight_a.ext E_2).keep Kc_3 (ninS (Nat.ne_of_lt (Nat.lt_of_lt_of_le E_a.lt (Nat.le_of_eq g_2.symm))) nin0)).ext E_4).keep Kc_5 (ninS (Nat.ne_of_lt (Nat.lt_of_lt_of_le E_a.lt (Nat.le_of_eq g_2.symm))) (ninS (Nat.ne_of_lt (Nat.lt_of_lt_of_le (E_a.ext E_2).lt pfsz_d_3)) nin0))).keep Kc_6 (ninS (Nat.ne_of_lt (Nat.lt_of_lt_of_le E_a.lt (Nat.le_of_eq g_2.symm))) (ninS (Nat.ne_of_lt (Nat.lt_of_lt_of_le (E_a.ext E_2).lt pfsz_d_3)) nin0))).ext E_7).keep Kc_8 (ninS (Nat.ne_of_lt (Nat.lt_of_lt_of_le E_a.lt (Nat.le_of_eq g_2.symm))) nin0)).keep Kc_9 (ninS (Nat.ne_of_lt (Nat.lt_of_lt_of_le E_a.lt (Nat.le_of_eq g_2.symm))) (ninS (Nat.ne_of_lt (Nat.lt_of_lt_of_le ((((((E_a.ext E_2).keep Kc_3).ext E_4).keep Kc_5).keep Kc_6).ext E_7).lt pfsz_d2_8)) nin0))).ext E_10).keep Kc_11 (ninS (Nat.ne_of_lt (Nat.lt_of_lt_of_le E_a.lt (Nat.le_of_eq g_2.symm))) (ninS (Nat.ne_of_lt (Nat.lt_of_lt_of_le ((((((E_a.ext E_2).keep Kc_3).ext E_4).keep Kc_5).keep Kc_6).ext E_7).lt pfsz_d2_8)) nin0))).keep Kc_12 nin0).other W_17 (Or.inr (slot_ne (Or.inr (ow hw 203 rfl)) (Or.inr (ow hw 193 rfl)) (by decide) (t := .double) (t' := .int) (by decide) (by decide)))).other W_18 (Or.inr (slot_ne (Or.inr (ow hw 203 rfl)) (Or.inr (ow hw 195 rfl)) (by decide) (t := .double) (t' := .int) (by decide) (by decide)))).other W_19 (Or.inr (slot_ne (Or.inr (ow hw 203 rfl)) (Or.inr (ow hw 197 rfl)) (by decide) (t := .double) (t' := .double) (by decide) (by decide)))).other W_20 (Or.inr (slot_ne (Or.inr (ow hw 203 rfl)) (Or.inr (ow hw 199 rfl)) (by decide) (t := .double) (t' := .double) (by decide) (by decide)))).other W_21 (Or.inr (slot_ne (Or.inr (ow hw 203 rfl)) (Or.inr (ow hw 201 rfl)) (by decide) (t := .double) (t' := .double) (by decide) (by decide))))
  obtain ⟨T_22, h_22, X_22, e_22, W_22, st_22⟩ := putF X_21 hx hZ_10 hown_10 (host := "") (Or.inl (ow hw 202 rfl)) Via.refl e_21 Rt_17 ((Rt_13.wr W_20).wr W_21) (Or.inr ⟨(ow hw 203 rfl), rfl, hnm⟩) (ow hw 3 rfl) (ty := .double) (by decide) rfl rfl (g := (mkF mM 287 (lc25 a wd hg ox oy cw ch co g__12) [(.double ch), (.ref a)])) rfl rfl (hb hby d_prog_8m1_287)
  have Fw_22 := Rt_17.same W_22
  have Rt_18 := ((Rt_14.other W_20 (Ne.symm (Nat.ne_of_lt (Nat.lt_of_lt_of_le ((((((E_a.ext E_2).keep Kc_3).ext E_4).keep Kc_5).keep Kc_6).ext E_7).lt pfsz_d2_8)))).other W_21 (Ne.symm (Nat.ne_of_lt (Nat.lt_of_lt_of_le ((((((E_a.ext E_2).keep Kc_3).ext E_4).keep Kc_5).keep Kc_6).ext E_7).lt pfsz_d2_8))))
  have Z_22 : n0 ≤ h_22.size := (Nat.le_trans Z_21 (Keep.of_wr W_22).1)
  have K_22 : Keep h0 h_22 [a] := K_21.wr W_22 (Or.inl (List.mem_of_getElem? (i := 0) rfl))
  have hk_22 : _ ≤ h_22.size := Nat.le_trans hk_21 (Keep.of_wr W_22).1
  have Ca_22 := CHr.wr W_22 (Safe.exa hZ_10.alike ((Rt_13.wr W_20).wr W_21) (by decide) (by decide)) CR_21.1
  have CR_22 := CR_21.trans Ca_22
  have Sf_d__3_22 := Ca_22.safe (Rt_16.other W_21 (Ne.symm (Nat.ne_of_lt (Nat.lt_of_lt_of_le (E_a.ext E_2).lt pfsz_d_3)))).lt Sf_d__3_21
  have Sf_d2__8_22 := Ca_22.safe Rt_18.lt Sf_d2__8_21
  have N_22 := Fr.snoc X_22 N_21 g_a
  have Rt_19 := (((((((((((((((((F_coordinates_a.ext E_2).keep Kc_3 (ninS (Nat.ne_of_lt (Nat.lt_of_lt_of_le E_a.lt (Nat.le_of_eq g_2.symm))) nin0)).ext E_4).keep Kc_5 (ninS (Nat.ne_of_lt (Nat.lt_of_lt_of_le E_a.lt (Nat.le_of_eq g_2.symm))) (ninS (Nat.ne_of_lt (Nat.lt_of_lt_of_le (E_a.ext E_2).lt pfsz_d_3)) nin0))).keep Kc_6 (ninS (Nat.ne_of_lt (Nat.lt_of_lt_of_le E_a.lt (Nat.le_of_eq g_2.symm))) (ninS (Nat.ne_of_lt (Nat.lt_of_lt_of_le (E_a.ext E_2).lt pfsz_d_3)) nin0))).ext E_7).keep Kc_8 (ninS (Nat.ne_of_lt (Nat.lt_of_lt_of_le E_a.lt (Nat.le_of_eq g_2.symm))) nin0)).keep Kc_9 (ninS (Nat.ne_of_lt (Nat.lt_of_lt_of_le E_a.lt (Nat.le_of_eq g_2.symm))) (ninS (Nat.ne_of_lt (Nat.lt_of_lt_of_le ((((((E_a.ext E_2).keep Kc_3).ext E_4).keep Kc_5).keep Kc_6).ext E_7).lt pfsz_d2_8)) nin0))).ext E_10).keep Kc_11 (ninS (Nat.ne_of_lt (Nat.lt_of_lt_of_le E_a.lt (Nat.le_of_eq g_2.symm))) (ninS (Nat.ne_of_lt (Nat.lt_of_lt_of_le ((((((E_a.ext E_2).keep Kc_3).ext E_4).keep Kc_5).keep Kc_6).ext E_7).lt pfsz_d2_8)) nin0))).keep Kc_12 nin0).other W_17 (Or.inr (slot_ne (Or.inr (ow hw 205 rfl)) (Or.inr (ow hw 193 rfl)) (by decide) (t := (.object "com/example/greenweft/greenweft/map/Coordinates")) (t' := .int) (by decide) (by decide)))).other W_18 (Or.inr (slot_ne (Or.inr (ow hw 205 rfl)) (Or.inr (ow hw 195 rfl)) (by decide) (t := (.object "com/example/greenweft/greenweft/map/Coordinates")) (t' := .int) (by decide) (by decide)))).other W_19 (Or.inr (slot_ne (Or.inr (ow hw 205 rfl)) (Or.inr (ow hw 197 rfl)) (by decide) (t := (.object "com/example/greenweft/greenweft/map/Coordinates")) (t' := .double) (by decide) (by decide)))).other W_20 (Or.inr (slot_ne (Or.inr (ow hw 205 rfl)) (Or.inr (ow hw 199 rfl)) (by decide) (t := (.object "com/example/greenweft/greenweft/map/Coordinates")) (t' := .double) (by decide) (by decide)))).other W_21 (Or.inr (slot_ne (Or.inr (ow hw 205 rfl)) (Or.inr (ow hw 201 rfl)) (by decide) (t := (.object "com/example/greenweft/greenweft/map/Coordinates")) (t' := .double) (by decide) (by decide)))).other W_22 (Or.inr (slot_ne (Or.inr (ow hw 205 rfl)) (Or.inr (ow hw 203 rfl)) (by decide) (t := (.object "com/example/greenweft/greenweft/map/Coordinates")) (t' := .double) (by decide) (by decide))))
  obtain ⟨T_23, h_23, X_23, e_23, W_23, st_23⟩ := putF X_22 hx hZ_10 hown_10 (host := "") (Or.inl (ow hw 204 rfl)) Via.refl e_22 Rt_19 (((Rt_13.wr W_20).wr W_21).wr W_22) (Or.inr ⟨(ow hw 205 rfl), rfl, hnm⟩) (ow hw 3 rfl) (ty := (.object "com/example/greenweft/greenweft/map/Coordinates")) (by decide) rfl rfl (g := (mkF mM 293 (lc25 a wd hg ox oy cw ch co g__12) [(.ref co), (.ref a)])) rfl rfl (hb hby d_prog_8m1_293)
  have Fw_23 := Rt_19.same W_23
  have Rt_20 := ((Rt_16.other W_21 (Ne.symm (Nat.ne_of_lt (Nat.lt_of_lt_of_le (E_a.ext E_2).lt pfsz_d_3)))).other W_22 (Ne.symm (Nat.ne_of_lt (Nat.lt_of_lt_of_le (E_a.ext E_2).lt pfsz_d_3))))
  have Z_23 : n0 ≤ h_23.size := (Nat.le_trans Z_22 (Keep.of_wr W_23).1)
  have K_23 : Keep h0 h_23 [a] := K_22.wr W_23 (Or.inl (List.mem_of_getElem? (i := 0) rfl))
  have hk_23 : _ ≤ h_23.size := Nat.le_trans hk_22 (Keep.of_wr W_23).1
  have Ca_23 := CHr.wr W_23 (Safe.exa hZ_10.alike (((Rt_13.wr W_20).wr W_21).wr W_22) (by decide) (by decide)) CR_22.1
  have CR_23 := CR_22.trans Ca_23
  have Sf_d__3_23 := Ca_23.safe Rt_20.lt Sf_d__3_22
  have Sf_d2__8_23 := Ca_23.safe (Rt_18.other W_22 (Ne.symm (Nat.ne_of_lt (Nat.lt_of_lt_of_le ((((((E_a.ext E_2).keep Kc_3).ext E_4).keep Kc_5).keep Kc_6).ext E_7).lt pfsz_d2_8)))).lt Sf_d2__8_22
  have N_23 := Fr.snoc X_23 N_22 g_a
  have hCF : CHr Z own_EL sS.vm sS.heap T_23.vm T_23.heap := by rw [hh, e_23]; exact CR_23.trans (CHv.at X_23 hZ_10 (own_EW hw) CR_23.1)
  obtain ⟨fs, hr, hrun, hended, hRE⟩ := X_23.leaveW hS_10 (show _ ≤ T_23.heap.size by rw [e_23]; exact hk_23) (v := none) (fun _ => rfl)
  refine ⟨_, _, pre0 _ ?_, hrun, hended, _, _, rfl, ?_, hCF, ⟨_, rfl⟩, hRE.2.1, hRE.2.2.1, hRE.2.2.2.mono (by decide) (by decide)⟩
  · show oS pP eE below s₁ (mkF mM 0 (lc24 a wd hg ox oy cw ch co) []) _
    refine XS.aloadN X0.here hx rfl (hb hby d_prog_8m1_0) rfl rfl ?_
    show oS pP eE below s₁ (mkF mM 1 (lc24 a wd hg ox oy cw ch co) [(.ref a)]) _
    refine st_1.trans ?_
    show oS pP eE below T_1 (mkF mM 4 (lc24 a wd hg ox oy cw ch co) []) _
    refine st_2 _ ?_
    show oS pP eE below T_2 (mkF mM 7 (lc24 a wd hg ox oy cw ch co) [(.ref b_2)]) _
    refine XS.dup X_2.here hx rfl (hb hby d_prog_8m1_7) rfl rfl ?_
    show oS pP eE below T_2 (mkF mM 8 (lc24 a wd hg ox oy cw ch co) [(.ref b_2), (.ref b_2)]) _
    refine st_3.trans ?_
    show oS pP eE below T_3 (mkF mM 11 (lc24 a wd hg ox oy cw ch co) [(.ref b_2)]) _
    refine st_4 _ ?_
    show oS pP eE below T_4 (mkF mM 13 (lc24 a wd hg ox oy cw ch co) [(.ref a_4), (.ref b_2)]) _
    refine st_5.trans ?_
    show oS pP eE below T_5 (mkF mM 16 (lc24 a wd hg ox oy cw ch co) [(.ref b_2)]) _
    refine XS.iloadN X_5.here hx rfl (hb hby d_prog_8m1_16) rfl ?_
    show oS pP eE below T_5 (mkF mM 17 (lc24 a wd hg ox oy cw ch co) [(.int wd), (.ref b_2)]) _
    refine st_6.trans ?_
    show oS pP eE below T_6 (mkF mM 20 (lc24 a wd hg ox oy cw ch co) [(.ref b_2)]) _
    refine st_7 _ ?_
    show oS pP eE below T_7 (mkF mM 22 (lc24 a wd hg ox oy cw ch co) [(.ref a_7), (.ref b_2)]) _
    refine st_8.trans ?_
    show oS pP eE below T_8 (mkF mM 25 (lc24 a wd hg ox oy cw ch co) [(.ref b_2)]) _
    refine XS.iloadN X_8.here hx rfl (hb hby d_prog_8m1_25) rfl ?_
    show oS pP eE below T_8 (mkF mM 26 (lc24 a wd hg ox oy cw ch co) [(.int hg), (.ref b_2)]) _
    refine st_9.trans ?_
    show oS pP eE below T_9 (mkF mM 29 (lc24 a wd hg ox oy cw ch co) [(.ref b_2)]) _
    refine st_10 _ ?_
    show oS pP eE below T_10 (mkF mM 31 (lc24 a wd hg ox oy cw ch co) [(.ref a_10), (.ref b_2)]) _
    refine st_11.trans ?_
    show oS pP eE below T_11 (mkF mM 34 (lc24 a wd hg ox oy cw ch co) [(.ref b_2)]) _
    refine st_12.trans ?_
    show oS pP eE below T_12 (mkF mM 37 (lc24 a wd hg ox oy cw ch co) [(.ref g__12)]) _
    refine XS.astore X_12.here hx rfl (hb hby d_prog_8m1_37) rfl rfl (l' := (lc25 a wd hg ox oy cw ch co g__12)) rfl ?_
    refine XS.iloadN X_12.here hx rfl (hb hby d_prog_8m1_39) rfl ?_
    refine XS.iconst X_12.here hx rfl (hb hby d_prog_8m1_40) ?_
    refine XS.icmpNo X_12.here hx rfl (hb hby d_prog_8m1_41) rfl (XT.ii_lt_f hw1) ?_
    refine XS.iloadN X_12.here hx rfl (hb hby d_prog_8m1_44) rfl ?_
    refine XS.iconst X_12.here hx rfl (hb hby d_prog_8m1_45) ?_
    refine XS.icmpYes X_12.here hx rfl (pc0 := 46) (pc' := 77) rfl (hb hby d_prog_8m1_46) rfl (XT.ii_ge_t hh1) (by decide) (by decide) ?_
    refine XS.iloadN X_12.here hx rfl (hb hby d_prog_8m1_77) rfl ?_
    show oS pP eE below T_12 (mkF mM 78 (lc25 a wd hg ox oy cw ch co g__12) [(.int wd)]) _
    refine XT.i2l X_12.here hx rfl (hb hby d_prog_8m1_78) rfl ?_
    refine XS.iloadN X_12.here hx rfl (hb hby d_prog_8m1_79) rfl ?_
    show oS pP eE below T_12 (mkF mM 80 (lc25 a wd hg ox oy cw ch co g__12) [(.int hg), (.long (wd.toInt64))]) _
    refine XT.i2l X_12.here hx rfl (hb hby d_prog_8m1_80) rfl ?_
    show oS pP eE below T_12 (mkF mM 81 (lc25 a wd hg ox oy cw ch co g__12) [(.long (hg.toInt64)), (.long (wd.toInt64))]) _
    refine XT.lmul X_12.here hx rfl (hb hby d_prog_8m1_81) rfl ?_
    show oS pP eE below T_12 (mkF mM 82 (lc25 a wd hg ox oy cw ch co g__12) [(.long ((wd.toInt64) * (hg.toInt64)))]) _
    refine X_12.ldc2J hx hown_10 (mvT hZ_10 (ow hw 183 rfl)) (g := (mkF mM 82 (lc25 a wd hg ox oy cw ch co g__12) [(.long ((wd.toInt64) * (hg.toInt64)))])) rfl (hb hby d_prog_8m1_82) ?_
    show oS pP eE below T_12 (mkF mM 85 (lc25 a wd hg ox oy cw ch co g__12) [(.long (2147483647 : Int64)), (.long ((wd.toInt64) * (hg.toInt64)))]) _
    refine XT.lcmp X_12.here hx rfl (hb hby d_prog_8m1_85) rfl ?_
    refine XS.ifYes X_12.here hx rfl (pc0 := 86) (pc' := 127) rfl (hb hby d_prog_8m1_86) rfl (XT.ll_le_t hmx) (by decide) (by decide) ?_
    show oS pP eE below T_12 (mkF mM 127 (lc25 a wd hg ox oy cw ch co g__12) []) _
    refine XS.dloadN X_12.here hx rfl (hb hby d_prog_8m1_127) rfl ?_
    show oS pP eE below T_12 (mkF mM 128 (lc25 a wd hg ox oy cw ch co g__12) [(.double ox)]) _
    refine st_13 _ ?_
    show oS pP eE below T_13 (mkF mM 131 (lc25 a wd hg ox oy cw ch co g__12) [(.int (1 : Int32))]) _
    refine XS.ifNo X_13.here hx rfl (hb hby d_prog_8m1_131) rfl (by decide) ?_
    show oS pP eE below T_13 (mkF mM 134 (lc25 a wd hg ox oy cw ch co g__12) []) _
    refine XS.dload X_13.here hx rfl (hb hby d_prog_8m1_134) rfl ?_
    show oS pP eE below T_13 (mkF mM 136 (lc25 a wd hg ox oy cw ch co g__12) [(.double oy)]) _
    refine st_14 _ ?_
    show oS pP eE below T_14 (mkF mM 139 (lc25 a wd hg ox oy cw ch co g__12) [(.int (1 : Int32))]) _
    refine XS.ifYes X_14.here hx rfl (pc0 := 139) (pc' := 184) rfl (hb hby d_prog_8m1_139) rfl (by decide) (by decide) (by decide) ?_
    show oS pP eE below T_14 (mkF mM 184 (lc25 a wd hg ox oy cw ch co g__12) []) _
    refine XS.dload X_14.here hx rfl (hb hby d_prog_8m1_184) rfl ?_
    show oS pP eE below T_14 (mkF mM 186 (lc25 a wd hg ox oy cw ch co g__12) [(.double cw)]) _
    refine XS.dconst0 X_14.here hx rfl (v := (0 : UInt64)) (hb hby d_prog_8m1_186) rfl ?_
    show oS pP eE below T_14 (mkF mM 187 (lc25 a wd hg ox oy cw ch co g__12) [(.double (0 : UInt64)), (.double cw)]) _
    refine XS.dcmpS X_14.here hx rfl (hb hby d_prog_8m1_187) rfl rfl ?_
    refine XS.ifNo X_14.here hx rfl (hb hby d_prog_8m1_188) rfl (XT.i0_le_f pscw) ?_
    show oS pP eE below T_14 (mkF mM 191 (lc25 a wd hg ox oy cw ch co g__12) []) _
    refine XS.dload X_14.here hx rfl (hb hby d_prog_8m1_191) rfl ?_
    show oS pP eE below T_14 (mkF mM 193 (lc25 a wd hg ox oy cw ch co g__12) [(.double ch)]) _
    refine XS.dconst0 X_14.here hx rfl (v := (0 : UInt64)) (hb hby d_prog_8m1_193) rfl ?_
    show oS pP eE below T_14 (mkF mM 194 (lc25 a wd hg ox oy cw ch co g__12) [(.double (0 : UInt64)), (.double ch)]) _
    refine XS.dcmpS X_14.here hx rfl (hb hby d_prog_8m1_194) rfl rfl ?_
    refine XS.ifNo X_14.here hx rfl (hb hby d_prog_8m1_195) rfl (XT.i0_le_f psch) ?_
    show oS pP eE below T_14 (mkF mM 198 (lc25 a wd hg ox oy cw ch co g__12) []) _
    refine XS.dload X_14.here hx rfl (hb hby d_prog_8m1_198) rfl ?_
    show oS pP eE below T_14 (mkF mM 200 (lc25 a wd hg ox oy cw ch co g__12) [(.double cw)]) _
    refine st_15 _ ?_
    show oS pP eE below T_15 (mkF mM 203 (lc25 a wd hg ox oy cw ch co g__12) [(.int (1 : Int32))]) _
    refine XS.ifNo X_15.here hx rfl (hb hby d_prog_8m1_203) rfl (by decide) ?_
    show oS pP eE below T_15 (mkF mM 206 (lc25 a wd hg ox oy cw ch co g__12) []) _
    refine XS.dload X_15.here hx rfl (hb hby d_prog_8m1_206) rfl ?_
    show oS pP eE below T_15 (mkF mM 208 (lc25 a wd hg ox oy cw ch co g__12) [(.double ch)]) _
    refine st_16 _ ?_
    show oS pP eE below T_16 (mkF mM 211 (lc25 a wd hg ox oy cw ch co g__12) [(.int (1 : Int32))]) _
    refine XS.ifYes X_16.here hx rfl (pc0 := 211) (pc' := 257) rfl (hb hby d_prog_8m1_211) rfl (by decide) (by decide) (by decide) ?_
    refine XS.aloadN X_16.here hx rfl (hb hby d_prog_8m1_257) rfl rfl ?_
    refine XS.iloadN X_16.here hx rfl (hb hby d_prog_8m1_258) rfl ?_
    show oS pP eE below T_16 (mkF mM 259 (lc25 a wd hg ox oy cw ch co g__12) [(.int wd), (.ref a)]) _
    refine st_17 _ ?_
    show oS pP eE below T_17 (mkF mM 262 (lc25 a wd hg ox oy cw ch co g__12) []) _
    refine XS.aloadN X_17.here hx rfl (hb hby d_prog_8m1_262) rfl rfl ?_
    refine XS.iloadN X_17.here hx rfl (hb hby d_prog_8m1_263) rfl ?_
    show oS pP eE below T_17 (mkF mM 264 (lc25 a wd hg ox oy cw ch co g__12) [(.int hg), (.ref a)]) _
    refine st_18 _ ?_
    show oS pP eE below T_18 (mkF mM 267 (lc25 a wd hg ox oy cw ch co g__12) []) _
    refine XS.aloadN X_18.here hx rfl (hb hby d_prog_8m1_267) rfl rfl ?_
    show oS pP eE below T_18 (mkF mM 268 (lc25 a wd hg ox oy cw ch co g__12) [(.ref a)]) _
    refine XS.dloadN X_18.here hx rfl (hb hby d_prog_8m1_268) rfl ?_
    show oS pP eE below T_18 (mkF mM 269 (lc25 a wd hg ox oy cw ch co g__12) [(.double ox), (.ref a)]) _
    refine st_19 _ ?_
    show oS pP eE below T_19 (mkF mM 272 (lc25 a wd hg ox oy cw ch co g__12) []) _
    refine XS.aloadN X_19.here hx rfl (hb hby d_prog_8m1_272) rfl rfl ?_
    show oS pP eE below T_19 (mkF mM 273 (lc25 a wd hg ox oy cw ch co g__12) [(.ref a)]) _
    refine XS.dload X_19.here hx rfl (hb hby d_prog_8m1_273) rfl ?_
    show oS pP eE below T_19 (mkF mM 275 (lc25 a wd hg ox oy cw ch co g__12) [(.double oy), (.ref a)]) _
    refine st_20 _ ?_
    show oS pP eE below T_20 (mkF mM 278 (lc25 a wd hg ox oy cw ch co g__12) []) _
    refine XS.aloadN X_20.here hx rfl (hb hby d_prog_8m1_278) rfl rfl ?_
    show oS pP eE below T_20 (mkF mM 279 (lc25 a wd hg ox oy cw ch co g__12) [(.ref a)]) _
    refine XS.dload X_20.here hx rfl (hb hby d_prog_8m1_279) rfl ?_
    show oS pP eE below T_20 (mkF mM 281 (lc25 a wd hg ox oy cw ch co g__12) [(.double cw), (.ref a)]) _
    refine st_21 _ ?_
    show oS pP eE below T_21 (mkF mM 284 (lc25 a wd hg ox oy cw ch co g__12) []) _
    refine XS.aloadN X_21.here hx rfl (hb hby d_prog_8m1_284) rfl rfl ?_
    show oS pP eE below T_21 (mkF mM 285 (lc25 a wd hg ox oy cw ch co g__12) [(.ref a)]) _
    refine XS.dload X_21.here hx rfl (hb hby d_prog_8m1_285) rfl ?_
    show oS pP eE below T_21 (mkF mM 287 (lc25 a wd hg ox oy cw ch co g__12) [(.double ch), (.ref a)]) _
    refine st_22 _ ?_
    show oS pP eE below T_22 (mkF mM 290 (lc25 a wd hg ox oy cw ch co g__12) []) _
    refine XS.aloadN X_22.here hx rfl (hb hby d_prog_8m1_290) rfl rfl ?_
    refine XS.aload X_22.here hx rfl (hb hby d_prog_8m1_291) rfl rfl ?_
    show oS pP eE below T_22 (mkF mM 293 (lc25 a wd hg ox oy cw ch co g__12) [(.ref co), (.ref a)]) _
    refine st_23 _ ?_
    show oS pP eE below T_23 (mkF mM 296 (lc25 a wd hg ox oy cw ch co g__12) []) _
    exact X_23.returnOut hx Bd.returns (hb hby d_prog_8m1_296) hr
  · show Q_gi Z a wd hg ox oy cw ch co o1 o2 k2 k3 k4 k5 cs h0 n0 _ T_23.heap _
    rw [e_23]
    exact ⟨rfl, N_23, K_23, ((((((Fw_17.other W_18 (Or.inr (slot_ne (Or.inr (ow hw 193 rfl)) (Or.inr (ow hw 195 rfl)) (by decide) (t := .int) (t' := .int) (by decide) (by decide)))).other W_19 (Or.inr (slot_ne (Or.inr (ow hw 193 rfl)) (Or.inr (ow hw 197 rfl)) (by decide) (t := .int) (t' := .double) (by decide) (by decide)))).other W_20 (Or.inr (slot_ne (Or.inr (ow hw 193 rfl)) (Or.inr (ow hw 199 rfl)) (by decide) (t := .int) (t' := .double) (by decide) (by decide)))).other W_21 (Or.inr (slot_ne (Or.inr (ow hw 193 rfl)) (Or.inr (ow hw 201 rfl)) (by decide) (t := .int) (t' := .double) (by decide) (by decide)))).other W_22 (Or.inr (slot_ne (Or.inr (ow hw 193 rfl)) (Or.inr (ow hw 203 rfl)) (by decide) (t := .int) (t' := .double) (by decide) (by decide)))).other W_23 (Or.inr (slot_ne (Or.inr (ow hw 193 rfl)) (Or.inr (ow hw 205 rfl)) (by decide) (t := .int) (t' := (.object "com/example/greenweft/greenweft/map/Coordinates")) (by decide) (by decide)))), (((((Fw_18.other W_19 (Or.inr (slot_ne (Or.inr (ow hw 195 rfl)) (Or.inr (ow hw 197 rfl)) (by decide) (t := .int) (t' := .double) (by decide) (by decide)))).other W_20 (Or.inr (slot_ne (Or.inr (ow hw 195 rfl)) (Or.inr (ow hw 199 rfl)) (by decide) (t := .int) (t' := .double) (by decide) (by decide)))).other W_21 (Or.inr (slot_ne (Or.inr (ow hw 195 rfl)) (Or.inr (ow hw 201 rfl)) (by decide) (t := .int) (t' := .double) (by decide) (by decide)))).other W_22 (Or.inr (slot_ne (Or.inr (ow hw 195 rfl)) (Or.inr (ow hw 203 rfl)) (by decide) (t := .int) (t' := .double) (by decide) (by decide)))).other W_23 (Or.inr (slot_ne (Or.inr (ow hw 195 rfl)) (Or.inr (ow hw 205 rfl)) (by decide) (t := .int) (t' := (.object "com/example/greenweft/greenweft/map/Coordinates")) (by decide) (by decide)))), ((((Fw_19.other W_20 (Or.inr (slot_ne (Or.inr (ow hw 197 rfl)) (Or.inr (ow hw 199 rfl)) (by decide) (t := .double) (t' := .double) (by decide) (by decide)))).other W_21 (Or.inr (slot_ne (Or.inr (ow hw 197 rfl)) (Or.inr (ow hw 201 rfl)) (by decide) (t := .double) (t' := .double) (by decide) (by decide)))).other W_22 (Or.inr (slot_ne (Or.inr (ow hw 197 rfl)) (Or.inr (ow hw 203 rfl)) (by decide) (t := .double) (t' := .double) (by decide) (by decide)))).other W_23 (Or.inr (slot_ne (Or.inr (ow hw 197 rfl)) (Or.inr (ow hw 205 rfl)) (by decide) (t := .double) (t' := (.object "com/example/greenweft/greenweft/map/Coordinates")) (by decide) (by decide)))), (((Fw_20.other W_21 (Or.inr (slot_ne (Or.inr (ow hw 199 rfl)) (Or.inr (ow hw 201 rfl)) (by decide) (t := .double) (t' := .double) (by decide) (by decide)))).other W_22 (Or.inr (slot_ne (Or.inr (ow hw 199 rfl)) (Or.inr (ow hw 203 rfl)) (by decide) (t := .double) (t' := .double) (by decide) (by decide)))).other W_23 (Or.inr (slot_ne (Or.inr (ow hw 199 rfl)) (Or.inr (ow hw 205 rfl)) (by decide) (t := .double) (t' := (.object "com/example/greenweft/greenweft/map/Coordinates")) (by decide) (by decide)))), ((Fw_21.other W_22 (Or.inr (slot_ne (Or.inr (ow hw 201 rfl)) (Or.inr (ow hw 203 rfl)) (by decide) (t := .double) (t' := .double) (by decide) (by decide)))).other W_23 (Or.inr (slot_ne (Or.inr (ow hw 201 rfl)) (Or.inr (ow hw 205 rfl)) (by decide) (t := .double) (t' := (.object "com/example/greenweft/greenweft/map/Coordinates")) (by decide) (by decide)))), (Fw_22.other W_23 (Or.inr (slot_ne (Or.inr (ow hw 203 rfl)) (Or.inr (ow hw 205 rfl)) (by decide) (t := .double) (t' := (.object "com/example/greenweft/greenweft/map/Coordinates")) (by decide) (by decide)))), Fw_23, ((((Rt_13.wr W_20).wr W_21).wr W_22).wr W_23)⟩
theorem ef_giB (mM : MethodId) (x0 : Addr) (x1 : Int32) (x2 : Int32) (x3 : UInt64) (x4 : UInt64) (x5 : UInt64) (x6 : UInt64) (x7 : Addr) : entryFrame mM #[(.ref x0), (.int x1), (.int x2), (.double x3), (.double x4), (.double x5), (.double x6), (.ref x7)] 13 = mkF mM 0 #[.val (.ref x0), .val (.int x1), .val (.int x2), .val (.double x3), .second, .val (.double x4), .second, .val (.double x5), .second, .val (.double x6), .second, .val (.ref x7), .unset] [] := by first | (simp [entryFrame, mkF, argsToLocals, Value.category]; done) | rfl
set_option maxRecDepth 65536 in
set_option maxHeartbeats 40000000 in
theorem rm_giB (l : Launch) (Z : State) (a0 : Array Value) (hw : ∀ d ∈ tables_1, d.before a0 Z = true) (ws : List Jvm.Cond) (a : Addr) (wd : Int32) (hg : Int32) (ox : UInt64) (oy : UInt64) (cw : UInt64) (ch : UInt64) (co : Addr) (o1 : Addr) (o2 : Addr) (k2 : Int32) (k3 : Int32) (k4 : Int32) (k5 : Int32) (cs : Int32) (h0 : Heap) (n0 : Nat) (Z0 : n0 ≤ h0.size) (F_width_a : Fld Z h0 a "com/example/greenweft/greenweft/map/Grid" "width" "I" (.int (0 : Int32))) (F_height_a : Fld Z h0 a "com/example/greenweft/greenweft/map/Grid" "height" "I" (.int (0 : Int32))) (F_originX_a : Fld Z h0 a "com/example/greenweft/greenweft/map/Grid" "originX" "D" (.double (0 : UInt64))) (F_originY_a : Fld Z h0 a "com/example/greenweft/greenweft/map/Grid" "originY" "D" (.double (0 : UInt64))) (F_cellWidth_a : Fld Z h0 a "com/example/greenweft/greenweft/map/Grid" "cellWidth" "D" (.double (0 : UInt64))) (F_cellHeight_a : Fld Z h0 a "com/example/greenweft/greenweft/map/Grid" "cellHeight" "D" (.double (0 : UInt64))) (F_coordinates_a : Fld Z h0 a "com/example/greenweft/greenweft/map/Grid" "coordinates" "Lcom/example/greenweft/greenweft/map/Coordinates;" .null) (E_a : Exa Z h0 a "com/example/greenweft/greenweft/map/Grid") (g_a : n0 ≤ a) (S_Integer_DigitOnes : Sta Z h0 "java/lang/Integer" "DigitOnes" "[B" (.ref o1)) (S_Integer_DigitTens : Sta Z h0 "java/lang/Integer" "DigitTens" "[B" (.ref o2)) (B_o1 : own_B Z h0 o1 (100 : Int32)) (B_o2 : own_B Z h0 o2 (100 : Int32)) (S_String_COMPACT_STRINGS : Sta Z h0 "java/lang/String" "COMPACT_STRINGS" "Z" (.int cs)) (hcs : ¬ cs = 0) (hiw : own_i5 wd) (hih : own_i5 hg) (hw1 : ¬ wd < (1 : Int32)) (hh1 : ¬ hg < (1 : Int32)) (hmx : ¬ (2147483647 : Int64) < ((wd.toInt64) * (hg.toInt64))) (nnox : Jvm.Free.Fl.NoNaN64 ox) (fiox : ¬ 0 < (cmpValue (FP.dcmp (ox &&& (9223372036854775807 : UInt64)) (9218868437227405311 : UInt64)) .g)) (nnoy : Jvm.Free.Fl.NoNaN64 oy) (fioy : ¬ 0 < (cmpValue (FP.dcmp (oy &&& (9223372036854775807 : UInt64)) (9218868437227405311 : UInt64)) .g)) (nncw : Jvm.Free.Fl.NoNaN64 cw) (ficw : ¬ 0 < (cmpValue (FP.dcmp (cw &&& (9223372036854775807 : UInt64)) (9218868437227405311 : UInt64)) .g)) (nnch : Jvm.Free.Fl.NoNaN64 ch) (fich : ¬ 0 < (cmpValue (FP.dcmp (ch &&& (9223372036854775807 : UInt64)) (9218868437227405311 : UInt64)) .g)) (pscw : 0 < (cmpValue (FP.dcmp cw (0 : UInt64)) .l)) (psch : 0 < (cmpValue (FP.dcmp ch (0 : UInt64)) .l)) (hk2 : ((10 : Int32) + (own_sz wd)) = k2) (hk3 : (k2 + (3 : Int32)) = k3) (hk4 : (k3 + (own_sz hg)) = k4) (hk5 : (k4 + (6 : Int32)) = k5) (no0 : ¬ 0 < ((10 : Int32) - (16 : Int32))) (cp0 : own_cp (0 : Int32) (0 : Int32) (10 : Int32) (10 : Int32) (16 : Int32)) (no1 : ¬ 0 < (k2 - (16 : Int32))) (ft1 : own_fit wd k2 (16 : Int32)) (no2 : ¬ 0 < (k3 - (16 : Int32))) (cp2 : own_cp (0 : Int32) k2 (3 : Int32) (3 : Int32) (16 : Int32)) (gt3 : 0 < (k4 - (16 : Int32))) (lt3 : (k4 - (16 : Int32)) < (18 : Int32)) (ft3 : own_fit hg k4 (34 : Int32)) (no4 : ¬ 0 < (k5 - (34 : Int32))) (cp4 : own_cp (0 : Int32) k4 (6 : Int32) (6 : Int32) (34 : Int32)) (tz0 : ¬ k5 < 0) (tz1 : k5 < (34 : Int32)) (tz2 : k5.toNatClampNeg ≤ 34) (tz3 : own_cp (0 : Int32) (0 : Int32) k5 (34 : Int32) k5) (tz4 : ¬ k5 = (34 : Int32)) :
    MetFree l (⟨"com/example/greenweft/greenweft/map/Grid", "<init>", "(IIDDDDLcom/example/greenweft/greenweft/map/Coordinates;)V"⟩ : MethodName) (head1 (Jvm.Cond.code (⟨"com/example/greenweft/greenweft/map/Grid", "<init>", "(IIDDDDLcom/example/greenweft/greenweft/map/Coordinates;)V"⟩ : MethodName) prog_8_method_1_code 13 none :: ws) oR20) (fun aa_ U_ => aa_ = #[(.ref a), (.int wd), (.int hg), (.double ox), (.double oy), (.double cw), (.double ch), (.ref co)] ∧ Z.Warmed39 U_.vm ∧ U_.heap = h0 ∧ CHv Z own_EL U_.vm h0) (fun _ _ _ _ _ => True) (fun _ U_ o_ U'_ => ∃ v_ L_, o_ = .returned v_ ∧ Q_gi Z a wd hg ox oy cw ch co o1 o2 k2 k3 k4 k5 cs h0 n0 v_ U'_.heap L_ ∧ CHr Z own_EL U_.vm U_.heap U'_.vm U'_.heap ∧ ReturnedEndW U_ o_ U'_ L_ oR20.cells oR20.slots) := by
  refine MetFree.of_bodySF (plainFor_of_name pn_7) hisR ?_
  intro pP eE sS mM argsA below meth cC s₁ Bd hml0 hP hK
  obtain ⟨rfl, hZ, hh, hCH⟩ := hP
  have hx := Bd.exec
  have hby := Bd.bytes
  have hml : cC.maxLocals = 13 := hml0
  have hown : sS.vm.findClass "com/example/greenweft/greenweft/map/Grid" = some mM.cls := findClass_of_methodNamed Bd.named
  have hnm := (name_of_methodNamed Bd.named Bd.method).1
  have X0 : Stand pP l eE oR20 (sS.setVm sS.vm) mM #[(.ref a), (.int wd), (.int hg), (.double ox), (.double oy), (.double cw), (.double ch), (.ref co)] below meth cC s₁ [] 0 0 := Stand.of_body Bd
  have e0 : s₁.heap = h0 := by rw [← hh, Bd.state]; rfl
  have N0 := Fr.nil n0
  have pre0 : ∀ t_, Steps pP.tables eE below (s₁.setTop (mkF mM 0 #[.val (.ref a), .val (.int wd), .val (.int hg), .val (.double ox), .second, .val (.double oy), .second, .val (.double cw), .second, .val (.double ch), .second, .val (.ref co), .unset] [])) t_ → Steps pP.tables eE below (s₁.setTop (entryFrame mM #[(.ref a), (.int wd), (.int hg), (.double ox), (.double oy), (.double cw), (.double ch), (.ref co)] 13)) t_ := fun t_ k_ => castTop (ef_giB mM a wd hg ox oy cw ch co) k_
  have hZ : Z.Warmed39 (sS.setVm sS.vm).vm := hZ
  have hown : (sS.setVm sS.vm).vm.findClass "com/example/greenweft/greenweft/map/Grid" = some mM.cls := hown
  have hS0 : sS.Since sS.vm 0 := (State.WarmedH.refl sS).since 0
  have hk0 : 0 ≤ h0.size := Nat.zero_le _
  have CR0 := CHr.refl hCH
  obtain ⟨_, _, ⟨T_1, L_1, k_1, n_1⟩, -, X_1, ⟨Lc_1, hQ_1, l_1, y_1, z_1⟩, st_1⟩ := X0.specialBack hx (y := MN26) rfl hown (mvT hZ (ow hw 15 rfl)) (mvT hZ (ow hw 16 rfl)) (mvT hZ (ow hw 19 rfl)) (by decide) (backOf (W := 0) (rm_rec l Z a0 hw [] a h0 n0 Z0 ) hZ (ow hw 19 rfl) (ow hw 18 rfl) (by decide) (by decide)) (g := (mkF mM 1 (lc24 a wd hg ox oy cw ch co) [(.ref a)])) rfl (by rw [hml]; rfl) (Steps.refl _) (a := a) (argsL := []) (rest := []) (lenOf pd_20 rfl) rfl (by show 2 * 0 + _ ≤ _; exact Nat.le_of_eq rfl) (hb hby d_prog_8m1_1) (fun _ _ => ⟨rfl, e0, (by decide : 0 + 0 ≤ _), (by decide : 0 + 0 ≤ _)⟩)
  dsimp only [Pt.U, Pt.locs, Pt.cells, Pt.slots] at X_1 l_1 y_1 z_1 st_1 hQ_1
  subst l_1 y_1 z_1
  obtain ⟨rfl, N_1q, eh_1⟩ := hQ_1
  have N_1 := Fr.app N0 N_1q
  obtain ⟨T_2, h_2, X_2, e_2, E_2, A_2, D_2, -, st_2⟩ := newO X_1 hx hZ hown (ow hw 23 rfl) (ow hw 24 rfl) (ow hw 25 rfl) eh_1 (g := (mkF mM 4 (lc24 a wd hg ox oy cw ch co) [])) rfl (hb hby d_prog_8m1_4) (by decide) (by decide)
  obtain ⟨b_2, g_2⟩ : ∃ z, z = h0.size := ⟨_, rfl⟩
  rw [← g_2] at A_2 D_2 st_2
  have g_b_2 : n0 ≤ b_2 := Nat.le_trans Z0 (Nat.le_of_eq g_2.symm)
  have sz_b_2 : h0.size ≤ b_2 := Nat.le_trans (Keep.refl h0 [a]).1 (Nat.le_of_eq g_2.symm)
  have Z_2 : n0 ≤ h_2.size := (Nat.le_trans Z0 E_2.1)
  have K_2 : Keep h0 h_2 [a] := (Keep.refl h0 [a]).ext E_2
  have hk_2 : _ ≤ h_2.size := Nat.le_trans hk0 E_2.1
  have Ca_2 := CHr.ext E_2 CR0.1
  have CR_2 := CR0.trans Ca_2
  have F_value_b_2__2 : Fld Z h_2 b_2 "java/lang/AbstractStringBuilder" "value" "[B" .null := D_2 (Or.inl (ow hw 40 rfl)) (ty := (.array .byte)) (by decide)
  have F_coder_b_2__2 : Fld Z h_2 b_2 "java/lang/AbstractStringBuilder" "coder" "B" (.int (0 : Int32)) := D_2 (Or.inl (ow hw 42 rfl)) (ty := .byte) (by decide)
  have F_count_b_2__2 : Fld Z h_2 b_2 "java/lang/AbstractStringBuilder" "count" "I" (.int (0 : Int32)) := D_2 (Or.inl (ow hw 73 rfl)) (ty := .int) (by decide)
  have St_1_13 := (S_String_COMPACT_STRINGS.ext E_2)
  obtain ⟨_, _, ⟨T_3, L_3, k_3, n_3⟩, -, X_3, ⟨Lc_3, hQ_3, l_3, y_3, z_3⟩, st_3⟩ := X_2.specialBack hx (y := MN27) rfl hown (mvT hZ (ow hw 26 rfl)) (mvT hZ (ow hw 27 rfl)) (mvT hZ (ow hw 28 rfl)) (by decide) (backOf (W := 1) (rm_sbi l Z a0 hw [] b_2 cs h_2 n0 Z_2 F_value_b_2__2 F_coder_b_2__2 F_count_b_2__2 A_2 g_b_2 St_1_13 hcs) hZ (ow hw 28 rfl) (ow hw 25 rfl) (by decide) (by decide)) (g := (mkF mM 8 (lc24 a wd hg ox oy cw ch co) [(.ref b_2), (.ref b_2)])) rfl (by rw [hml]; rfl) (Steps.refl _) (a := b_2) (argsL := []) (rest := [(.ref b_2)]) (lenOf pd_20 rfl) rfl (by show 2 * 0 + _ ≤ _; exact Nat.le_of_eq rfl) (hb hby d_prog_8m1_8) (fun _ _ => ⟨rfl, e_2, (by decide : 1 + 1 ≤ _), (by decide : 4 + 16 ≤ _)⟩)
  dsimp only [Pt.U, Pt.locs, Pt.cells, Pt.slots] at X_3 l_3 y_3 z_3 st_3 hQ_3
  subst l_3 y_3 z_3
  obtain ⟨d__3, ⟨rfl, N_3q, Kc_3, pfsz_d_3, pfF_value_b_3, pfF_coder_b_3, pfF_count_b_3, pfE_b_3, pfB_d_3⟩⟩ := hQ_3
  have Z_3 : n0 ≤ T_3.heap.size := (Nat.le_trans Z_2 Kc_3.1)
  have K_3 : Keep h0 T_3.heap [a] := K_2.trans Kc_3 (allS (Or.inr sz_b_2) all0)
  have hk_3 : _ ≤ T_3.heap.size := Nat.le_trans hk_2 Kc_3.1
  have Ca_3 := CHr.keep Kc_3 (allS (Safe.exa hZ.alike A_2 (by decide) (by decide)) all0) CR_2.1
  have CR_3 := CR_2.trans Ca_3
  have Sf_d__3 := Safe.keep Kc_3 (allS (Safe.exa hZ.alike A_2 (by decide) (by decide)) all0) CR_2.1 (Safe.new pfsz_d_3)
  have sz_d__3 : h0.size ≤ d__3 := Nat.le_trans K_2.1 pfsz_d_3
  have g_d__3 : n0 ≤ d__3 := Nat.le_trans Z_2 pfsz_d_3
  have N_3 := Fr.app N_1 N_3q
  obtain ⟨a_4, T_4, h_4, k_4, d_4, kd_4, X_4, e_4, E_4, hS_4, hk_4, hZ_4, hown_4, Es_4, Fc_4, Fv_4, Vs_4, -, -, CH_4, -, Sf_4, st_4⟩ := ldcCH X_3 hx hZ hown (ow hw 43 rfl) (own_wS hw) rfl hS0 hk_3 (own_EW hw) (List.mem_of_getElem? (i := 0) rfl) CR_3.1 (vs := [(.int (97 : Int32)), (.int (32 : Int32)), (.int (103 : Int32)), (.int (114 : Int32)), (.int (105 : Int32)), (.int (100 : Int32)), (.int (32 : Int32)), (.int (111 : Int32)), (.int (102 : Int32)), (.int (32 : Int32))]) (z := (10 : Int32)) ⟨by decide, rfl⟩ (by decide) rfl (g := (mkF mM 11 (lc24 a wd hg ox oy cw ch co) [(.ref b_2)])) rfl (hb hby d_prog_8m1_11) (n := 40) (by decide) (by decide) (by decide) (by decide)
  have Z_4 : n0 ≤ h_4.size := (Nat.le_trans Z_3 E_4.1)
  have K_4 : Keep h0 h_4 [a] := K_3.ext E_4
  have Ca_4 := CH_4
  have CR_4 := CR_3.trans Ca_4
  have Sf_d__3_4 := Ca_4.safe pfB_d_3.lt Sf_d__3
  have St_3_13 := ((own_sta_keep St_1_13 Kc_3 (allS (own_exa_ns A_2) all0)).ext E_4)
  obtain ⟨cq_5, kq_5, q_5a, q_5b, q_5c⟩ := isOf hZ_4 e_4 (pfE_b_3.ext E_4)
  obtain ⟨_, _, ⟨T_5, L_5, k_5, n_5⟩, -, X_5, ⟨Lc_5, hQ_5, l_5, y_5, z_5⟩, st_5⟩ := X_4.virtualBack hx (y := MN28) (z := MN28) hown_4 (mvT hZ_4 (ow hw 49 rfl)) (mvT hZ_4 (ow hw 50 rfl)) (notFace_of_selects (args := #[]) (mvT hZ_4 (ow hw 52 rfl))) (mvT hZ_4 (ow hw 52 rfl)) (mvT hZ_4 (ow hw 51 rfl)) (by decide) (backOf (W := 0) (rm_sa16 l Z a0 hw [] b_2 a_4 d_4 d__3 (10 : Int32) (0 : Int32) (10 : Int32) cs h_4 n0 Z_4 (pfF_value_b_3.ext E_4) (pfF_coder_b_3.ext E_4) (pfF_count_b_3.ext E_4) (pfE_b_3.ext E_4) g_b_2 g_d__3 Fv_4 Fc_4 Es_4 (own_B.of Vs_4) (Ne.symm (Sf_4 _ Sf_d__3_4).2) (Ne.symm (ne_exa Es_4 ((A_2.keep Kc_3).ext E_4) (by decide))) (by decide) St_3_13 hcs (pfB_d_3.ext E_4) no0 cp0) hZ_4 (ow hw 53 rfl) (ow hw 25 rfl) (by decide) (by decide)) q_5a q_5c (g := (mkF mM 13 (lc24 a wd hg ox oy cw ch co) [(.ref a_4), (.ref b_2)])) rfl (by rw [hml]; rfl) (Steps.refl _) (argsL := [(.ref a_4)]) (rest := []) (lenOf pd_21 rfl) rfl (by show 2 * 0 + _ ≤ _; exact Nat.le_of_eq rfl) (hb hby d_prog_8m1_13) (fun _ _ => ⟨rfl, e_4, (by decide : 4 + 0 ≤ _), (by decide : 64 + 0 ≤ _)⟩)
  dsimp only [Pt.U, Pt.locs, Pt.cells, Pt.slots] at X_5 l_5 y_5 z_5 st_5 hQ_5
  subst l_5 y_5 z_5
  obtain ⟨rfl, N_5q, Kc_5, pfF_value_b_5, pfF_coder_b_5, pfF_count_b_5, pfE_b_5, pfB_d_5⟩ := hQ_5
  have Z_5 : n0 ≤ T_5.heap.size := (Nat.le_trans Z_4 Kc_5.1)
  have K_5 : Keep h0 T_5.heap [a] := K_4.trans Kc_5 (allS (Or.inr sz_b_2) (allS (Or.inr sz_d__3) all0))
  have hk_5 : _ ≤ T_5.heap.size := Nat.le_trans hk_4 Kc_5.1
  have Ca_5 := CHr.keep Kc_5 (allS (Safe.exa hZ_4.alike (pfE_b_3.ext E_4) (by decide) (by decide)) (allS Sf_d__3_4 all0)) CR_4.1
  have CR_5 := CR_4.trans Ca_5
  have Sf_d__3_5 := Ca_5.safe (pfB_d_3.ext E_4).lt Sf_d__3_4
  have N_5 := Fr.app N_3 N_5q
  have St_4_9 := (own_sta_keep ((own_sta_keep (S_Integer_DigitOnes.ext E_2) Kc_3 (allS (own_exa_ns A_2) all0)).ext E_4) Kc_5 (allS (own_exa_ns (pfE_b_3.ext E_4)) (allS (own_B.ns (pfB_d_3.ext E_4)) all0)))
  have St_4_10 := (own_sta_keep ((own_sta_keep (S_Integer_DigitTens.ext E_2) Kc_3 (allS (own_exa_ns A_2) all0)).ext E_4) Kc_5 (allS (own_exa_ns (pfE_b_3.ext E_4)) (allS (own_B.ns (pfB_d_3.ext E_4)) all0)))
  have Rt_1 := ((((B_o1.ext E_2).keep Kc_3 (ninS (Nat.ne_of_lt (Nat.lt_of_lt_of_le B_o1.lt (Nat.le_of_eq g_2.symm))) nin0)).ext E_4).keep Kc_5 (ninS (Nat.ne_of_lt (Nat.lt_of_lt_of_le B_o1.lt (Nat.le_of_eq g_2.symm))) (ninS (Nat.ne_of_lt (Nat.lt_of_lt_of_le (B_o1.ext E_2).lt pfsz_d_3)) nin0)))
  have Rt_2 := ((((B_o2.ext E_2).keep Kc_3 (ninS (Nat.ne_of_lt (Nat.lt_of_lt_of_le B_o2.lt (Nat.le_of_eq g_2.symm))) nin0)).ext E_4).keep Kc_5 (ninS (Nat.ne_of_lt (Nat.lt_of_lt_of_le B_o2.lt (Nat.le_of_eq g_2.symm))) (ninS (Nat.ne_of_lt (Nat.lt_of_lt_of_le (B_o2.ext E_2).lt pfsz_d_3)) nin0)))
  have St_4_13 := (own_sta_keep St_3_13 Kc_5 (allS (own_exa_ns (pfE_b_3.ext E_4)) (allS (own_B.ns (pfB_d_3.ext E_4)) all0)))
  obtain ⟨cq_6, kq_6, q_6a, q_6b, q_6c⟩ := isOf hZ_4 rfl pfE_b_5
  obtain ⟨_, _, ⟨T_6, L_6, k_6, n_6⟩, -, X_6, ⟨Lc_6, hQ_6, l_6, y_6, z_6⟩, st_6⟩ := X_5.virtualBack hx (y := MN29) (z := MN29) hown_4 (mvT hZ_4 (ow hw 99 rfl)) (mvT hZ_4 (ow hw 100 rfl)) (notFace_of_selects (args := #[]) (mvT hZ_4 (ow hw 102 rfl))) (mvT hZ_4 (ow hw 102 rfl)) (mvT hZ_4 (ow hw 101 rfl)) (by decide) (backOf (W := 0) (rm_si16 l Z a0 hw [] b_2 wd d__3 (10 : Int32) k2 o1 o2 cs T_5.heap n0 Z_5 pfF_value_b_5 pfF_coder_b_5 pfF_count_b_5 pfE_b_5 g_b_2 g_d__3 St_4_9 St_4_10 Rt_1 Rt_2 (Nat.ne_of_lt (Nat.lt_of_lt_of_le (B_o1.ext E_2).lt pfsz_d_3)) (Nat.ne_of_lt (Nat.lt_of_lt_of_le (B_o2.ext E_2).lt pfsz_d_3)) hiw hk2 St_4_13 hcs pfB_d_5 no1 ft1) hZ_4 (ow hw 103 rfl) (ow hw 25 rfl) (by decide) (by decide)) q_6a q_6c (g := (mkF mM 17 (lc24 a wd hg ox oy cw ch co) [(.int wd), (.ref b_2)])) rfl (by rw [hml]; rfl) (Steps.refl _) (argsL := [(.int wd)]) (rest := []) (lenOf pd_22 rfl) rfl (by show 2 * 0 + _ ≤ _; exact Nat.le_of_eq rfl) (hb hby d_prog_8m1_17) (fun _ _ => ⟨rfl, rfl, (by decide : 4 + 0 ≤ _), (by decide : 64 + 0 ≤ _)⟩)
  dsimp only [Pt.U, Pt.locs, Pt.cells, Pt.slots] at X_6 l_6 y_6 z_6 st_6 hQ_6
  subst l_6 y_6 z_6
  obtain ⟨rfl, N_6q, Kc_6, pfF_value_b_6, pfF_coder_b_6, pfF_count_b_6, pfE_b_6, pfB_d_6⟩ := hQ_6
  have Z_6 : n0 ≤ T_6.heap.size := (Nat.le_trans Z_5 Kc_6.1)
  have K_6 : Keep h0 T_6.heap [a] := K_5.trans Kc_6 (allS (Or.inr sz_b_2) (allS (Or.inr sz_d__3) all0))
  have hk_6 : _ ≤ T_6.heap.size := Nat.le_trans hk_5 Kc_6.1
  have Ca_6 := CHr.keep Kc_6 (allS (Safe.exa hZ_4.alike pfE_b_5 (by decide) (by decide)) (allS Sf_d__3_5 all0)) CR_5.1
  have CR_6 := CR_5.trans Ca_6
  have Sf_d__3_6 := Ca_6.safe pfB_d_5.lt Sf_d__3_5
  have N_6 := Fr.app N_5 N_6q
  obtain ⟨a_7, T_7, h_7, k_7, d_7, kd_7, X_7, e_7, E_7, hS_7, hk_7, hZ_7, hown_7, Es_7, Fc_7, Fv_7, Vs_7, -, -, CH_7, -, Sf_7, st_7⟩ := ldcCH X_6 hx hZ_4 hown_4 (ow hw 121 rfl) (own_wS hw) rfl hS_4 hk_6 (own_EW hw) (List.mem_of_getElem? (i := 1) rfl) CR_6.1 (vs := [(.int (32 : Int32)), (.int (120 : Int32)), (.int (32 : Int32))]) (z := (3 : Int32)) ⟨by decide, rfl⟩ (by decide) rfl (g := (mkF mM 20 (lc24 a wd hg ox oy cw ch co) [(.ref b_2)])) rfl (hb hby d_prog_8m1_20) (n := 12) (by decide) (by decide) (by decide) (by decide)
  have Z_7 : n0 ≤ h_7.size := (Nat.le_trans Z_6 E_7.1)
  have K_7 : Keep h0 h_7 [a] := K_6.ext E_7
  have Ca_7 := CH_7
  have CR_7 := CR_6.trans Ca_7
  have Sf_d__3_7 := Ca_7.safe pfB_d_6.lt Sf_d__3_6
  have St_6_13 := ((own_sta_keep St_4_13 Kc_6 (allS (own_exa_ns pfE_b_5) (allS (own_B.ns pfB_d_5) all0))).ext E_7)
  obtain ⟨cq_8, kq_8, q_8a, q_8b, q_8c⟩ := isOf hZ_7 e_7 (pfE_b_6.ext E_7)
  obtain ⟨_, _, ⟨T_8, L_8, k_8, n_8⟩, -, X_8, ⟨Lc_8, hQ_8, l_8, y_8, z_8⟩, st_8⟩ := X_7.virtualBack hx (y := MN28) (z := MN28) hown_7 (mvT hZ_7 (ow hw 49 rfl)) (mvT hZ_7 (ow hw 50 rfl)) (notFace_of_selects (args := #[]) (mvT hZ_7 (ow hw 52 rfl))) (mvT hZ_7 (ow hw 52 rfl)) (mvT hZ_7 (ow hw 51 rfl)) (by decide) (backOf (W := 0) (rm_sa16 l Z a0 hw [] b_2 a_7 d_7 d__3 (3 : Int32) k2 k3 cs h_7 n0 Z_7 (pfF_value_b_6.ext E_7) (pfF_coder_b_6.ext E_7) (pfF_count_b_6.ext E_7) (pfE_b_6.ext E_7) g_b_2 g_d__3 Fv_7 Fc_7 Es_7 (own_B.of Vs_7) (Ne.symm (Sf_7 _ Sf_d__3_7).2) (Ne.symm (ne_exa Es_7 (((((A_2.keep Kc_3).ext E_4).keep Kc_5).keep Kc_6).ext E_7) (by decide))) hk3 St_6_13 hcs (pfB_d_6.ext E_7) no2 cp2) hZ_7 (ow hw 53 rfl) (ow hw 25 rfl) (by decide) (by decide)) q_8a q_8c (g := (mkF mM 22 (lc24 a wd hg ox oy cw ch co) [(.ref a_7), (.ref b_2)])) rfl (by rw [hml]; rfl) (Steps.refl _) (argsL := [(.ref a_7)]) (rest := []) (lenOf pd_21 rfl) rfl (by show 2 * 0 + _ ≤ _; exact Nat.le_of_eq rfl) (hb hby d_prog_8m1_22) (fun _ _ => ⟨rfl, e_7, (by decide : 6 + 0 ≤ _), (by decide : 80 + 0 ≤ _)⟩)
  dsimp only [Pt.U, Pt.locs, Pt.cells, Pt.slots] at X_8 l_8 y_8 z_8 st_8 hQ_8
  subst l_8 y_8 z_8
  obtain ⟨rfl, N_8q, Kc_8, pfF_value_b_8, pfF_coder_b_8, pfF_count_b_8, pfE_b_8, pfB_d_8⟩ := hQ_8
  have Z_8 : n0 ≤ T_8.heap.size := (Nat.le_trans Z_7 Kc_8.1)
  have K_8 : Keep h0 T_8.heap [a] := K_7.trans Kc_8 (allS (Or.inr sz_b_2) (allS (Or.inr sz_d__3) all0))
  have hk_8 : _ ≤ T_8.heap.size := Nat.le_trans hk_7 Kc_8.1
  have Ca_8 := CHr.keep Kc_8 (allS (Safe.exa hZ_7.alike (pfE_b_6.ext E_7) (by decide) (by decide)) (allS Sf_d__3_7 all0)) CR_7.1
  have CR_8 := CR_7.trans Ca_8
  have Sf_d__3_8 := Ca_8.safe (pfB_d_6.ext E_7).lt Sf_d__3_7
  have N_8 := Fr.app N_6 N_8q
  have St_7_9 := (own_sta_keep ((own_sta_keep St_4_9 Kc_6 (allS (own_exa_ns pfE_b_5) (allS (own_B.ns pfB_d_5) all0))).ext E_7) Kc_8 (allS (own_exa_ns (pfE_b_6.ext E_7)) (allS (own_B.ns (pfB_d_6.ext E_7)) all0)))
  have St_7_10 := (own_sta_keep ((own_sta_keep St_4_10 Kc_6 (allS (own_exa_ns pfE_b_5) (allS (own_B.ns pfB_d_5) all0))).ext E_7) Kc_8 (allS (own_exa_ns (pfE_b_6.ext E_7)) (allS (own_B.ns (pfB_d_6.ext E_7)) all0)))
  have Rt_3 := (((Rt_1.keep Kc_6 (ninS (Nat.ne_of_lt (Nat.lt_of_lt_of_le B_o1.lt (Nat.le_of_eq g_2.symm))) (ninS (Nat.ne_of_lt (Nat.lt_of_lt_of_le (B_o1.ext E_2).lt pfsz_d_3)) nin0))).ext E_7).keep Kc_8 (ninS (Nat.ne_of_lt (Nat.lt_of_lt_of_le B_o1.lt (Nat.le_of_eq g_2.symm))) (ninS (Nat.ne_of_lt (Nat.lt_of_lt_of_le (B_o1.ext E_2).lt pfsz_d_3)) nin0)))
  have Rt_4 := (((Rt_2.keep Kc_6 (ninS (Nat.ne_of_lt (Nat.lt_of_lt_of_le B_o2.lt (Nat.le_of_eq g_2.symm))) (ninS (Nat.ne_of_lt (Nat.lt_of_lt_of_le (B_o2.ext E_2).lt pfsz_d_3)) nin0))).ext E_7).keep Kc_8 (ninS (Nat.ne_of_lt (Nat.lt_of_lt_of_le B_o2.lt (Nat.le_of_eq g_2.symm))) (ninS (Nat.ne_of_lt (Nat.lt_of_lt_of_le (B_o2.ext E_2).lt pfsz_d_3)) nin0)))
  have St_7_13 := (own_sta_keep St_6_13 Kc_8 (allS (own_exa_ns (pfE_b_6.ext E_7)) (allS (own_B.ns (pfB_d_6.ext E_7)) all0)))
  obtain ⟨cq_9, kq_9, q_9a, q_9b, q_9c⟩ := isOf hZ_7 rfl pfE_b_8
  obtain ⟨_, _, ⟨T_9, L_9, k_9, n_9⟩, -, X_9, ⟨Lc_9, hQ_9, l_9, y_9, z_9⟩, st_9⟩ := X_8.virtualBack hx (y := MN29) (z := MN29) hown_7 (mvT hZ_7 (ow hw 99 rfl)) (mvT hZ_7 (ow hw 100 rfl)) (notFace_of_selects (args := #[]) (mvT hZ_7 (ow hw 102 rfl))) (mvT hZ_7 (ow hw 102 rfl)) (mvT hZ_7 (ow hw 101 rfl)) (by decide) (backOf (W := 0) (rm_siG l Z a0 hw [] b_2 hg d__3 k3 k4 o1 o2 cs T_8.heap n0 Z_8 pfF_value_b_8 pfF_coder_b_8 pfF_count_b_8 pfE_b_8 g_b_2 g_d__3 St_7_9 St_7_10 Rt_3 Rt_4 (Nat.ne_of_lt (Nat.lt_of_lt_of_le (B_o1.ext E_2).lt pfsz_d_3)) (Nat.ne_of_lt (Nat.lt_of_lt_of_le (B_o2.ext E_2).lt pfsz_d_3)) hih hk4 St_7_13 hcs pfB_d_8 gt3 lt3 ft3) hZ_7 (ow hw 103 rfl) (ow hw 25 rfl) (by decide) (by decide)) q_9a q_9c (g := (mkF mM 26 (lc24 a wd hg ox oy cw ch co) [(.int hg), (.ref b_2)])) rfl (by rw [hml]; rfl) (Steps.refl _) (argsL := [(.int hg)]) (rest := []) (lenOf pd_22 rfl) rfl (by show 2 * 0 + _ ≤ _; exact Nat.le_of_eq rfl) (hb hby d_prog_8m1_26) (fun _ _ => ⟨rfl, rfl, (by decide : 6 + 1 ≤ _), (by decide : 80 + 34 ≤ _)⟩)
  dsimp only [Pt.U, Pt.locs, Pt.cells, Pt.slots] at X_9 l_9 y_9 z_9 st_9 hQ_9
  subst l_9 y_9 z_9
  obtain ⟨d2__9, ⟨rfl, N_9q, Kc_9, pfsz_d2_9, pfF_value_b_9, pfF_coder_b_9, pfF_count_b_9, pfE_b_9, pfB_d2_9⟩⟩ := hQ_9
  have Z_9 : n0 ≤ T_9.heap.size := (Nat.le_trans Z_8 Kc_9.1)
  have K_9 : Keep h0 T_9.heap [a] := K_8.trans Kc_9 (allS (Or.inr sz_b_2) all0)
  have hk_9 : _ ≤ T_9.heap.size := Nat.le_trans hk_8 Kc_9.1
  have Ca_9 := CHr.keep Kc_9 (allS (Safe.exa hZ_7.alike pfE_b_8 (by decide) (by decide)) all0) CR_8.1
  have CR_9 := CR_8.trans Ca_9
  have Sf_d__3_9 := Ca_9.safe pfB_d_8.lt Sf_d__3_8
  have Sf_d2__9 := Safe.keep Kc_9 (allS (Safe.exa hZ_7.alike pfE_b_8 (by decide) (by decide)) all0) CR_8.1 (Safe.new pfsz_d2_9)
  have sz_d2__9 : h0.size ≤ d2__9 := Nat.le_trans K_8.1 pfsz_d2_9
  have g_d2__9 : n0 ≤ d2__9 := Nat.le_trans Z_8 pfsz_d2_9
  have N_9 := Fr.app N_8 N_9q
  obtain ⟨a_10, T_10, h_10, k_10, d_10, kd_10, X_10, e_10, E_10, hS_10, hk_10, hZ_10, hown_10, Es_10, Fc_10, Fv_10, Vs_10, -, -, CH_10, -, Sf_10, st_10⟩ := ldcCH X_9 hx hZ_7 hown_7 (ow hw 122 rfl) (own_wS hw) rfl hS_7 hk_9 (own_EW hw) (List.mem_of_getElem? (i := 2) rfl) CR_9.1 (vs := [(.int (32 : Int32)), (.int (99 : Int32)), (.int (101 : Int32)), (.int (108 : Int32)), (.int (108 : Int32)), (.int (115 : Int32))]) (z := (6 : Int32)) ⟨by decide, rfl⟩ (by decide) rfl (g := (mkF mM 29 (lc24 a wd hg ox oy cw ch co) [(.ref b_2)])) rfl (hb hby d_prog_8m1_29) (n := 24) (by decide) (by decide) (by decide) (by decide)
  have Z_10 : n0 ≤ h_10.size := (Nat.le_trans Z_9 E_10.1)
  have K_10 : Keep h0 h_10 [a] := K_9.ext E_10
  have Ca_10 := CH_10
  have CR_10 := CR_9.trans Ca_10
  have Sf_d__3_10 := Ca_10.safe (pfB_d_8.keep Kc_9 (ninS (Ne.symm (Nat.ne_of_lt (Nat.lt_of_lt_of_le A_2.lt pfsz_d_3))) nin0)).lt Sf_d__3_9
  have Sf_d2__9_10 := Ca_10.safe pfB_d2_9.lt Sf_d2__9
  have St_9_13 := ((own_sta_keep St_7_13 Kc_9 (allS (own_exa_ns pfE_b_8) all0)).ext E_10)
  obtain ⟨cq_11, kq_11, q_11a, q_11b, q_11c⟩ := isOf hZ_10 e_10 (pfE_b_9.ext E_10)
  obtain ⟨_, _, ⟨T_11, L_11, k_11, n_11⟩, -, X_11, ⟨Lc_11, hQ_11, l_11, y_11, z_11⟩, st_11⟩ := X_10.virtualBack hx (y := MN28) (z := MN28) hown_10 (mvT hZ_10 (ow hw 49 rfl)) (mvT hZ_10 (ow hw 50 rfl)) (notFace_of_selects (args := #[]) (mvT hZ_10 (ow hw 52 rfl))) (mvT hZ_10 (ow hw 52 rfl)) (mvT hZ_10 (ow hw 51 rfl)) (by decide) (backOf (W := 0) (rm_sa34 l Z a0 hw [] b_2 a_10 d_10 d2__9 (6 : Int32) k4 k5 cs h_10 n0 Z_10 (pfF_value_b_9.ext E_10) (pfF_coder_b_9.ext E_10) (pfF_count_b_9.ext E_10) (pfE_b_9.ext E_10) g_b_2 g_d2__9 Fv_10 Fc_10 Es_10 (own_B.of Vs_10) (Ne.symm (Sf_10 _ Sf_d2__9_10).2) (Ne.symm (ne_exa Es_10 ((((((((A_2.keep Kc_3).ext E_4).keep Kc_5).keep Kc_6).ext E_7).keep Kc_8).keep Kc_9).ext E_10) (by decide))) hk5 St_9_13 hcs (pfB_d2_9.ext E_10) no4 cp4) hZ_10 (ow hw 53 rfl) (ow hw 25 rfl) (by decide) (by decide)) q_11a q_11c (g := (mkF mM 31 (lc24 a wd hg ox oy cw ch co) [(.ref a_10), (.ref b_2)])) rfl (by rw [hml]; rfl) (Steps.refl _) (argsL := [(.ref a_10)]) (rest := []) (lenOf pd_21 rfl) rfl (by show 2 * 0 + _ ≤ _; exact Nat.le_of_eq rfl) (hb hby d_prog_8m1_31) (fun _ _ => ⟨rfl, e_10, (by decide : 9 + 0 ≤ _), (by decide : 142 + 0 ≤ _)⟩)
  dsimp only [Pt.U, Pt.locs, Pt.cells, Pt.slots] at X_11 l_11 y_11 z_11 st_11 hQ_11
  subst l_11 y_11 z_11
  obtain ⟨rfl, N_11q, Kc_11, pfF_value_b_11, pfF_coder_b_11, pfF_count_b_11, pfE_b_11, pfB_d_11⟩ := hQ_11
  have Z_11 : n0 ≤ T_11.heap.size := (Nat.le_trans Z_10 Kc_11.1)
  have K_11 : Keep h0 T_11.heap [a] := K_10.trans Kc_11 (allS (Or.inr sz_b_2) (allS (Or.inr sz_d2__9) all0))
  have hk_11 : _ ≤ T_11.heap.size := Nat.le_trans hk_10 Kc_11.1
  have Ca_11 := CHr.keep Kc_11 (allS (Safe.exa hZ_10.alike (pfE_b_9.ext E_10) (by decide) (by decide)) (allS Sf_d2__9_10 all0)) CR_10.1
  have CR_11 := CR_10.trans Ca_11
  have Sf_d__3_11 := Ca_11.safe ((pfB_d_8.keep Kc_9 (ninS (Ne.symm (Nat.ne_of_lt (Nat.lt_of_lt_of_le A_2.lt pfsz_d_3))) nin0)).ext E_10).lt Sf_d__3_10
  have Sf_d2__9_11 := Ca_11.safe (pfB_d2_9.ext E_10).lt Sf_d2__9_10
  have N_11 := Fr.app N_9 N_11q
  have St_10_13 := (own_sta_keep St_9_13 Kc_11 (allS (own_exa_ns (pfE_b_9.ext E_10)) (allS (own_B.ns (pfB_d2_9.ext E_10)) all0)))
  obtain ⟨cq_12, kq_12, q_12a, q_12b, q_12c⟩ := isOf hZ_10 rfl pfE_b_11
  obtain ⟨_, _, ⟨T_12, L_12, k_12, n_12⟩, -, X_12, ⟨Lc_12, hQ_12, l_12, y_12, z_12⟩, st_12⟩ := X_11.virtualBack hx (y := MN30) (z := MN30) hown_10 (mvT hZ_10 (ow hw 146 rfl)) (mvT hZ_10 (ow hw 147 rfl)) (notFace_of_selects (args := #[]) (mvT hZ_10 (ow hw 149 rfl))) (mvT hZ_10 (ow hw 149 rfl)) (mvT hZ_10 (ow hw 148 rfl)) (by decide) (backOf (W := 0) (rm_tos l Z a0 hw [] b_2 d2__9 k5 cs T_11.heap n0 Z_11 pfF_value_b_11 pfF_coder_b_11 pfF_count_b_11 pfE_b_11 pfB_d_11 tz0 tz1 tz2 tz3 tz4 St_10_13 hcs) hZ_10 (ow hw 150 rfl) (ow hw 25 rfl) (by decide) (by decide)) q_12a q_12c (g := (mkF mM 34 (lc24 a wd hg ox oy cw ch co) [(.ref b_2)])) rfl (by rw [hml]; rfl) (Steps.refl _) (argsL := []) (rest := []) (lenOf pd_23 rfl) rfl (by show 2 * 0 + _ ≤ _; exact Nat.le_of_eq rfl) (hb hby d_prog_8m1_34) (fun _ _ => ⟨rfl, rfl, (by decide : 9 + 2 ≤ _), (by decide : 142 + 38 ≤ _)⟩)
  dsimp only [Pt.U, Pt.locs, Pt.cells, Pt.slots] at X_12 l_12 y_12 z_12 st_12 hQ_12
  subst l_12 y_12 z_12
  obtain ⟨g__12, ⟨rfl, N_12q, Kc_12, pfsz_g_12, pfE_g_12⟩⟩ := hQ_12
  have Rt_5 := (((pfB_d_8.keep Kc_9 (ninS (Ne.symm (Nat.ne_of_lt (Nat.lt_of_lt_of_le A_2.lt pfsz_d_3))) nin0)).ext E_10).keep Kc_11 (ninS (Ne.symm (Nat.ne_of_lt (Nat.lt_of_lt_of_le A_2.lt pfsz_d_3))) (ninS (Nat.ne_of_lt (Nat.lt_of_lt_of_le pfB_d_8.lt pfsz_d2_9)) nin0)))
  have Z_12 : n0 ≤ T_12.heap.size := (Nat.le_trans Z_11 Kc_12.1)
  have K_12 : Keep h0 T_12.heap [a] := K_11.trans Kc_12 all0
  have hk_12 : _ ≤ T_12.heap.size := Nat.le_trans hk_11 Kc_12.1
  have Ca_12 := CHr.keep Kc_12 all0 CR_11.1
  have CR_12 := CR_11.trans Ca_12
  have Sf_d__3_12 := Ca_12.safe Rt_5.lt Sf_d__3_11
  have Sf_d2__9_12 := Ca_12.safe pfB_d_11.lt Sf_d2__9_11
  have sz_g__12 : h0.size ≤ g__12 := Nat.le_trans K_11.1 pfsz_g_12
  have g_g__12 : n0 ≤ g__12 := Nat.le_trans Z_11 pfsz_g_12
  have N_12 := Fr.app N_11 N_12q
  obtain ⟨_, _, ⟨T_13, L_13, k_13, n_13⟩, -, X_13, ⟨Lc_13, hQ_13, l_13, y_13, z_13⟩, st_13⟩ := Jvm.LawKit.callS X_12 hx (y := MN31) hown_10 (mvT hZ_10 (ow hw 184 rfl)) (mvT hZ_10 (ow hw 185 rfl)) (mvT hZ_10 (ow hw 186 rfl)) (mvT hZ_10 (ow hw 187 rfl)) (by decide) (backOf (W := 0) (rm_fin l Z a0 hw [] ox T_12.heap n0 Z_12 nnox fiox) hZ_10 (ow hw 187 rfl) (ow hw 186 rfl) (by decide) (by decide)) (g := (mkF mM 128 (lc25 a wd hg ox oy cw ch co g__12) [(.double ox)])) rfl (by rw [hml]; rfl) (argsL := [(.double ox)]) (rest := []) (lenOf pd_24 rfl) rfl (by show 2 * 0 + _ ≤ _; exact Nat.le_of_eq rfl) (hb hby d_prog_8m1_128) (fun _ _ => ⟨rfl, rfl, (by decide : 11 + 0 ≤ _), (by decide : 180 + 0 ≤ _)⟩)
  dsimp only [Pt.U, Pt.locs, Pt.cells, Pt.slots] at X_13 l_13 y_13 z_13 st_13 hQ_13
  subst l_13 y_13 z_13
  obtain ⟨rfl, N_13q, eh_13⟩ := hQ_13
  have N_13 := Fr.app N_12 N_13q
  obtain ⟨_, _, ⟨T_14, L_14, k_14, n_14⟩, -, X_14, ⟨Lc_14, hQ_14, l_14, y_14, z_14⟩, st_14⟩ := Jvm.LawKit.callS X_13 hx (y := MN31) hown_10 (mvT hZ_10 (ow hw 184 rfl)) (mvT hZ_10 (ow hw 185 rfl)) (mvT hZ_10 (ow hw 186 rfl)) (mvT hZ_10 (ow hw 187 rfl)) (by decide) (backOf (W := 0) (rm_fin l Z a0 hw [] oy T_12.heap n0 Z_12 nnoy fioy) hZ_10 (ow hw 187 rfl) (ow hw 186 rfl) (by decide) (by decide)) (g := (mkF mM 136 (lc25 a wd hg ox oy cw ch co g__12) [(.double oy)])) rfl (by rw [hml]; rfl) (argsL := [(.double oy)]) (rest := []) (lenOf pd_24 rfl) rfl (by show 2 * 0 + _ ≤ _; exact Nat.le_of_eq rfl) (hb hby d_prog_8m1_136) (fun _ _ => ⟨rfl, eh_13, (by decide : 11 + 0 ≤ _), (by decide : 180 + 0 ≤ _)⟩)
  dsimp only [Pt.U, Pt.locs, Pt.cells, Pt.slots] at X_14 l_14 y_14 z_14 st_14 hQ_14
  subst l_14 y_14 z_14
  obtain ⟨rfl, N_14q, eh_14⟩ := hQ_14
  have N_14 := Fr.app N_13 N_14q
  obtain ⟨_, _, ⟨T_15, L_15, k_15, n_15⟩, -, X_15, ⟨Lc_15, hQ_15, l_15, y_15, z_15⟩, st_15⟩ := Jvm.LawKit.callS X_14 hx (y := MN31) hown_10 (mvT hZ_10 (ow hw 184 rfl)) (mvT hZ_10 (ow hw 185 rfl)) (mvT hZ_10 (ow hw 186 rfl)) (mvT hZ_10 (ow hw 187 rfl)) (by decide) (backOf (W := 0) (rm_fin l Z a0 hw [] cw T_12.heap n0 Z_12 nncw ficw) hZ_10 (ow hw 187 rfl) (ow hw 186 rfl) (by decide) (by decide)) (g := (mkF mM 200 (lc25 a wd hg ox oy cw ch co g__12) [(.double cw)])) rfl (by rw [hml]; rfl) (argsL := [(.double cw)]) (rest := []) (lenOf pd_24 rfl) rfl (by show 2 * 0 + _ ≤ _; exact Nat.le_of_eq rfl) (hb hby d_prog_8m1_200) (fun _ _ => ⟨rfl, eh_14, (by decide : 11 + 0 ≤ _), (by decide : 180 + 0 ≤ _)⟩)
  dsimp only [Pt.U, Pt.locs, Pt.cells, Pt.slots] at X_15 l_15 y_15 z_15 st_15 hQ_15
  subst l_15 y_15 z_15
  obtain ⟨rfl, N_15q, eh_15⟩ := hQ_15
  have N_15 := Fr.app N_14 N_15q
  obtain ⟨_, _, ⟨T_16, L_16, k_16, n_16⟩, -, X_16, ⟨Lc_16, hQ_16, l_16, y_16, z_16⟩, st_16⟩ := Jvm.LawKit.callS X_15 hx (y := MN31) hown_10 (mvT hZ_10 (ow hw 184 rfl)) (mvT hZ_10 (ow hw 185 rfl)) (mvT hZ_10 (ow hw 186 rfl)) (mvT hZ_10 (ow hw 187 rfl)) (by decide) (backOf (W := 0) (rm_fin l Z a0 hw [] ch T_12.heap n0 Z_12 nnch fich) hZ_10 (ow hw 187 rfl) (ow hw 186 rfl) (by decide) (by decide)) (g := (mkF mM 208 (lc25 a wd hg ox oy cw ch co g__12) [(.double ch)])) rfl (by rw [hml]; rfl) (argsL := [(.double ch)]) (rest := []) (lenOf pd_24 rfl) rfl (by show 2 * 0 + _ ≤ _; exact Nat.le_of_eq rfl) (hb hby d_prog_8m1_208) (fun _ _ => ⟨rfl, eh_15, (by decide : 11 + 0 ≤ _), (by decide : 180 + 0 ≤ _)⟩)
  dsimp only [Pt.U, Pt.locs, Pt.cells, Pt.slots] at X_16 l_16 y_16 z_16 st_16 hQ_16
  subst l_16 y_16 z_16
  obtain ⟨rfl, N_16q, eh_16⟩ := hQ_16
  have N_16 := Fr.app N_15 N_16q
  have Rt_6 := (((((((((((F_width_a.ext E_2).keep Kc_3 (ninS (Nat.ne_of_lt (Nat.lt_of_lt_of_le E_a.lt (Nat.le_of_eq g_2.symm))) nin0)).ext E_4).keep Kc_5 (ninS (Nat.ne_of_lt (Nat.lt_of_lt_of_le E_a.lt (Nat.le_of_eq g_2.symm))) (ninS (Nat.ne_of_lt (Nat.lt_of_lt_of_le (E_a.ext E_2).lt pfsz_d_3)) nin0))).keep Kc_6 (ninS (Nat.ne_of_lt (Nat.lt_of_lt_of_le E_a.lt (Nat.le_of_eq g_2.symm))) (ninS (Nat.ne_of_lt (Nat.lt_of_lt_of_le (E_a.ext E_2).lt pfsz_d_3)) nin0))).ext E_7).keep Kc_8 (ninS (Nat.ne_of_lt (Nat.lt_of_lt_of_le E_a.lt (Nat.le_of_eq g_2.symm))) (ninS (Nat.ne_of_lt (Nat.lt_of_lt_of_le (E_a.ext E_2).lt pfsz_d_3)) nin0))).keep Kc_9 (ninS (Nat.ne_of_lt (Nat.lt_of_lt_of_le E_a.lt (Nat.le_of_eq g_2.symm))) nin0)).ext E_10).keep Kc_11 (ninS (Nat.ne_of_lt (Nat.lt_of_lt_of_le E_a.lt (Nat.le_of_eq g_2.symm))) (ninS (Nat.ne_of_lt (Nat.lt_of_lt_of_le (((((((E_a.ext E_2).keep Kc_3).ext E_4).keep Kc_5).keep Kc_6).ext E_7).keep Kc_8).lt pfsz_d2_9)) nin0))).keep Kc_12 nin0)
  obtain ⟨T_17, h_17, X_17, e_17, W_17, st_17⟩ := putF X_16 hx hZ_10 hown_10 (host := "") (Or.inl (ow hw 192 rfl)) Via.refl eh_16 Rt_6 (((((((((((E_a.ext E_2).keep Kc_3).ext E_4).keep Kc_5).keep Kc_6).ext E_7).keep Kc_8).keep Kc_9).ext E_10).keep Kc_11).keep Kc_12) (Or.inr ⟨(ow hw 193 rfl), rfl, hnm⟩) (ow hw 3 rfl) (ty := .int) (by decide) rfl rfl (g := (mkF mM 259 (lc25 a wd hg ox oy cw ch co g__12) [(.int wd), (.ref a)])) rfl rfl (hb hby d_prog_8m1_259)
  have Fw_17 := Rt_6.same W_17
  have Z_17 : n0 ≤ h_17.size := (Nat.le_trans Z_12 (Keep.of_wr W_17).1)
  have K_17 : Keep h0 h_17 [a] := K_12.wr W_17 (Or.inl (List.mem_of_getElem? (i := 0) rfl))
  have hk_17 : _ ≤ h_17.size := Nat.le_trans hk_12 (Keep.of_wr W_17).1
  have Ca_17 := CHr.wr W_17 (Safe.exa hZ_10.alike (((((((((((E_a.ext E_2).keep Kc_3).ext E_4).keep Kc_5).keep Kc_6).ext E_7).keep Kc_8).keep Kc_9).ext E_10).keep Kc_11).keep Kc_12) (by decide) (by decide)) CR_12.1
  have CR_17 := CR_12.trans Ca_17
  have Sf_d__3_17 := Ca_17.safe (Rt_5.keep Kc_12 nin0).lt Sf_d__3_12
  have Sf_d2__9_17 := Ca_17.safe (pfB_d_11.keep Kc_12 nin0).lt Sf_d2__9_12
  have N_17 := Fr.snoc X_17 N_16 g_a
  have Rt_7 := ((((((((((((F_height_a.ext E_2).keep Kc_3 (ninS (Nat.ne_of_lt (Nat.lt_of_lt_of_le E_a.lt (Nat.le_of_eq g_2.symm))) nin0)).ext E_4).keep Kc_5 (ninS (Nat.ne_of_lt (Nat.lt_of_lt_of_le E_a.lt (Nat.le_of_eq g_2.symm))) (ninS (Nat.ne_of_lt (Nat.lt_of_lt_of_le (E_a.ext E_2).lt pfsz_d_3)) nin0))).keep Kc_6 (ninS (Nat.ne_of_lt (Nat.lt_of_lt_of_le E_a.lt (Nat.le_of_eq g_2.symm))) (ninS (Nat.ne_of_lt (Nat.lt_of_lt_of_le (E_a.ext E_2).lt pfsz_d_3)) nin0))).ext E_7).keep Kc_8 (ninS (Nat.ne_of_lt (Nat.lt_of_lt_of_le E_a.lt (Nat.le_of_eq g_2.symm))) (ninS (Nat.ne_of_lt (Nat.lt_of_lt_of_le (E_a.ext E_2).lt pfsz_d_3)) nin0))).keep Kc_9 (ninS (Nat.ne_of_lt (Nat.lt_of_lt_of_le E_a.lt (Nat.le_of_eq g_2.symm))) nin0)).ext E_10).keep Kc_11 (ninS (Nat.ne_of_lt (Nat.lt_of_lt_of_le E_a.lt (Nat.le_of_eq g_2.symm))) (ninS (Nat.ne_of_lt (Nat.lt_of_lt_of_le (((((((E_a.ext E_2).keep Kc_3).ext E_4).keep Kc_5).keep Kc_6).ext E_7).keep Kc_8).lt pfsz_d2_9)) nin0))).keep Kc_12 nin0).other W_17 (Or.inr (slot_ne (Or.inr (ow hw 195 rfl)) (Or.inr (ow hw 193 rfl)) (by decide) (t := .int) (t' := .int) (by decide) (by decide))))
  obtain ⟨T_18, h_18, X_18, e_18, W_18, st_18⟩ := putF X_17 hx hZ_10 hown_10 (host := "") (Or.inl (ow hw 194 rfl)) Via.refl e_17 Rt_7 ((((((((((((E_a.ext E_2).keep Kc_3).ext E_4).keep Kc_5).keep Kc_6).ext E_7).keep Kc_8).keep Kc_9).ext E_10).keep Kc_11).keep Kc_12).wr W_17) (Or.inr ⟨(ow hw 195 rfl), rfl, hnm⟩) (ow hw 3 rfl) (ty := .int) (by decide) rfl rfl (g := (mkF mM 264 (lc25 a wd hg ox oy cw ch co g__12) [(.int hg), (.ref a)])) rfl rfl (hb hby d_prog_8m1_264)
  have Fw_18 := Rt_7.same W_18
  have Rt_8 := ((pfB_d_11.keep Kc_12 nin0).other W_17 (Ne.symm (Nat.ne_of_lt (Nat.lt_of_lt_of_le (((((((E_a.ext E_2).keep Kc_3).ext E_4).keep Kc_5).keep Kc_6).ext E_7).keep Kc_8).lt pfsz_d2_9))))
  have Z_18 : n0 ≤ h_18.size := (Nat.le_trans Z_17 (Keep.of_wr W_18).1)
  have K_18 : Keep h0 h_18 [a] := K_17.wr W_18 (Or.inl (List.mem_of_getElem? (i := 0) rfl))
  have hk_18 : _ ≤ h_18.size := Nat.le_trans hk_17 (Keep.of_wr W_18).1
  have Ca_18 := CHr.wr W_18 (Safe.exa hZ_10.alike ((((((((((((E_a.ext E_2).keep Kc_3).ext E_4).keep Kc_5).keep Kc_6).ext E_7).keep Kc_8).keep Kc_9).ext E_10).keep Kc_11).keep Kc_12).wr W_17) (by decide) (by decide)) CR_17.1
  have CR_18 := CR_17.trans Ca_18
  have Sf_d__3_18 := Ca_18.safe ((Rt_5.keep Kc_12 nin0).other W_17 (Ne.symm (Nat.ne_of_lt (Nat.lt_of_lt_of_le (E_a.ext E_2).lt pfsz_d_3)))).lt Sf_d__3_17
  have Sf_d2__9_18 := Ca_18.safe Rt_8.lt Sf_d2__9_17
  have N_18 := Fr.snoc X_18 N_17 g_a
  have Rt_9 := (((((((((((((F_originX_a.ext E_2).keep Kc_3 (ninS (Nat.ne_of_lt (Nat.lt_of_lt_of_le E_a.lt (Nat.le_of_eq g_2.symm))) nin0)).ext E_4).keep Kc_5 (ninS (Nat.ne_of_lt (Nat.lt_of_lt_of_le E_a.lt (Nat.le_of_eq g_2.symm))) (ninS (Nat.ne_of_lt (Nat.lt_of_lt_of_le (E_a.ext E_2).lt pfsz_d_3)) nin0))).keep Kc_6 (ninS (Nat.ne_of_lt (Nat.lt_of_lt_of_le E_a.lt (Nat.le_of_eq g_2.symm))) (ninS (Nat.ne_of_lt (Nat.lt_of_lt_of_le (E_a.ext E_2).lt pfsz_d_3)) nin0))).ext E_7).keep Kc_8 (ninS (Nat.ne_of_lt (Nat.lt_of_lt_of_le E_a.lt (Nat.le_of_eq g_2.symm))) (ninS (Nat.ne_of_lt (Nat.lt_of_lt_of_le (E_a.ext E_2).lt pfsz_d_3)) nin0))).keep Kc_9 (ninS (Nat.ne_of_lt (Nat.lt_of_lt_of_le E_a.lt (Nat.le_of_eq g_2.symm))) nin0)).ext E_10).keep Kc_11 (ninS (Nat.ne_of_lt (Nat.lt_of_lt_of_le E_a.lt (Nat.le_of_eq g_2.symm))) (ninS (Nat.ne_of_lt (Nat.lt_of_lt_of_le (((((((E_a.ext E_2).keep Kc_3).ext E_4).keep Kc_5).keep Kc_6).ext E_7).keep Kc_8).lt pfsz_d2_9)) nin0))).keep Kc_12 nin0).other W_17 (Or.inr (slot_ne (Or.inr (ow hw 197 rfl)) (Or.inr (ow hw 193 rfl)) (by decide) (t := .double) (t' := .int) (by decide) (by decide)))).other W_18 (Or.inr (slot_ne (Or.inr (ow hw 197 rfl)) (Or.inr (ow hw 195 rfl)) (by decide) (t := .double) (t' := .int) (by decide) (by decide))))
  obtain ⟨T_19, h_19, X_19, e_19, W_19, st_19⟩ := putF X_18 hx hZ_10 hown_10 (host := "") (Or.inl (ow hw 196 rfl)) Via.refl e_18 Rt_9 (((((((((((((E_a.ext E_2).keep Kc_3).ext E_4).keep Kc_5).keep Kc_6).ext E_7).keep Kc_8).keep Kc_9).ext E_10).keep Kc_11).keep Kc_12).wr W_17).wr W_18) (Or.inr ⟨(ow hw 197 rfl), rfl, hnm⟩) (ow hw 3 rfl) (ty := .double) (by decide) rfl rfl (g := (mkF mM 269 (lc25 a wd hg ox oy cw ch co g__12) [(.double ox), (.ref a)])) rfl rfl (hb hby d_prog_8m1_269)
  have Fw_19 := Rt_9.same W_19
  have Rt_10 := (((Rt_5.keep Kc_12 nin0).other W_17 (Ne.symm (Nat.ne_of_lt (Nat.lt_of_lt_of_le (E_a.ext E_2).lt pfsz_d_3)))).other W_18 (Ne.symm (Nat.ne_of_lt (Nat.lt_of_lt_of_le (E_a.ext E_2).lt pfsz_d_3))))
  have Rt_11 := (Rt_8.other W_18 (Ne.symm (Nat.ne_of_lt (Nat.lt_of_lt_of_le (((((((E_a.ext E_2).keep Kc_3).ext E_4).keep Kc_5).keep Kc_6).ext E_7).keep Kc_8).lt pfsz_d2_9))))
  have Z_19 : n0 ≤ h_19.size := (Nat.le_trans Z_18 (Keep.of_wr W_19).1)
  have K_19 : Keep h0 h_19 [a] := K_18.wr W_19 (Or.inl (List.mem_of_getElem? (i := 0) rfl))
  have hk_19 : _ ≤ h_19.size := Nat.le_trans hk_18 (Keep.of_wr W_19).1
  have Ca_19 := CHr.wr W_19 (Safe.exa hZ_10.alike (((((((((((((E_a.ext E_2).keep Kc_3).ext E_4).keep Kc_5).keep Kc_6).ext E_7).keep Kc_8).keep Kc_9).ext E_10).keep Kc_11).keep Kc_12).wr W_17).wr W_18) (by decide) (by decide)) CR_18.1
  have CR_19 := CR_18.trans Ca_19
  have Sf_d__3_19 := Ca_19.safe Rt_10.lt Sf_d__3_18
  have Sf_d2__9_19 := Ca_19.safe Rt_11.lt Sf_d2__9_18
  have N_19 := Fr.snoc X_19 N_18 g_a
  have Rt_12 := ((((((((((((((F_originY_a.ext E_2).keep Kc_3 (ninS (Nat.ne_of_lt (Nat.lt_of_lt_of_le E_a.lt (Nat.le_of_eq g_2.symm))) nin0)).ext E_4).keep Kc_5 (ninS (Nat.ne_of_lt (Nat.lt_of_lt_of_le E_a.lt (Nat.le_of_eq g_2.symm))) (ninS (Nat.ne_of_lt (Nat.lt_of_lt_of_le (E_a.ext E_2).lt pfsz_d_3)) nin0))).keep Kc_6 (ninS (Nat.ne_of_lt (Nat.lt_of_lt_of_le E_a.lt (Nat.le_of_eq g_2.symm))) (ninS (Nat.ne_of_lt (Nat.lt_of_lt_of_le (E_a.ext E_2).lt pfsz_d_3)) nin0))).ext E_7).keep Kc_8 (ninS (Nat.ne_of_lt (Nat.lt_of_lt_of_le E_a.lt (Nat.le_of_eq g_2.symm))) (ninS (Nat.ne_of_lt (Nat.lt_of_lt_of_le (E_a.ext E_2).lt pfsz_d_3)) nin0))).keep Kc_9 (ninS (Nat.ne_of_lt (Nat.lt_of_lt_of_le E_a.lt (Nat.le_of_eq g_2.symm))) nin0)).ext E_10).keep Kc_11 (ninS (Nat.ne_of_lt (Nat.lt_of_lt_of_le E_a.lt (Nat.le_of_eq g_2.symm))) (ninS (Nat.ne_of_lt (Nat.lt_of_lt_of_le (((((((E_a.ext E_2).keep Kc_3).ext E_4).keep Kc_5).keep Kc_6).ext E_7).keep Kc_8).lt pfsz_d2_9)) nin0))).keep Kc_12 nin0).other W_17 (Or.inr (slot_ne (Or.inr (ow hw 199 rfl)) (Or.inr (ow hw 193 rfl)) (by decide) (t := .double) (t' := .int) (by decide) (by decide)))).other W_18 (Or.inr (slot_ne (Or.inr (ow hw 199 rfl)) (Or.inr (ow hw 195 rfl)) (by decide) (t := .double) (t' := .int) (by decide) (by decide)))).other W_19 (Or.inr (slot_ne (Or.inr (ow hw 199 rfl)) (Or.inr (ow hw 197 rfl)) (by decide) (t := .double) (t' := .double) (by decide) (by decide))))
  have Rt_13 := ((((((((((((((E_a.ext E_2).keep Kc_3).ext E_4).keep Kc_5).keep Kc_6).ext E_7).keep Kc_8).keep Kc_9).ext E_10).keep Kc_11).keep Kc_12).wr W_17).wr W_18).wr W_19)
  obtain ⟨T_20, h_20, X_20, e_20, W_20, st_20⟩ := putF X_19 hx hZ_10 hown_10 (host := "") (Or.inl (ow hw 198 rfl)) Via.refl e_19 Rt_12 Rt_13 (Or.inr ⟨(ow hw 199 rfl), rfl, hnm⟩) (ow hw 3 rfl) (ty := .double) (by decide) rfl rfl (g := (mkF mM 275 (lc25 a wd hg ox oy cw ch co g__12) [(.double oy), (.ref a)])) rfl rfl (hb hby d_prog_8m1_275)
  have Fw_20 := Rt_12.same W_20
  have Rt_14 := (Rt_11.other W_19 (Ne.symm (Nat.ne_of_lt (Nat.lt_of_lt_of_le (((((((E_a.ext E_2).keep Kc_3).ext E_4).keep Kc_5).keep Kc_6).ext E_7).keep Kc_8).lt pfsz_d2_9))))
  have Z_20 : n0 ≤ h_20.size := (Nat.le_trans Z_19 (Keep.of_wr W_20).1)
  have K_20 : Keep h0 h_20 [a] := K_19.wr W_20 (Or.inl (List.mem_of_getElem? (i := 0) rfl))
  have hk_20 : _ ≤ h_20.size := Nat.le_trans hk_19 (Keep.of_wr W_20).1
  have Ca_20 := CHr.wr W_20 (Safe.exa hZ_10.alike Rt_13 (by decide) (by decide)) CR_19.1
  have CR_20 := CR_19.trans Ca_20
  have Sf_d__3_20 := Ca_20.safe (Rt_10.other W_19 (Ne.symm (Nat.ne_of_lt (Nat.lt_of_lt_of_le (E_a.ext E_2).lt pfsz_d_3)))).lt Sf_d__3_19
  have Sf_d2__9_20 := Ca_20.safe Rt_14.lt Sf_d2__9_19
  have N_20 := Fr.snoc X_20 N_19 g_a
  have Rt_15 := (((((((((((((((F_cellWidth_a.ext E_2).keep Kc_3 (ninS (Nat.ne_of_lt (Nat.lt_of_lt_of_le E_a.lt (Nat.le_of_eq g_2.symm))) nin0)).ext E_4).keep Kc_5 (ninS (Nat.ne_of_lt (Nat.lt_of_lt_of_le E_a.lt (Nat.le_of_eq g_2.symm))) (ninS (Nat.ne_of_lt (Nat.lt_of_lt_of_le (E_a.ext E_2).lt pfsz_d_3)) nin0))).keep Kc_6 (ninS (Nat.ne_of_lt (Nat.lt_of_lt_of_le E_a.lt (Nat.le_of_eq g_2.symm))) (ninS (Nat.ne_of_lt (Nat.lt_of_lt_of_le (E_a.ext E_2).lt pfsz_d_3)) nin0))).ext E_7).keep Kc_8 (ninS (Nat.ne_of_lt (Nat.lt_of_lt_of_le E_a.lt (Nat.le_of_eq g_2.symm))) (ninS (Nat.ne_of_lt (Nat.lt_of_lt_of_le (E_a.ext E_2).lt pfsz_d_3)) nin0))).keep Kc_9 (ninS (Nat.ne_of_lt (Nat.lt_of_lt_of_le E_a.lt (Nat.le_of_eq g_2.symm))) nin0)).ext E_10).keep Kc_11 (ninS (Nat.ne_of_lt (Nat.lt_of_lt_of_le E_a.lt (Nat.le_of_eq g_2.symm))) (ninS (Nat.ne_of_lt (Nat.lt_of_lt_of_le (((((((E_a.ext E_2).keep Kc_3).ext E_4).keep Kc_5).keep Kc_6).ext E_7).keep Kc_8).lt pfsz_d2_9)) nin0))).keep Kc_12 nin0).other W_17 (Or.inr (slot_ne (Or.inr (ow hw 201 rfl)) (Or.inr (ow hw 193 rfl)) (by decide) (t := .double) (t' := .int) (by decide) (by decide)))).other W_18 (Or.inr (slot_ne (Or.inr (ow hw 201 rfl)) (Or.inr (ow hw 195 rfl)) (by decide) (t := .double) (t' := .int) (by decide) (by decide)))).other W_19 (Or.inr (slot_ne (Or.inr (ow hw 201 rfl)) (Or.inr (ow hw 197 rfl)) (by decide) (t := .double) (t' := .double) (by decide) (by decide)))).other W_20 (Or.inr (slot_ne (Or.inr (ow hw 201 rfl)) (Or.inr (ow hw 199 rfl)) (by decide) (t := .double) (t' := .double) (by decide) (by decide))))
  obtain ⟨T_21, h_21, X_21, e_21, W_21, st_21⟩ := putF X_20 hx hZ_10 hown_10 (host := "") (Or.inl (ow hw 200 rfl)) Via.refl e_20 Rt_15 (Rt_13.wr W_20) (Or.inr ⟨(ow hw 201 rfl), rfl, hnm⟩) (ow hw 3 rfl) (ty := .double) (by decide) rfl rfl (g := (mkF mM 281 (lc25 a wd hg ox oy cw ch co g__12) [(.double cw), (.ref a)])) rfl rfl (hb hby d_prog_8m1_281)
  have Fw_21 := Rt_15.same W_21
  have Rt_16 := ((Rt_10.other W_19 (Ne.symm (Nat.ne_of_lt (Nat.lt_of_lt_of_le (E_a.ext E_2).lt pfsz_d_3)))).other W_20 (Ne.symm (Nat.ne_of_lt (Nat.lt_of_lt_of_le (E_a.ext E_2).lt pfsz_d_3))))
  have Rt_17 := (Rt_14.other W_20 (Ne.symm (Nat.ne_of_lt (Nat.lt_of_lt_of_le (((((((E_a.ext E_2).keep Kc_3).ext E_4).keep Kc_5).keep Kc_6).ext E_7).keep Kc_8).lt pfsz_d2_9))))
  have Z_21 : n0 ≤ h_21.size := (Nat.le_trans Z_20 (Keep.of_wr W_21).1)
  have K_21 : Keep h0 h_21 [a] := K_20.wr W_21 (Or.inl (List.mem_of_getElem? (i := 0) rfl))
  have hk_21 : _ ≤ h_21.size := Nat.le_trans hk_20 (Keep.of_wr W_21).1
  have Ca_21 := CHr.wr W_21 (Safe.exa hZ_10.alike (Rt_13.wr W_20) (by decide) (by decide)) CR_20.1
  have CR_21 := CR_20.trans Ca_21
  have Sf_d__3_21 := Ca_21.safe Rt_16.lt Sf_d__3_20
  have Sf_d2__9_21 := Ca_21.safe Rt_17.lt Sf_d2__9_20
  have N_21 := Fr.snoc X_21 N_20 g_a
  have Rt_18 := ((((((((((((((((F_cellHeight_a.ext E_2).keep Kc_3 (ninS (Nat.ne_of_lt (Nat.lt_of_lt_of_le E_a.lt (Nat.le_of_eq g_2.symm))) nin0)).ext E_4).keep Kc_5 (ninS (Nat.ne_of_lt (Nat.lt_of_lt_of_le E_a.lt (Nat.le_of_eq g_2.symm))) (ninS (Nat.ne_of_lt (Nat.lt_of_lt_of_le (E_a.ext E_2).lt pfsz_d_3)) nin0))).keep Kc_6 (ninS (Nat.ne_of_lt (Nat.lt_of_lt_of_le E_a.lt (Nat.le_of_eq g_2.symm))) (ninS (Nat.ne_of_lt (Nat.lt_of_lt_of_le (E_a.ext E_2).lt pfsz_d_3)) nin0))).ext E_7).keep Kc_8 (ninS (Nat.ne_of_lt (Nat.lt_of_lt_of_le E_a.lt (Nat.le_of_eq g_2.symm))) (ninS (Nat.ne_of_lt (Nat.lt_of_lt_of_le (E_a.ext E_2).lt pfsz_d_3)) nin0))).keep Kc_9 (ninS (Nat.ne_of_lt (Nat.lt_of_lt_of_le E_a.lt (Nat.le_of_eq g_2.symm))) nin0)).ext E_10).keep Kc_11 (ninS (Nat.ne_of_lt (Nat.lt_of_lt_of_le E_a.lt (Nat.le_of_eq g_2.symm))) (ninS (Nat.ne_of_lt (Nat.lt_of_lt_of_le (((((((E_a.ext E_2).keep Kc_3).ext E_4).keep Kc_5).keep Kc_6).ext E_7).keep Kc_8).lt pfsz_d2_9)) nin0))).keep Kc_12 nin0).other W_17 (Or.inr (slot_ne (Or.inr (ow hw 203 rfl)) (Or.inr (ow hw 193 rfl)) (by decide) (t := .double) (t' := .int) (by decide) (by decide)))).other W_18 (Or.inr (slot_ne (Or.inr (ow hw 203 rfl)) (Or.inr (ow hw 195 rfl)) (by decide) (t := .double) (t' := .int) (by decide) (by decide)))).other W_19 (Or.inr (slot_ne (Or.inr (ow hw 203 rfl)) (Or.inr (ow hw 197 rfl)) (by decide) (t := .double) (t' := .double) (by decide) (by decide)))).other W_20 (Or.inr (slot_ne (Or.inr (ow hw 203 rfl)) (Or.inr (ow hw 199 rfl)) (by decide) (t := .double) (t' := .double) (by decide) (by decide)))).other W_21 (Or.inr (slot_ne (Or.inr (ow hw 203 rfl)) (Or.inr (ow hw 201 rfl)) (by decide) (t := .double) (t' := .double) (by decide) (by decide))))
  obtain ⟨T_22, h_22, X_22, e_22, W_22, st_22⟩ := putF X_21 hx hZ_10 hown_10 (host := "") (Or.inl (ow hw 202 rfl)) Via.refl e_21 Rt_18 ((Rt_13.wr W_20).wr W_21) (Or.inr ⟨(ow hw 203 rfl), rfl, hnm⟩) (ow hw 3 rfl) (ty := .double) (by decide) rfl rfl (g := (mkF mM 287 (lc25 a wd hg ox oy cw ch co g__12) [(.double ch), (.ref a)])) rfl rfl (hb hby d_prog_8m1_287)
  have Fw_22 := Rt_18.same W_22
  have Rt_19 := (Rt_17.other W_21 (Ne.symm (Nat.ne_of_lt (Nat.lt_of_lt_of_le (((((((E_a.ext E_2).keep Kc_3).ext E_4).keep Kc_5).keep Kc_6).ext E_7).keep Kc_8).lt pfsz_d2_9))))
  have Z_22 : n0 ≤ h_22.size := (Nat.le_trans Z_21 (Keep.of_wr W_22).1)
  have K_22 : Keep h0 h_22 [a] := K_21.wr W_22 (Or.inl (List.mem_of_getElem? (i := 0) rfl))
  have hk_22 : _ ≤ h_22.size := Nat.le_trans hk_21 (Keep.of_wr W_22).1
  have Ca_22 := CHr.wr W_22 (Safe.exa hZ_10.alike ((Rt_13.wr W_20).wr W_21) (by decide) (by decide)) CR_21.1
  have CR_22 := CR_21.trans Ca_22
  have Sf_d__3_22 := Ca_22.safe (Rt_16.other W_21 (Ne.symm (Nat.ne_of_lt (Nat.lt_of_lt_of_le (E_a.ext E_2).lt pfsz_d_3)))).lt Sf_d__3_21
  have Sf_d2__9_22 := Ca_22.safe Rt_19.lt Sf_d2__9_21
  have N_22 := Fr.snoc X_22 N_21 g_a
  have Rt_20 := (((((((((((((((((F_coordinates_a.ext E_2).keep Kc_3 (ninS (Nat.ne_of_lt (Nat.lt_of_lt_of_le E_a.lt (Nat.le_of_eq g_2.symm))) nin0)).ext E_4).keep Kc_5 (ninS (Nat.ne_of_lt (Nat.lt_of_lt_of_le E_a.lt (Nat.le_of_eq g_2.symm))) (ninS (Nat.ne_of_lt (Nat.lt_of_lt_of_le (E_a.ext E_2).lt pfsz_d_3)) nin0))).keep Kc_6 (ninS (Nat.ne_of_lt (Nat.lt_of_lt_of_le E_a.lt (Nat.le_of_eq g_2.symm))) (ninS (Nat.ne_of_lt (Nat.lt_of_lt_of_le (E_a.ext E_2).lt pfsz_d_3)) nin0))).ext E_7).keep Kc_8 (ninS (Nat.ne_of_lt (Nat.lt_of_lt_of_le E_a.lt (Nat.le_of_eq g_2.symm))) (ninS (Nat.ne_of_lt (Nat.lt_of_lt_of_le (E_a.ext E_2).lt pfsz_d_3)) nin0))).keep Kc_9 (ninS (Nat.ne_of_lt (Nat.lt_of_lt_of_le E_a.lt (Nat.le_of_eq g_2.symm))) nin0)).ext E_10).keep Kc_11 (ninS (Nat.ne_of_lt (Nat.lt_of_lt_of_le E_a.lt (Nat.le_of_eq g_2.symm))) (ninS (Nat.ne_of_lt (Nat.lt_of_lt_of_le (((((((E_a.ext E_2).keep Kc_3).ext E_4).keep Kc_5).keep Kc_6).ext E_7).keep Kc_8).lt pfsz_d2_9)) nin0))).keep Kc_12 nin0).other W_17 (Or.inr (slot_ne (Or.inr (ow hw 205 rfl)) (Or.inr (ow hw 193 rfl)) (by decide) (t := (.object "com/example/greenweft/greenweft/map/Coordinates")) (t' := .int) (by decide) (by decide)))).other W_18 (Or.inr (slot_ne (Or.inr (ow hw 205 rfl)) (Or.inr (ow hw 195 rfl)) (by decide) (t := (.object "com/example/greenweft/greenweft/map/Coordinates")) (t' := .int) (by decide) (by decide)))).other W_19 (Or.inr (slot_ne (Or.inr (ow hw 205 rfl)) (Or.inr (ow hw 197 rfl)) (by decide) (t := (.object "com/example/greenweft/greenweft/map/Coordinates")) (t' := .double) (by decide) (by decide)))).other W_20 (Or.inr (slot_ne (Or.inr (ow hw 205 rfl)) (Or.inr (ow hw 199 rfl)) (by decide) (t := (.object "com/example/greenweft/greenweft/map/Coordinates")) (t' := .double) (by decide) (by decide)))).other W_21 (Or.inr (slot_ne (Or.inr (ow hw 205 rfl)) (Or.inr (ow hw 201 rfl)) (by decide) (t := (.object "com/example/greenweft/greenweft/map/Coordinates")) (t' := .double) (by decide) (by decide)))).other W_22 (Or.inr (slot_ne (Or.inr (ow hw 205 rfl)) (Or.inr (ow hw 203 rfl)) (by decide) (t := (.object "com/example/greenweft/greenweft/map/Coordinates")) (t' := .double) (by decide) (by decide))))
  obtain ⟨T_23, h_23, X_23, e_23, W_23, st_23⟩ := putF X_22 hx hZ_10 hown_10 (host := "") (Or.inl (ow hw 204 rfl)) Via.refl e_22 Rt_20 (((Rt_13.wr W_20).wr W_21).wr W_22) (Or.inr ⟨(ow hw 205 rfl), rfl, hnm⟩) (ow hw 3 rfl) (ty := (.object "com/example/greenweft/greenweft/map/Coordinates")) (by decide) rfl rfl (g := (mkF mM 293 (lc25 a wd hg ox oy cw ch co g__12) [(.ref co), (.ref a)])) rfl rfl (hb hby d_prog_8m1_293)
  have Fw_23 := Rt_20.same W_23
  have Rt_21 := ((Rt_16.other W_21 (Ne.symm (Nat.ne_of_lt (Nat.lt_of_lt_of_le (E_a.ext E_2).lt pfsz_d_3)))).other W_22 (Ne.symm (Nat.ne_of_lt (Nat.lt_of_lt_of_le (E_a.ext E_2).lt pfsz_d_3))))
  have Rt_22 := (Rt_19.other W_22 (Ne.symm (Nat.ne_of_lt (Nat.lt_of_lt_of_le (((((((E_a.ext E_2).keep Kc_3).ext E_4).keep Kc_5).keep Kc_6).ext E_7).keep Kc_8).lt pfsz_d2_9))))
  have Z_23 : n0 ≤ h_23.size := (Nat.le_trans Z_22 (Keep.of_wr W_23).1)
  have K_23 : Keep h0 h_23 [a] := K_22.wr W_23 (Or.inl (List.mem_of_getElem? (i := 0) rfl))
  have hk_23 : _ ≤ h_23.size := Nat.le_trans hk_22 (Keep.of_wr W_23).1
  have Ca_23 := CHr.wr W_23 (Safe.exa hZ_10.alike (((Rt_13.wr W_20).wr W_21).wr W_22) (by decide) (by decide)) CR_22.1
  have CR_23 := CR_22.trans Ca_23
  have Sf_d__3_23 := Ca_23.safe Rt_21.lt Sf_d__3_22
  have Sf_d2__9_23 := Ca_23.safe Rt_22.lt Sf_d2__9_22
  have N_23 := Fr.snoc X_23 N_22 g_a
  have hCF : CHr Z own_EL sS.vm sS.heap T_23.vm T_23.heap := by rw [hh, e_23]; exact CR_23.trans (CHv.at X_23 hZ_10 (own_EW hw) CR_23.1)
  obtain ⟨fs, hr, hrun, hended, hRE⟩ := X_23.leaveW hS_10 (show _ ≤ T_23.heap.size by rw [e_23]; exact hk_23) (v := none) (fun _ => rfl)
  refine ⟨_, _, pre0 _ ?_, hrun, hended, _, _, rfl, ?_, hCF, ⟨_, rfl⟩, hRE.2.1, hRE.2.2.1, hRE.2.2.2.mono (by decide) (by decide)⟩
  · show oS pP eE below s₁ (mkF mM 0 (lc24 a wd hg ox oy cw ch co) []) _
    refine XS.aloadN X0.here hx rfl (hb hby d_prog_8m1_0) rfl rfl ?_
    show oS pP eE below s₁ (mkF mM 1 (lc24 a wd hg ox oy cw ch co) [(.ref a)]) _
    refine st_1.trans ?_
    show oS pP eE below T_1 (mkF mM 4 (lc24 a wd hg ox oy cw ch co) []) _
    refine st_2 _ ?_
    show oS pP eE below T_2 (mkF mM 7 (lc24 a wd hg ox oy cw ch co) [(.ref b_2)]) _
    refine XS.dup X_2.here hx rfl (hb hby d_prog_8m1_7) rfl rfl ?_
    show oS pP eE below T_2 (mkF mM 8 (lc24 a wd hg ox oy cw ch co) [(.ref b_2), (.ref b_2)]) _
    refine st_3.trans ?_
    show oS pP eE below T_3 (mkF mM 11 (lc24 a wd hg ox oy cw ch co) [(.ref b_2)]) _
    refine st_4 _ ?_
    show oS pP eE below T_4 (mkF mM 13 (lc24 a wd hg ox oy cw ch co) [(.ref a_4), (.ref b_2)]) _
    refine st_5.trans ?_
    show oS pP eE below T_5 (mkF mM 16 (lc24 a wd hg ox oy cw ch co) [(.ref b_2)]) _
    refine XS.iloadN X_5.here hx rfl (hb hby d_prog_8m1_16) rfl ?_
    show oS pP eE below T_5 (mkF mM 17 (lc24 a wd hg ox oy cw ch co) [(.int wd), (.ref b_2)]) _
    refine st_6.trans ?_
    show oS pP eE below T_6 (mkF mM 20 (lc24 a wd hg ox oy cw ch co) [(.ref b_2)]) _
    refine st_7 _ ?_
    show oS pP eE below T_7 (mkF mM 22 (lc24 a wd hg ox oy cw ch co) [(.ref a_7), (.ref b_2)]) _
    refine st_8.trans ?_
    show oS pP eE below T_8 (mkF mM 25 (lc24 a wd hg ox oy cw ch co) [(.ref b_2)]) _
    refine XS.iloadN X_8.here hx rfl (hb hby d_prog_8m1_25) rfl ?_
    show oS pP eE below T_8 (mkF mM 26 (lc24 a wd hg ox oy cw ch co) [(.int hg), (.ref b_2)]) _
    refine st_9.trans ?_
    show oS pP eE below T_9 (mkF mM 29 (lc24 a wd hg ox oy cw ch co) [(.ref b_2)]) _
    refine st_10 _ ?_
    show oS pP eE below T_10 (mkF mM 31 (lc24 a wd hg ox oy cw ch co) [(.ref a_10), (.ref b_2)]) _
    refine st_11.trans ?_
    show oS pP eE below T_11 (mkF mM 34 (lc24 a wd hg ox oy cw ch co) [(.ref b_2)]) _
    refine st_12.trans ?_
    show oS pP eE below T_12 (mkF mM 37 (lc24 a wd hg ox oy cw ch co) [(.ref g__12)]) _
    refine XS.astore X_12.here hx rfl (hb hby d_prog_8m1_37) rfl rfl (l' := (lc25 a wd hg ox oy cw ch co g__12)) rfl ?_
    refine XS.iloadN X_12.here hx rfl (hb hby d_prog_8m1_39) rfl ?_
    refine XS.iconst X_12.here hx rfl (hb hby d_prog_8m1_40) ?_
    refine XS.icmpNo X_12.here hx rfl (hb hby d_prog_8m1_41) rfl (XT.ii_lt_f hw1) ?_
    refine XS.iloadN X_12.here hx rfl (hb hby d_prog_8m1_44) rfl ?_
    refine XS.iconst X_12.here hx rfl (hb hby d_prog_8m1_45) ?_
    refine XS.icmpYes X_12.here hx rfl (pc0 := 46) (pc' := 77) rfl (hb hby d_prog_8m1_46) rfl (XT.ii_ge_t hh1) (by decide) (by decide) ?_
    refine XS.iloadN X_12.here hx rfl (hb hby d_prog_8m1_77) rfl ?_
    show oS pP eE below T_12 (mkF mM 78 (lc25 a wd hg ox oy cw ch co g__12) [(.int wd)]) _
    refine XT.i2l X_12.here hx rfl (hb hby d_prog_8m1_78) rfl ?_
    refine XS.iloadN X_12.here hx rfl (hb hby d_prog_8m1_79) rfl ?_
    show oS pP eE below T_12 (mkF mM 80 (lc25 a wd hg ox oy cw ch co g__12) [(.int hg), (.long (wd.toInt64))]) _
    refine XT.i2l X_12.here hx rfl (hb hby d_prog_8m1_80) rfl ?_
    show oS pP eE below T_12 (mkF mM 81 (lc25 a wd hg ox oy cw ch co g__12) [(.long (hg.toInt64)), (.long (wd.toInt64))]) _
    refine XT.lmul X_12.here hx rfl (hb hby d_prog_8m1_81) rfl ?_
    show oS pP eE below T_12 (mkF mM 82 (lc25 a wd hg ox oy cw ch co g__12) [(.long ((wd.toInt64) * (hg.toInt64)))]) _
    refine X_12.ldc2J hx hown_10 (mvT hZ_10 (ow hw 183 rfl)) (g := (mkF mM 82 (lc25 a wd hg ox oy cw ch co g__12) [(.long ((wd.toInt64) * (hg.toInt64)))])) rfl (hb hby d_prog_8m1_82) ?_
    show oS pP eE below T_12 (mkF mM 85 (lc25 a wd hg ox oy cw ch co g__12) [(.long (2147483647 : Int64)), (.long ((wd.toInt64) * (hg.toInt64)))]) _
    refine XT.lcmp X_12.here hx rfl (hb hby d_prog_8m1_85) rfl ?_
    refine XS.ifYes X_12.here hx rfl (pc0 := 86) (pc' := 127) rfl (hb hby d_prog_8m1_86) rfl (XT.ll_le_t hmx) (by decide) (by decide) ?_
    show oS pP eE below T_12 (mkF mM 127 (lc25 a wd hg ox oy cw ch co g__12) []) _
    refine XS.dloadN X_12.here hx rfl (hb hby d_prog_8m1_127) rfl ?_
    show oS pP eE below T_12 (mkF mM 128 (lc25 a wd hg ox oy cw ch co g__12) [(.double ox)]) _
    refine st_13 _ ?_
    show oS pP eE below T_13 (mkF mM 131 (lc25 a wd hg ox oy cw ch co g__12) [(.int (1 : Int32))]) _
    refine XS.ifNo X_13.here hx rfl (hb hby d_prog_8m1_131) rfl (by decide) ?_
    show oS pP eE below T_13 (mkF mM 134 (lc25 a wd hg ox oy cw ch co g__12) []) _
    refine XS.dload X_13.here hx rfl (hb hby d_prog_8m1_134) rfl ?_
    show oS pP eE below T_13 (mkF mM 136 (lc25 a wd hg ox oy cw ch co g__12) [(.double oy)]) _
    refine st_14 _ ?_
    show oS pP eE below T_14 (mkF mM 139 (lc25 a wd hg ox oy cw ch co g__12) [(.int (1 : Int32))]) _
    refine XS.ifYes X_14.here hx rfl (pc0 := 139) (pc' := 184) rfl (hb hby d_prog_8m1_139) rfl (by decide) (by decide) (by decide) ?_
    show oS pP eE below T_14 (mkF mM 184 (lc25 a wd hg ox oy cw ch co g__12) []) _
    refine XS.dload X_14.here hx rfl (hb hby d_prog_8m1_184) rfl ?_
    show oS pP eE below T_14 (mkF mM 186 (lc25 a wd hg ox oy cw ch co g__12) [(.double cw)]) _
    refine XS.dconst0 X_14.here hx rfl (v := (0 : UInt64)) (hb hby d_prog_8m1_186) rfl ?_
    show oS pP eE below T_14 (mkF mM 187 (lc25 a wd hg ox oy cw ch co g__12) [(.double (0 : UInt64)), (.double cw)]) _
    refine XS.dcmpS X_14.here hx rfl (hb hby d_prog_8m1_187) rfl rfl ?_
    refine XS.ifNo X_14.here hx rfl (hb hby d_prog_8m1_188) rfl (XT.i0_le_f pscw) ?_
    show oS pP eE below T_14 (mkF mM 191 (lc25 a wd hg ox oy cw ch co g__12) []) _
    refine XS.dload X_14.here hx rfl (hb hby d_prog_8m1_191) rfl ?_
    show oS pP eE below T_14 (mkF mM 193 (lc25 a wd hg ox oy cw ch co g__12) [(.double ch)]) _
    refine XS.dconst0 X_14.here hx rfl (v := (0 : UInt64)) (hb hby d_prog_8m1_193) rfl ?_
    show oS pP eE below T_14 (mkF mM 194 (lc25 a wd hg ox oy cw ch co g__12) [(.double (0 : UInt64)), (.double ch)]) _
    refine XS.dcmpS X_14.here hx rfl (hb hby d_prog_8m1_194) rfl rfl ?_
    refine XS.ifNo X_14.here hx rfl (hb hby d_prog_8m1_195) rfl (XT.i0_le_f psch) ?_
    show oS pP eE below T_14 (mkF mM 198 (lc25 a wd hg ox oy cw ch co g__12) []) _
    refine XS.dload X_14.here hx rfl (hb hby d_prog_8m1_198) rfl ?_
    show oS pP eE below T_14 (mkF mM 200 (lc25 a wd hg ox oy cw ch co g__12) [(.double cw)]) _
    refine st_15 _ ?_
    show oS pP eE below T_15 (mkF mM 203 (lc25 a wd hg ox oy cw ch co g__12) [(.int (1 : Int32))]) _
    refine XS.ifNo X_15.here hx rfl (hb hby d_prog_8m1_203) rfl (by decide) ?_
    show oS pP eE below T_15 (mkF mM 206 (lc25 a wd hg ox oy cw ch co g__12) []) _
    refine XS.dload X_15.here hx rfl (hb hby d_prog_8m1_206) rfl ?_
    show oS pP eE below T_15 (mkF mM 208 (lc25 a wd hg ox oy cw ch co g__12) [(.double ch)]) _
    refine st_16 _ ?_
    show oS pP eE below T_16 (mkF mM 211 (lc25 a wd hg ox oy cw ch co g__12) [(.int (1 : Int32))]) _
    refine XS.ifYes X_16.here hx rfl (pc0 := 211) (pc' := 257) rfl (hb hby d_prog_8m1_211) rfl (by decide) (by decide) (by decide) ?_
    refine XS.aloadN X_16.here hx rfl (hb hby d_prog_8m1_257) rfl rfl ?_
    refine XS.iloadN X_16.here hx rfl (hb hby d_prog_8m1_258) rfl ?_
    show oS pP eE below T_16 (mkF mM 259 (lc25 a wd hg ox oy cw ch co g__12) [(.int wd), (.ref a)]) _
    refine st_17 _ ?_
    show oS pP eE below T_17 (mkF mM 262 (lc25 a wd hg ox oy cw ch co g__12) []) _
    refine XS.aloadN X_17.here hx rfl (hb hby d_prog_8m1_262) rfl rfl ?_
    refine XS.iloadN X_17.here hx rfl (hb hby d_prog_8m1_263) rfl ?_
    show oS pP eE below T_17 (mkF mM 264 (lc25 a wd hg ox oy cw ch co g__12) [(.int hg), (.ref a)]) _
    refine st_18 _ ?_
    show oS pP eE below T_18 (mkF mM 267 (lc25 a wd hg ox oy cw ch co g__12) []) _
    refine XS.aloadN X_18.here hx rfl (hb hby d_prog_8m1_267) rfl rfl ?_
    show oS pP eE below T_18 (mkF mM 268 (lc25 a wd hg ox oy cw ch co g__12) [(.ref a)]) _
    refine XS.dloadN X_18.here hx rfl (hb hby d_prog_8m1_268) rfl ?_
    show oS pP eE below T_18 (mkF mM 269 (lc25 a wd hg ox oy cw ch co g__12) [(.double ox), (.ref a)]) _
    refine st_19 _ ?_
    show oS pP eE below T_19 (mkF mM 272 (lc25 a wd hg ox oy cw ch co g__12) []) _
    refine XS.aloadN X_19.here hx rfl (hb hby d_prog_8m1_272) rfl rfl ?_
    show oS pP eE below T_19 (mkF mM 273 (lc25 a wd hg ox oy cw ch co g__12) [(.ref a)]) _
    refine XS.dload X_19.here hx rfl (hb hby d_prog_8m1_273) rfl ?_
    show oS pP eE below T_19 (mkF mM 275 (lc25 a wd hg ox oy cw ch co g__12) [(.double oy), (.ref a)]) _
    refine st_20 _ ?_
    show oS pP eE below T_20 (mkF mM 278 (lc25 a wd hg ox oy cw ch co g__12) []) _
    refine XS.aloadN X_20.here hx rfl (hb hby d_prog_8m1_278) rfl rfl ?_
    show oS pP eE below T_20 (mkF mM 279 (lc25 a wd hg ox oy cw ch co g__12) [(.ref a)]) _
    refine XS.dload X_20.here hx rfl (hb hby d_prog_8m1_279) rfl ?_
    show oS pP eE below T_20 (mkF mM 281 (lc25 a wd hg ox oy cw ch co g__12) [(.double cw), (.ref a)]) _
    refine st_21 _ ?_
    show oS pP eE below T_21 (mkF mM 284 (lc25 a wd hg ox oy cw ch co g__12) []) _
    refine XS.aloadN X_21.here hx rfl (hb hby d_prog_8m1_284) rfl rfl ?_
    show oS pP eE below T_21 (mkF mM 285 (lc25 a wd hg ox oy cw ch co g__12) [(.ref a)]) _
    refine XS.dload X_21.here hx rfl (hb hby d_prog_8m1_285) rfl ?_
    show oS pP eE below T_21 (mkF mM 287 (lc25 a wd hg ox oy cw ch co g__12) [(.double ch), (.ref a)]) _
    refine st_22 _ ?_
    show oS pP eE below T_22 (mkF mM 290 (lc25 a wd hg ox oy cw ch co g__12) []) _
    refine XS.aloadN X_22.here hx rfl (hb hby d_prog_8m1_290) rfl rfl ?_
    refine XS.aload X_22.here hx rfl (hb hby d_prog_8m1_291) rfl rfl ?_
    show oS pP eE below T_22 (mkF mM 293 (lc25 a wd hg ox oy cw ch co g__12) [(.ref co), (.ref a)]) _
    refine st_23 _ ?_
    show oS pP eE below T_23 (mkF mM 296 (lc25 a wd hg ox oy cw ch co g__12) []) _
    exact X_23.returnOut hx Bd.returns (hb hby d_prog_8m1_296) hr
  · show Q_gi Z a wd hg ox oy cw ch co o1 o2 k2 k3 k4 k5 cs h0 n0 _ T_23.heap _
    rw [e_23]
    exact ⟨rfl, N_23, K_23, ((((((Fw_17.other W_18 (Or.inr (slot_ne (Or.inr (ow hw 193 rfl)) (Or.inr (ow hw 195 rfl)) (by decide) (t := .int) (t' := .int) (by decide) (by decide)))).other W_19 (Or.inr (slot_ne (Or.inr (ow hw 193 rfl)) (Or.inr (ow hw 197 rfl)) (by decide) (t := .int) (t' := .double) (by decide) (by decide)))).other W_20 (Or.inr (slot_ne (Or.inr (ow hw 193 rfl)) (Or.inr (ow hw 199 rfl)) (by decide) (t := .int) (t' := .double) (by decide) (by decide)))).other W_21 (Or.inr (slot_ne (Or.inr (ow hw 193 rfl)) (Or.inr (ow hw 201 rfl)) (by decide) (t := .int) (t' := .double) (by decide) (by decide)))).other W_22 (Or.inr (slot_ne (Or.inr (ow hw 193 rfl)) (Or.inr (ow hw 203 rfl)) (by decide) (t := .int) (t' := .double) (by decide) (by decide)))).other W_23 (Or.inr (slot_ne (Or.inr (ow hw 193 rfl)) (Or.inr (ow hw 205 rfl)) (by decide) (t := .int) (t' := (.object "com/example/greenweft/greenweft/map/Coordinates")) (by decide) (by decide)))), (((((Fw_18.other W_19 (Or.inr (slot_ne (Or.inr (ow hw 195 rfl)) (Or.inr (ow hw 197 rfl)) (by decide) (t := .int) (t' := .double) (by decide) (by decide)))).other W_20 (Or.inr (slot_ne (Or.inr (ow hw 195 rfl)) (Or.inr (ow hw 199 rfl)) (by decide) (t := .int) (t' := .double) (by decide) (by decide)))).other W_21 (Or.inr (slot_ne (Or.inr (ow hw 195 rfl)) (Or.inr (ow hw 201 rfl)) (by decide) (t := .int) (t' := .double) (by decide) (by decide)))).other W_22 (Or.inr (slot_ne (Or.inr (ow hw 195 rfl)) (Or.inr (ow hw 203 rfl)) (by decide) (t := .int) (t' := .double) (by decide) (by decide)))).other W_23 (Or.inr (slot_ne (Or.inr (ow hw 195 rfl)) (Or.inr (ow hw 205 rfl)) (by decide) (t := .int) (t' := (.object "com/example/greenweft/greenweft/map/Coordinates")) (by decide) (by decide)))), ((((Fw_19.other W_20 (Or.inr (slot_ne (Or.inr (ow hw 197 rfl)) (Or.inr (ow hw 199 rfl)) (by decide) (t := .double) (t' := .double) (by decide) (by decide)))).other W_21 (Or.inr (slot_ne (Or.inr (ow hw 197 rfl)) (Or.inr (ow hw 201 rfl)) (by decide) (t := .double) (t' := .double) (by decide) (by decide)))).other W_22 (Or.inr (slot_ne (Or.inr (ow hw 197 rfl)) (Or.inr (ow hw 203 rfl)) (by decide) (t := .double) (t' := .double) (by decide) (by decide)))).other W_23 (Or.inr (slot_ne (Or.inr (ow hw 197 rfl)) (Or.inr (ow hw 205 rfl)) (by decide) (t := .double) (t' := (.object "com/example/greenweft/greenweft/map/Coordinates")) (by decide) (by decide)))), (((Fw_20.other W_21 (Or.inr (slot_ne (Or.inr (ow hw 199 rfl)) (Or.inr (ow hw 201 rfl)) (by decide) (t := .double) (t' := .double) (by decide) (by decide)))).other W_22 (Or.inr (slot_ne (Or.inr (ow hw 199 rfl)) (Or.inr (ow hw 203 rfl)) (by decide) (t := .double) (t' := .double) (by decide) (by decide)))).other W_23 (Or.inr (slot_ne (Or.inr (ow hw 199 rfl)) (Or.inr (ow hw 205 rfl)) (by decide) (t := .double) (t' := (.object "com/example/greenweft/greenweft/map/Coordinates")) (by decide) (by decide)))), ((Fw_21.other W_22 (Or.inr (slot_ne (Or.inr (ow hw 201 rfl)) (Or.inr (ow hw 203 rfl)) (by decide) (t := .double) (t' := .double) (by decide) (by decide)))).other W_23 (Or.inr (slot_ne (Or.inr (ow hw 201 rfl)) (Or.inr (ow hw 205 rfl)) (by decide) (t := .double) (t' := (.object "com/example/greenweft/greenweft/map/Coordinates")) (by decide) (by decide)))), (Fw_22.other W_23 (Or.inr (slot_ne (Or.inr (ow hw 203 rfl)) (Or.inr (ow hw 205 rfl)) (by decide) (t := .double) (t' := (.object "com/example/greenweft/greenweft/map/Coordinates")) (by decide) (by decide)))), Fw_23, ((((Rt_13.wr W_20).wr W_21).wr W_22).wr W_23)⟩
theorem ef_giC (mM : MethodId) (x0 : Addr) (x1 : Int32) (x2 : Int32) (x3 : UInt64) (x4 : UInt64) (x5 : UInt64) (x6 : UInt64) (x7 : Addr) : entryFrame mM #[(.ref x0), (.int x1), (.int x2), (.double x3), (.double x4), (.double x5), (.double x6), (.ref x7)] 13 = mkF mM 0 #[.val (.ref x0), .val (.int x1), .val (.int x2), .val (.double x3), .second, .val (.double x4), .second, .val (.double x5), .second, .val (.double x6), .second, .val (.ref x7), .unset] [] := by first | (simp [entryFrame, mkF, argsToLocals, Value.category]; done) | rfl
set_option maxRecDepth 65536 in
set_option maxHeartbeats 40000000 in
theorem rm_giC (l : Launch) (Z : State) (a0 : Array Value) (hw : ∀ d ∈ tables_1, d.before a0 Z = true) (ws : List Jvm.Cond) (a : Addr) (wd : Int32) (hg : Int32) (ox : UInt64) (oy : UInt64) (cw : UInt64) (ch : UInt64) (co : Addr) (o1 : Addr) (o2 : Addr) (k2 : Int32) (k3 : Int32) (k4 : Int32) (k5 : Int32) (cs : Int32) (h0 : Heap) (n0 : Nat) (Z0 : n0 ≤ h0.size) (F_width_a : Fld Z h0 a "com/example/greenweft/greenweft/map/Grid" "width" "I" (.int (0 : Int32))) (F_height_a : Fld Z h0 a "com/example/greenweft/greenweft/map/Grid" "height" "I" (.int (0 : Int32))) (F_originX_a : Fld Z h0 a "com/example/greenweft/greenweft/map/Grid" "originX" "D" (.double (0 : UInt64))) (F_originY_a : Fld Z h0 a "com/example/greenweft/greenweft/map/Grid" "originY" "D" (.double (0 : UInt64))) (F_cellWidth_a : Fld Z h0 a "com/example/greenweft/greenweft/map/Grid" "cellWidth" "D" (.double (0 : UInt64))) (F_cellHeight_a : Fld Z h0 a "com/example/greenweft/greenweft/map/Grid" "cellHeight" "D" (.double (0 : UInt64))) (F_coordinates_a : Fld Z h0 a "com/example/greenweft/greenweft/map/Grid" "coordinates" "Lcom/example/greenweft/greenweft/map/Coordinates;" .null) (E_a : Exa Z h0 a "com/example/greenweft/greenweft/map/Grid") (g_a : n0 ≤ a) (S_Integer_DigitOnes : Sta Z h0 "java/lang/Integer" "DigitOnes" "[B" (.ref o1)) (S_Integer_DigitTens : Sta Z h0 "java/lang/Integer" "DigitTens" "[B" (.ref o2)) (B_o1 : own_B Z h0 o1 (100 : Int32)) (B_o2 : own_B Z h0 o2 (100 : Int32)) (S_String_COMPACT_STRINGS : Sta Z h0 "java/lang/String" "COMPACT_STRINGS" "Z" (.int cs)) (hcs : ¬ cs = 0) (hiw : own_i5 wd) (hih : own_i5 hg) (hw1 : ¬ wd < (1 : Int32)) (hh1 : ¬ hg < (1 : Int32)) (hmx : ¬ (2147483647 : Int64) < ((wd.toInt64) * (hg.toInt64))) (nnox : Jvm.Free.Fl.NoNaN64 ox) (fiox : ¬ 0 < (cmpValue (FP.dcmp (ox &&& (9223372036854775807 : UInt64)) (9218868437227405311 : UInt64)) .g)) (nnoy : Jvm.Free.Fl.NoNaN64 oy) (fioy : ¬ 0 < (cmpValue (FP.dcmp (oy &&& (9223372036854775807 : UInt64)) (9218868437227405311 : UInt64)) .g)) (nncw : Jvm.Free.Fl.NoNaN64 cw) (ficw : ¬ 0 < (cmpValue (FP.dcmp (cw &&& (9223372036854775807 : UInt64)) (9218868437227405311 : UInt64)) .g)) (nnch : Jvm.Free.Fl.NoNaN64 ch) (fich : ¬ 0 < (cmpValue (FP.dcmp (ch &&& (9223372036854775807 : UInt64)) (9218868437227405311 : UInt64)) .g)) (pscw : 0 < (cmpValue (FP.dcmp cw (0 : UInt64)) .l)) (psch : 0 < (cmpValue (FP.dcmp ch (0 : UInt64)) .l)) (hk2 : ((10 : Int32) + (own_sz wd)) = k2) (hk3 : (k2 + (3 : Int32)) = k3) (hk4 : (k3 + (own_sz hg)) = k4) (hk5 : (k4 + (6 : Int32)) = k5) (no0 : ¬ 0 < ((10 : Int32) - (16 : Int32))) (cp0 : own_cp (0 : Int32) (0 : Int32) (10 : Int32) (10 : Int32) (16 : Int32)) (no1 : ¬ 0 < (k2 - (16 : Int32))) (ft1 : own_fit wd k2 (16 : Int32)) (no2 : ¬ 0 < (k3 - (16 : Int32))) (cp2 : own_cp (0 : Int32) k2 (3 : Int32) (3 : Int32) (16 : Int32)) (no3 : ¬ 0 < (k4 - (16 : Int32))) (ft3 : own_fit hg k4 (16 : Int32)) (gt4 : 0 < (k5 - (16 : Int32))) (lt4 : (k5 - (16 : Int32)) < (18 : Int32)) (cp4 : own_cp (0 : Int32) k4 (6 : Int32) (6 : Int32) (34 : Int32)) (tz0 : ¬ k5 < 0) (tz1 : k5 < (34 : Int32)) (tz2 : k5.toNatClampNeg ≤ 34) (tz3 : own_cp (0 : Int32) (0 : Int32) k5 (34 : Int32) k5) (tz4 : ¬ k5 = (34 : Int32)) :
    MetFree l (⟨"com/example/greenweft/greenweft/map/Grid", "<init>", "(IIDDDDLcom/example/greenweft/greenweft/map/Coordinates;)V"⟩ : MethodName) (head1 (Jvm.Cond.code (⟨"com/example/greenweft/greenweft/map/Grid", "<init>", "(IIDDDDLcom/example/greenweft/greenweft/map/Coordinates;)V"⟩ : MethodName) prog_8_method_1_code 13 none :: ws) oR20) (fun aa_ U_ => aa_ = #[(.ref a), (.int wd), (.int hg), (.double ox), (.double oy), (.double cw), (.double ch), (.ref co)] ∧ Z.Warmed39 U_.vm ∧ U_.heap = h0 ∧ CHv Z own_EL U_.vm h0) (fun _ _ _ _ _ => True) (fun _ U_ o_ U'_ => ∃ v_ L_, o_ = .returned v_ ∧ Q_gi Z a wd hg ox oy cw ch co o1 o2 k2 k3 k4 k5 cs h0 n0 v_ U'_.heap L_ ∧ CHr Z own_EL U_.vm U_.heap U'_.vm U'_.heap ∧ ReturnedEndW U_ o_ U'_ L_ oR20.cells oR20.slots) := by
  refine MetFree.of_bodySF (plainFor_of_name pn_7) hisR ?_
  intro pP eE sS mM argsA below meth cC s₁ Bd hml0 hP hK
  obtain ⟨rfl, hZ, hh, hCH⟩ := hP
  have hx := Bd.exec
  have hby := Bd.bytes
  have hml : cC.maxLocals = 13 := hml0
  have hown : sS.vm.findClass "com/example/greenweft/greenweft/map/Grid" = some mM.cls := findClass_of_methodNamed Bd.named
  have hnm := (name_of_methodNamed Bd.named Bd.method).1
  have X0 : Stand pP l eE oR20 (sS.setVm sS.vm) mM #[(.ref a), (.int wd), (.int hg), (.double ox), (.double oy), (.double cw), (.double ch), (.ref co)] below meth cC s₁ [] 0 0 := Stand.of_body Bd
  have e0 : s₁.heap = h0 := by rw [← hh, Bd.state]; rfl
  have N0 := Fr.nil n0
  have pre0 : ∀ t_, Steps pP.tables eE below (s₁.setTop (mkF mM 0 #[.val (.ref a), .val (.int wd), .val (.int hg), .val (.double ox), .second, .val (.double oy), .second, .val (.double cw), .second, .val (.double ch), .second, .val (.ref co), .unset] [])) t_ → Steps pP.tables eE below (s₁.setTop (entryFrame mM #[(.ref a), (.int wd), (.int hg), (.double ox), (.double oy), (.double cw), (.double ch), (.ref co)] 13)) t_ := fun t_ k_ => castTop (ef_giC mM a wd hg ox oy cw ch co) k_
  have hZ : Z.Warmed39 (sS.setVm sS.vm).vm := hZ
  have hown : (sS.setVm sS.vm).vm.findClass "com/example/greenweft/greenweft/map/Grid" = some mM.cls := hown
  have hS0 : sS.Since sS.vm 0 := (State.WarmedH.refl sS).since 0
  have hk0 : 0 ≤ h0.size := Nat.zero_le _
  have CR0 := CHr.refl hCH
  obtain ⟨_, _, ⟨T_1, L_1, k_1, n_1⟩, -, X_1, ⟨Lc_1, hQ_1, l_1, y_1, z_1⟩, st_1⟩ := X0.specialBack hx (y := MN26) rfl hown (mvT hZ (ow hw 15 rfl)) (mvT hZ (ow hw 16 rfl)) (mvT hZ (ow hw 19 rfl)) (by decide) (backOf (W := 0) (rm_rec l Z a0 hw [] a h0 n0 Z0 ) hZ (ow hw 19 rfl) (ow hw 18 rfl) (by decide) (by decide)) (g := (mkF mM 1 (lc24 a wd hg ox oy cw ch co) [(.ref a)])) rfl (by rw [hml]; rfl) (Steps.refl _) (a := a) (argsL := []) (rest := []) (lenOf pd_20 rfl) rfl (by show 2 * 0 + _ ≤ _; exact Nat.le_of_eq rfl) (hb hby d_prog_8m1_1) (fun _ _ => ⟨rfl, e0, (by decide : 0 + 0 ≤ _), (by decide : 0 + 0 ≤ _)⟩)
  dsimp only [Pt.U, Pt.locs, Pt.cells, Pt.slots] at X_1 l_1 y_1 z_1 st_1 hQ_1
  subst l_1 y_1 z_1
  obtain ⟨rfl, N_1q, eh_1⟩ := hQ_1
  have N_1 := Fr.app N0 N_1q
  obtain ⟨T_2, h_2, X_2, e_2, E_2, A_2, D_2, -, st_2⟩ := newO X_1 hx hZ hown (ow hw 23 rfl) (ow hw 24 rfl) (ow hw 25 rfl) eh_1 (g := (mkF mM 4 (lc24 a wd hg ox oy cw ch co) [])) rfl (hb hby d_prog_8m1_4) (by decide) (by decide)
  obtain ⟨b_2, g_2⟩ : ∃ z, z = h0.size := ⟨_, rfl⟩
  rw [← g_2] at A_2 D_2 st_2
  have g_b_2 : n0 ≤ b_2 := Nat.le_trans Z0 (Nat.le_of_eq g_2.symm)
  have sz_b_2 : h0.size ≤ b_2 := Nat.le_trans (Keep.refl h0 [a]).1 (Nat.le_of_eq g_2.symm)
  have Z_2 : n0 ≤ h_2.size := (Nat.le_trans Z0 E_2.1)
  have K_2 : Keep h0 h_2 [a] := (Keep.refl h0 [a]).ext E_2
  have hk_2 : _ ≤ h_2.size := Nat.le_trans hk0 E_2.1
  have Ca_2 := CHr.ext E_2 CR0.1
  have CR_2 := CR0.trans Ca_2
  have F_value_b_2__2 : Fld Z h_2 b_2 "java/lang/AbstractStringBuilder" "value" "[B" .null := D_2 (Or.inl (ow hw 40 rfl)) (ty := (.array .byte)) (by decide)
  have F_coder_b_2__2 : Fld Z h_2 b_2 "java/lang/AbstractStringBuilder" "coder" "B" (.int (0 : Int32)) := D_2 (Or.inl (ow hw 42 rfl)) (ty := .byte) (by decide)
  have F_count_b_2__2 : Fld Z h_2 b_2 "java/lang/AbstractStringBuilder" "count" "I" (.int (0 : Int32)) := D_2 (Or.inl (ow hw 73 rfl)) (ty := .int) (by decide)
  have St_1_13 := (S_String_COMPACT_STRINGS.ext E_2)
  obtain ⟨_, _, ⟨T_3, L_3, k_3, n_3⟩, -, X_3, ⟨Lc_3, hQ_3, l_3, y_3, z_3⟩, st_3⟩ := X_2.specialBack hx (y := MN27) rfl hown (mvT hZ (ow hw 26 rfl)) (mvT hZ (ow hw 27 rfl)) (mvT hZ (ow hw 28 rfl)) (by decide) (backOf (W := 1) (rm_sbi l Z a0 hw [] b_2 cs h_2 n0 Z_2 F_value_b_2__2 F_coder_b_2__2 F_count_b_2__2 A_2 g_b_2 St_1_13 hcs) hZ (ow hw 28 rfl) (ow hw 25 rfl) (by decide) (by decide)) (g := (mkF mM 8 (lc24 a wd hg ox oy cw ch co) [(.ref b_2), (.ref b_2)])) rfl (by rw [hml]; rfl) (Steps.refl _) (a := b_2) (argsL := []) (rest := [(.ref b_2)]) (lenOf pd_20 rfl) rfl (by show 2 * 0 + _ ≤ _; exact Nat.le_of_eq rfl) (hb hby d_prog_8m1_8) (fun _ _ => ⟨rfl, e_2, (by decide : 1 + 1 ≤ _), (by decide : 4 + 16 ≤ _)⟩)
  dsimp only [Pt.U, Pt.locs, Pt.cells, Pt.slots] at X_3 l_3 y_3 z_3 st_3 hQ_3
  subst l_3 y_3 z_3
  obtain ⟨d__3, ⟨rfl, N_3q, Kc_3, pfsz_d_3, pfF_value_b_3, pfF_coder_b_3, pfF_count_b_3, pfE_b_3, pfB_d_3⟩⟩ := hQ_3
  have Z_3 : n0 ≤ T_3.heap.size := (Nat.le_trans Z_2 Kc_3.1)
  have K_3 : Keep h0 T_3.heap [a] := K_2.trans Kc_3 (allS (Or.inr sz_b_2) all0)
  have hk_3 : _ ≤ T_3.heap.size := Nat.le_trans hk_2 Kc_3.1
  have Ca_3 := CHr.keep Kc_3 (allS (Safe.exa hZ.alike A_2 (by decide) (by decide)) all0) CR_2.1
  have CR_3 := CR_2.trans Ca_3
  have Sf_d__3 := Safe.keep Kc_3 (allS (Safe.exa hZ.alike A_2 (by decide) (by decide)) all0) CR_2.1 (Safe.new pfsz_d_3)
  have sz_d__3 : h0.size ≤ d__3 := Nat.le_trans K_2.1 pfsz_d_3
  have g_d__3 : n0 ≤ d__3 := Nat.le_trans Z_2 pfsz_d_3
  have N_3 := Fr.app N_1 N_3q
  obtain ⟨a_4, T_4, h_4, k_4, d_4, kd_4, X_4, e_4, E_4, hS_4, hk_4, hZ_4, hown_4, Es_4, Fc_4, Fv_4, Vs_4, -, -, CH_4, -, Sf_4, st_4⟩ := ldcCH X_3 hx hZ hown (ow hw 43 rfl) (own_wS hw) rfl hS0 hk_3 (own_EW hw) (List.mem_of_getElem? (i := 0) rfl) CR_3.1 (vs := [(.int (97 : Int32)), (.int (32 : Int32)), (.int (103 : Int32)), (.int (114 : Int32)), (.int (105 : Int32)), (.int (100 : Int32)), (.int (32 : Int32)), (.int (111 : Int32)), (.int (102 : Int32)), (.int (32 : Int32))]) (z := (10 : Int32)) ⟨by decide, rfl⟩ (by decide) rfl (g := (mkF mM 11 (lc24 a wd hg ox oy cw ch co) [(.ref b_2)])) rfl (hb hby d_prog_8m1_11) (n := 40) (by decide) (by decide) (by decide) (by decide)
  have Z_4 : n0 ≤ h_4.size := (Nat.le_trans Z_3 E_4.1)
  have K_4 : Keep h0 h_4 [a] := K_3.ext E_4
  have Ca_4 := CH_4
  have CR_4 := CR_3.trans Ca_4
  have Sf_d__3_4 := Ca_4.safe pfB_d_3.lt Sf_d__3
  have St_3_13 := ((own_sta_keep St_1_13 Kc_3 (allS (own_exa_ns A_2) all0)).ext E_4)
  obtain ⟨cq_5, kq_5, q_5a, q_5b, q_5c⟩ := isOf hZ_4 e_4 (pfE_b_3.ext E_4)
  obtain ⟨_, _, ⟨T_5, L_5, k_5, n_5⟩, -, X_5, ⟨Lc_5, hQ_5, l_5, y_5, z_5⟩, st_5⟩ := X_4.virtualBack hx (y := MN28) (z := MN28) hown_4 (mvT hZ_4 (ow hw 49 rfl)) (mvT hZ_4 (ow hw 50 rfl)) (notFace_of_selects (args := #[]) (mvT hZ_4 (ow hw 52 rfl))) (mvT hZ_4 (ow hw 52 rfl)) (mvT hZ_4 (ow hw 51 rfl)) (by decide) (backOf (W := 0) (rm_sa16 l Z a0 hw [] b_2 a_4 d_4 d__3 (10 : Int32) (0 : Int32) (10 : Int32) cs h_4 n0 Z_4 (pfF_value_b_3.ext E_4) (pfF_coder_b_3.ext E_4) (pfF_count_b_3.ext E_4) (pfE_b_3.ext E_4) g_b_2 g_d__3 Fv_4 Fc_4 Es_4 (own_B.of Vs_4) (Ne.symm (Sf_4 _ Sf_d__3_4).2) (Ne.symm (ne_exa Es_4 ((A_2.keep Kc_3).ext E_4) (by decide))) (by decide) St_3_13 hcs (pfB_d_3.ext E_4) no0 cp0) hZ_4 (ow hw 53 rfl) (ow hw 25 rfl) (by decide) (by decide)) q_5a q_5c (g := (mkF mM 13 (lc24 a wd hg ox oy cw ch co) [(.ref a_4), (.ref b_2)])) rfl (by rw [hml]; rfl) (Steps.refl _) (argsL := [(.ref a_4)]) (rest := []) (lenOf pd_21 rfl) rfl (by show 2 * 0 + _ ≤ _; exact Nat.le_of_eq rfl) (hb hby d_prog_8m1_13) (fun _ _ => ⟨rfl, e_4, (by decide : 4 + 0 ≤ _), (by decide : 64 + 0 ≤ _)⟩)
  dsimp only [Pt.U, Pt.locs, Pt.cells, Pt.slots] at X_5 l_5 y_5 z_5 st_5 hQ_5
  subst l_5 y_5 z_5
  obtain ⟨rfl, N_5q, Kc_5, pfF_value_b_5, pfF_coder_b_5, pfF_count_b_5, pfE_b_5, pfB_d_5⟩ := hQ_5
  have Z_5 : n0 ≤ T_5.heap.size := (Nat.le_trans Z_4 Kc_5.1)
  have K_5 : Keep h0 T_5.heap [a] := K_4.trans Kc_5 (allS (Or.inr sz_b_2) (allS (Or.inr sz_d__3) all0))
  have hk_5 : _ ≤ T_5.heap.size := Nat.le_trans hk_4 Kc_5.1
  have Ca_5 := CHr.keep Kc_5 (allS (Safe.exa hZ_4.alike (pfE_b_3.ext E_4) (by decide) (by decide)) (allS Sf_d__3_4 all0)) CR_4.1
  have CR_5 := CR_4.trans Ca_5
  have Sf_d__3_5 := Ca_5.safe (pfB_d_3.ext E_4).lt Sf_d__3_4
  have N_5 := Fr.app N_3 N_5q
  have St_4_9 := (own_sta_keep ((own_sta_keep (S_Integer_DigitOnes.ext E_2) Kc_3 (allS (own_exa_ns A_2) all0)).ext E_4) Kc_5 (allS (own_exa_ns (pfE_b_3.ext E_4)) (allS (own_B.ns (pfB_d_3.ext E_4)) all0)))
  have St_4_10 := (own_sta_keep ((own_sta_keep (S_Integer_DigitTens.ext E_2) Kc_3 (allS (own_exa_ns A_2) all0)).ext E_4) Kc_5 (allS (own_exa_ns (pfE_b_3.ext E_4)) (allS (own_B.ns (pfB_d_3.ext E_4)) all0)))
  have Rt_1 := ((((B_o1.ext E_2).keep Kc_3 (ninS (Nat.ne_of_lt (Nat.lt_of_lt_of_le B_o1.lt (Nat.le_of_eq g_2.symm))) nin0)).ext E_4).keep Kc_5 (ninS (Nat.ne_of_lt (Nat.lt_of_lt_of_le B_o1.lt (Nat.le_of_eq g_2.symm))) (ninS (Nat.ne_of_lt (Nat.lt_of_lt_of_le (B_o1.ext E_2).lt pfsz_d_3)) nin0)))
  have Rt_2 := ((((B_o2.ext E_2).keep Kc_3 (ninS (Nat.ne_of_lt (Nat.lt_of_lt_of_le B_o2.lt (Nat.le_of_eq g_2.symm))) nin0)).ext E_4).keep Kc_5 (ninS (Nat.ne_of_lt (Nat.lt_of_lt_of_le B_o2.lt (Nat.le_of_eq g_2.symm))) (ninS (Nat.ne_of_lt (Nat.lt_of_lt_of_le (B_o2.ext E_2).lt pfsz_d_3)) nin0)))
  have St_4_13 := (own_sta_keep St_3_13 Kc_5 (allS (own_exa_ns (pfE_b_3.ext E_4)) (allS (own_B.ns (pfB_d_3.ext E_4)) all0)))
  obtain ⟨cq_6, kq_6, q_6a, q_6b, q_6c⟩ := isOf hZ_4 rfl pfE_b_5
  obtain ⟨_, _, ⟨T_6, L_6, k_6, n_6⟩, -, X_6, ⟨Lc_6, hQ_6, l_6, y_6, z_6⟩, st_6⟩ := X_5.virtualBack hx (y := MN29) (z := MN29) hown_4 (mvT hZ_4 (ow hw 99 rfl)) (mvT hZ_4 (ow hw 100 rfl)) (notFace_of_selects (args := #[]) (mvT hZ_4 (ow hw 102 rfl))) (mvT hZ_4 (ow hw 102 rfl)) (mvT hZ_4 (ow hw 101 rfl)) (by decide) (backOf (W := 0) (rm_si16 l Z a0 hw [] b_2 wd d__3 (10 : Int32) k2 o1 o2 cs T_5.heap n0 Z_5 pfF_value_b_5 pfF_coder_b_5 pfF_count_b_5 pfE_b_5 g_b_2 g_d__3 St_4_9 St_4_10 Rt_1 Rt_2 (Nat.ne_of_lt (Nat.lt_of_lt_of_le (B_o1.ext E_2).lt pfsz_d_3)) (Nat.ne_of_lt (Nat.lt_of_lt_of_le (B_o2.ext E_2).lt pfsz_d_3)) hiw hk2 St_4_13 hcs pfB_d_5 no1 ft1) hZ_4 (ow hw 103 rfl) (ow hw 25 rfl) (by decide) (by decide)) q_6a q_6c (g := (mkF mM 17 (lc24 a wd hg ox oy cw ch co) [(.int wd), (.ref b_2)])) rfl (by rw [hml]; rfl) (Steps.refl _) (argsL := [(.int wd)]) (rest := []) (lenOf pd_22 rfl) rfl (by show 2 * 0 + _ ≤ _; exact Nat.le_of_eq rfl) (hb hby d_prog_8m1_17) (fun _ _ => ⟨rfl, rfl, (by decide : 4 + 0 ≤ _), (by decide : 64 + 0 ≤ _)⟩)
  dsimp only [Pt.U, Pt.locs, Pt.cells, Pt.slots] at X_6 l_6 y_6 z_6 st_6 hQ_6
  subst l_6 y_6 z_6
  obtain ⟨rfl, N_6q, Kc_6, pfF_value_b_6, pfF_coder_b_6, pfF_count_b_6, pfE_b_6, pfB_d_6⟩ := hQ_6
  have Z_6 : n0 ≤ T_6.heap.size := (Nat.le_trans Z_5 Kc_6.1)
  have K_6 : Keep h0 T_6.heap [a] := K_5.trans Kc_6 (allS (Or.inr sz_b_2) (allS (Or.inr sz_d__3) all0))
  have hk_6 : _ ≤ T_6.heap.size := Nat.le_trans hk_5 Kc_6.1
  have Ca_6 := CHr.keep Kc_6 (allS (Safe.exa hZ_4.alike pfE_b_5 (by decide) (by decide)) (allS Sf_d__3_5 all0)) CR_5.1
  have CR_6 := CR_5.trans Ca_6
  have Sf_d__3_6 := Ca_6.safe pfB_d_5.lt Sf_d__3_5
  have N_6 := Fr.app N_5 N_6q
  obtain ⟨a_7, T_7, h_7, k_7, d_7, kd_7, X_7, e_7, E_7, hS_7, hk_7, hZ_7, hown_7, Es_7, Fc_7, Fv_7, Vs_7, -, -, CH_7, -, Sf_7, st_7⟩ := ldcCH X_6 hx hZ_4 hown_4 (ow hw 121 rfl) (own_wS hw) rfl hS_4 hk_6 (own_EW hw) (List.mem_of_getElem? (i := 1) rfl) CR_6.1 (vs := [(.int (32 : Int32)), (.int (120 : Int32)), (.int (32 : Int32))]) (z := (3 : Int32)) ⟨by decide, rfl⟩ (by decide) rfl (g := (mkF mM 20 (lc24 a wd hg ox oy cw ch co) [(.ref b_2)])) rfl (hb hby d_prog_8m1_20) (n := 12) (by decide) (by decide) (by decide) (by decide)
  have Z_7 : n0 ≤ h_7.size := (Nat.le_trans Z_6 E_7.1)
  have K_7 : Keep h0 h_7 [a] := K_6.ext E_7
  have Ca_7 := CH_7
  have CR_7 := CR_6.trans Ca_7
  have Sf_d__3_7 := Ca_7.safe pfB_d_6.lt Sf_d__3_6
  have St_6_13 := ((own_sta_keep St_4_13 Kc_6 (allS (own_exa_ns pfE_b_5) (allS (own_B.ns pfB_d_5) all0))).ext E_7)
  obtain ⟨cq_8, kq_8, q_8a, q_8b, q_8c⟩ := isOf hZ_7 e_7 (pfE_b_6.ext E_7)
  obtain ⟨_, _, ⟨T_8, L_8, k_8, n_8⟩, -, X_8, ⟨Lc_8, hQ_8, l_8, y_8, z_8⟩, st_8⟩ := X_7.virtualBack hx (y := MN28) (z := MN28) hown_7 (mvT hZ_7 (ow hw 49 rfl)) (mvT hZ_7 (ow hw 50 rfl)) (notFace_of_selects (args := #[]) (mvT hZ_7 (ow hw 52 rfl))) (mvT hZ_7 (ow hw 52 rfl)) (mvT hZ_7 (ow hw 51 rfl)) (by decide) (backOf (W := 0) (rm_sa16 l Z a0 hw [] b_2 a_7 d_7 d__3 (3 : Int32) k2 k3 cs h_7 n0 Z_7 (pfF_value_b_6.ext E_7) (pfF_coder_b_6.ext E_7) (pfF_count_b_6.ext E_7) (pfE_b_6.ext E_7) g_b_2 g_d__3 Fv_7 Fc_7 Es_7 (own_B.of Vs_7) (Ne.symm (Sf_7 _ Sf_d__3_7).2) (Ne.symm (ne_exa Es_7 (((((A_2.keep Kc_3).ext E_4).keep Kc_5).keep Kc_6).ext E_7) (by decide))) hk3 St_6_13 hcs (pfB_d_6.ext E_7) no2 cp2) hZ_7 (ow hw 53 rfl) (ow hw 25 rfl) (by decide) (by decide)) q_8a q_8c (g := (mkF mM 22 (lc24 a wd hg ox oy cw ch co) [(.ref a_7), (.ref b_2)])) rfl (by rw [hml]; rfl) (Steps.refl _) (argsL := [(.ref a_7)]) (rest := []) (lenOf pd_21 rfl) rfl (by show 2 * 0 + _ ≤ _; exact Nat.le_of_eq rfl) (hb hby d_prog_8m1_22) (fun _ _ => ⟨rfl, e_7, (by decide : 6 + 0 ≤ _), (by decide : 80 + 0 ≤ _)⟩)
  dsimp only [Pt.U, Pt.locs, Pt.cells, Pt.slots] at X_8 l_8 y_8 z_8 st_8 hQ_8
  subst l_8 y_8 z_8
  obtain ⟨rfl, N_8q, Kc_8, pfF_value_b_8, pfF_coder_b_8, pfF_count_b_8, pfE_b_8, pfB_d_8⟩ := hQ_8
  have Z_8 : n0 ≤ T_8.heap.size := (Nat.le_trans Z_7 Kc_8.1)
  have K_8 : Keep h0 T_8.heap [a] := K_7.trans Kc_8 (allS (Or.inr sz_b_2) (allS (Or.inr sz_d__3) all0))
  have hk_8 : _ ≤ T_8.heap.size := Nat.le_trans hk_7 Kc_8.1
  have Ca_8 := CHr.keep Kc_8 (allS (Safe.exa hZ_7.alike (pfE_b_6.ext E_7) (by decide) (by decide)) (allS Sf_d__3_7 all0)) CR_7.1
  have CR_8 := CR_7.trans Ca_8
  have Sf_d__3_8 := Ca_8.safe (pfB_d_6.ext E_7).lt Sf_d__3_7
  have N_8 := Fr.app N_6 N_8q
  have St_7_9 := (own_sta_keep ((own_sta_keep St_4_9 Kc_6 (allS (own_exa_ns pfE_b_5) (allS (own_B.ns pfB_d_5) all0))).ext E_7) Kc_8 (allS (own_exa_ns (pfE_b_6.ext E_7)) (allS (own_B.ns (pfB_d_6.ext E_7)) all0)))
  have St_7_10 := (own_sta_keep ((own_sta_keep St_4_10 Kc_6 (allS (own_exa_ns pfE_b_5) (allS (own_B.ns pfB_d_5) all0))).ext E_7) Kc_8 (allS (own_exa_ns (pfE_b_6.ext E_7)) (allS (own_B.ns (pfB_d_6.ext E_7)) all0)))
  have Rt_3 := (((Rt_1.keep Kc_6 (ninS (Nat.ne_of_lt (Nat.lt_of_lt_of_le B_o1.lt (Nat.le_of_eq g_2.symm))) (ninS (Nat.ne_of_lt (Nat.lt_of_lt_of_le (B_o1.ext E_2).lt pfsz_d_3)) nin0))).ext E_7).keep Kc_8 (ninS (Nat.ne_of_lt (Nat.lt_of_lt_of_le B_o1.lt (Nat.le_of_eq g_2.symm))) (ninS (Nat.ne_of_lt (Nat.lt_of_lt_of_le (B_o1.ext E_2).lt pfsz_d_3)) nin0)))
  have Rt_4 := (((Rt_2.keep Kc_6 (ninS (Nat.ne_of_lt (Nat.lt_of_lt_of_le B_o2.lt (Nat.le_of_eq g_2.symm))) (ninS (Nat.ne_of_lt (Nat.lt_of_lt_of_le (B_o2.ext E_2).lt pfsz_d_3)) nin0))).ext E_7).keep Kc_8 (ninS (Nat.ne_of_lt (Nat.lt_of_lt_of_le B_o2.lt (Nat.le_of_eq g_2.symm))) (ninS (Nat.ne_of_lt (Nat.lt_of_lt_of_le (B_o2.ext E_2).lt pfsz_d_3)) nin0)))
  have St_7_13 := (own_sta_keep St_6_13 Kc_8 (allS (own_exa_ns (pfE_b_6.ext E_7)) (allS (own_B.ns (pfB_d_6.ext E_7)) all0)))
  obtain ⟨cq_9, kq_9, q_9a, q_9b, q_9c⟩ := isOf hZ_7 rfl pfE_b_8
  obtain ⟨_, _, ⟨T_9, L_9, k_9, n_9⟩, -, X_9, ⟨Lc_9, hQ_9, l_9, y_9, z_9⟩, st_9⟩ := X_8.virtualBack hx (y := MN29) (z := MN29) hown_7 (mvT hZ_7 (ow hw 99 rfl)) (mvT hZ_7 (ow hw 100 rfl)) (notFace_of_selects (args := #[]) (mvT hZ_7 (ow hw 102 rfl))) (mvT hZ_7 (ow hw 102 rfl)) (mvT hZ_7 (ow hw 101 rfl)) (by decide) (backOf (W := 0) (rm_si16 l Z a0 hw [] b_2 hg d__3 k3 k4 o1 o2 cs T_8.heap n0 Z_8 pfF_value_b_8 pfF_coder_b_8 pfF_count_b_8 pfE_b_8 g_b_2 g_d__3 St_7_9 St_7_10 Rt_3 Rt_4 (Nat.ne_of_lt (Nat.lt_of_lt_of_le (B_o1.ext E_2).lt pfsz_d_3)) (Nat.ne_of_lt (Nat.lt_of_lt_of_le (B_o2.ext E_2).lt pfsz_d_3)) hih hk4 St_7_13 hcs pfB_d_8 no3 ft3) hZ_7 (ow hw 103 rfl) (ow hw 25 rfl) (by decide) (by decide)) q_9a q_9c (g := (mkF mM 26 (lc24 a wd hg ox oy cw ch co) [(.int hg), (.ref b_2)])) rfl (by rw [hml]; rfl) (Steps.refl _) (argsL := [(.int hg)]) (rest := []) (lenOf pd_22 rfl) rfl (by show 2 * 0 + _ ≤ _; exact Nat.le_of_eq rfl) (hb hby d_prog_8m1_26) (fun _ _ => ⟨rfl, rfl, (by decide : 6 + 0 ≤ _), (by decide : 80 + 0 ≤ _)⟩)
  dsimp only [Pt.U, Pt.locs, Pt.cells, Pt.slots] at X_9 l_9 y_9 z_9 st_9 hQ_9
  subst l_9 y_9 z_9
  obtain ⟨rfl, N_9q, Kc_9, pfF_value_b_9, pfF_coder_b_9, pfF_count_b_9, pfE_b_9, pfB_d_9⟩ := hQ_9
  have Z_9 : n0 ≤ T_9.heap.size := (Nat.le_trans Z_8 Kc_9.1)
  have K_9 : Keep h0 T_9.heap [a] := K_8.trans Kc_9 (allS (Or.inr sz_b_2) (allS (Or.inr sz_d__3) all0))
  have hk_9 : _ ≤ T_9.heap.size := Nat.le_trans hk_8 Kc_9.1
  have Ca_9 := CHr.keep Kc_9 (allS (Safe.exa hZ_7.alike pfE_b_8 (by decide) (by decide)) (allS Sf_d__3_8 all0)) CR_8.1
  have CR_9 := CR_8.trans Ca_9
  have Sf_d__3_9 := Ca_9.safe pfB_d_8.lt Sf_d__3_8
  have N_9 := Fr.app N_8 N_9q
  obtain ⟨a_10, T_10, h_10, k_10, d_10, kd_10, X_10, e_10, E_10, hS_10, hk_10, hZ_10, hown_10, Es_10, Fc_10, Fv_10, Vs_10, -, -, CH_10, -, Sf_10, st_10⟩ := ldcCH X_9 hx hZ_7 hown_7 (ow hw 122 rfl) (own_wS hw) rfl hS_7 hk_9 (own_EW hw) (List.mem_of_getElem? (i := 2) rfl) CR_9.1 (vs := [(.int (32 : Int32)), (.int (99 : Int32)), (.int (101 : Int32)), (.int (108 : Int32)), (.int (108 : Int32)), (.int (115 : Int32))]) (z := (6 : Int32)) ⟨by decide, rfl⟩ (by decide) rfl (g := (mkF mM 29 (lc24 a wd hg ox oy cw ch co) [(.ref b_2)])) rfl (hb hby d_prog_8m1_29) (n := 24) (by decide) (by decide) (by decide) (by decide)
  have Z_10 : n0 ≤ h_10.size := (Nat.le_trans Z_9 E_10.1)
  have K_10 : Keep h0 h_10 [a] := K_9.ext E_10
  have Ca_10 := CH_10
  have CR_10 := CR_9.trans Ca_10
  have Sf_d__3_10 := Ca_10.safe pfB_d_9.lt Sf_d__3_9
  have St_9_13 := ((own_sta_keep St_7_13 Kc_9 (allS (own_exa_ns pfE_b_8) (allS (own_B.ns pfB_d_8) all0))).ext E_10)
  obtain ⟨cq_11, kq_11, q_11a, q_11b, q_11c⟩ := isOf hZ_10 e_10 (pfE_b_9.ext E_10)
  obtain ⟨_, _, ⟨T_11, L_11, k_11, n_11⟩, -, X_11, ⟨Lc_11, hQ_11, l_11, y_11, z_11⟩, st_11⟩ := X_10.virtualBack hx (y := MN28) (z := MN28) hown_10 (mvT hZ_10 (ow hw 49 rfl)) (mvT hZ_10 (ow hw 50 rfl)) (notFace_of_selects (args := #[]) (mvT hZ_10 (ow hw 52 rfl))) (mvT hZ_10 (ow hw 52 rfl)) (mvT hZ_10 (ow hw 51 rfl)) (by decide) (backOf (W := 0) (rm_saG l Z a0 hw [] b_2 a_10 d_10 d__3 (6 : Int32) k4 k5 cs h_10 n0 Z_10 (pfF_value_b_9.ext E_10) (pfF_coder_b_9.ext E_10) (pfF_count_b_9.ext E_10) (pfE_b_9.ext E_10) g_b_2 g_d__3 Fv_10 Fc_10 Es_10 (own_B.of Vs_10) (Ne.symm (Sf_10 _ Sf_d__3_10).2) (Ne.symm (ne_exa Es_10 ((((((((A_2.keep Kc_3).ext E_4).keep Kc_5).keep Kc_6).ext E_7).keep Kc_8).keep Kc_9).ext E_10) (by decide))) hk5 St_9_13 hcs (pfB_d_9.ext E_10) gt4 lt4 cp4) hZ_10 (ow hw 53 rfl) (ow hw 25 rfl) (by decide) (by decide)) q_11a q_11c (g := (mkF mM 31 (lc24 a wd hg ox oy cw ch co) [(.ref a_10), (.ref b_2)])) rfl (by rw [hml]; rfl) (Steps.refl _) (argsL := [(.ref a_10)]) (rest := []) (lenOf pd_21 rfl) rfl (by show 2 * 0 + _ ≤ _; exact Nat.le_of_eq rfl) (hb hby d_prog_8m1_31) (fun _ _ => ⟨rfl, e_10, (by decide : 8 + 1 ≤ _), (by decide : 108 + 34 ≤ _)⟩)
  dsimp only [Pt.U, Pt.locs, Pt.cells, Pt.slots] at X_11 l_11 y_11 z_11 st_11 hQ_11
  subst l_11 y_11 z_11
  obtain ⟨d2__11, ⟨rfl, N_11q, Kc_11, pfsz_d2_11, pfF_value_b_11, pfF_coder_b_11, pfF_count_b_11, pfE_b_11, pfB_d2_11⟩⟩ := hQ_11
  have Z_11 : n0 ≤ T_11.heap.size := (Nat.le_trans Z_10 Kc_11.1)
  have K_11 : Keep h0 T_11.heap [a] := K_10.trans Kc_11 (allS (Or.inr sz_b_2) all0)
  have hk_11 : _ ≤ T_11.heap.size := Nat.le_trans hk_10 Kc_11.1
  have Ca_11 := CHr.keep Kc_11 (allS (Safe.exa hZ_10.alike (pfE_b_9.ext E_10) (by decide) (by decide)) all0) CR_10.1
  have CR_11 := CR_10.trans Ca_11
  have Sf_d__3_11 := Ca_11.safe (pfB_d_9.ext E_10).lt Sf_d__3_10
  have Sf_d2__11 := Safe.keep Kc_11 (allS (Safe.exa hZ_10.alike (pfE_b_9.ext E_10) (by decide) (by decide)) all0) CR_10.1 (Safe.new pfsz_d2_11)
  have sz_d2__11 : h0.size ≤ d2__11 := Nat.le_trans K_10.1 pfsz_d2_11
  have g_d2__11 : n0 ≤ d2__11 := Nat.le_trans Z_10 pfsz_d2_11
  have N_11 := Fr.app N_9 N_11q
  have St_10_13 := (own_sta_keep St_9_13 Kc_11 (allS (own_exa_ns (pfE_b_9.ext E_10)) all0))
  obtain ⟨cq_12, kq_12, q_12a, q_12b, q_12c⟩ := isOf hZ_10 rfl pfE_b_11
  obtain ⟨_, _, ⟨T_12, L_12, k_12, n_12⟩, -, X_12, ⟨Lc_12, hQ_12, l_12, y_12, z_12⟩, st_12⟩ := X_11.virtualBack hx (y := MN30) (z := MN30) hown_10 (mvT hZ_10 (ow hw 146 rfl)) (mvT hZ_10 (ow hw 147 rfl)) (notFace_of_selects (args := #[]) (mvT hZ_10 (ow hw 149 rfl))) (mvT hZ_10 (ow hw 149 rfl)) (mvT hZ_10 (ow hw 148 rfl)) (by decide) (backOf (W := 0) (rm_tos l Z a0 hw [] b_2 d2__11 k5 cs T_11.heap n0 Z_11 pfF_value_b_11 pfF_coder_b_11 pfF_count_b_11 pfE_b_11 pfB_d2_11 tz0 tz1 tz2 tz3 tz4 St_10_13 hcs) hZ_10 (ow hw 150 rfl) (ow hw 25 rfl) (by decide) (by decide)) q_12a q_12c (g := (mkF mM 34 (lc24 a wd hg ox oy cw ch co) [(.ref b_2)])) rfl (by rw [hml]; rfl) (Steps.refl _) (argsL := []) (rest := []) (lenOf pd_23 rfl) rfl (by show 2 * 0 + _ ≤ _; exact Nat.le_of_eq rfl) (hb hby d_prog_8m1_34) (fun _ _ => ⟨rfl, rfl, (by decide : 9 + 2 ≤ _), (by decide : 142 + 38 ≤ _)⟩)
  dsimp only [Pt.U, Pt.locs, Pt.cells, Pt.slots] at X_12 l_12 y_12 z_12 st_12 hQ_12
  subst l_12 y_12 z_12
  obtain ⟨g__12, ⟨rfl, N_12q, Kc_12, pfsz_g_12, pfE_g_12⟩⟩ := hQ_12
  have Z_12 : n0 ≤ T_12.heap.size := (Nat.le_trans Z_11 Kc_12.1)
  have K_12 : Keep h0 T_12.heap [a] := K_11.trans Kc_12 all0
  have hk_12 : _ ≤ T_12.heap.size := Nat.le_trans hk_11 Kc_12.1
  have Ca_12 := CHr.keep Kc_12 all0 CR_11.1
  have CR_12 := CR_11.trans Ca_12
  have Sf_d__3_12 := Ca_12.safe ((pfB_d_9.ext E_10).keep Kc_11 (ninS (Ne.symm (Nat.ne_of_lt (Nat.lt_of_lt_of_le A_2.lt pfsz_d_3))) nin0)).lt Sf_d__3_11
  have Sf_d2__11_12 := Ca_12.safe pfB_d2_11.lt Sf_d2__11
  have sz_g__12 : h0.size ≤ g__12 := Nat.le_trans K_11.1 pfsz_g_12
  have g_g__12 : n0 ≤ g__12 := Nat.le_trans Z_11 pfsz_g_12
  have N_12 := Fr.app N_11 N_12q
  obtain ⟨_, _, ⟨T_13, L_13, k_13, n_13⟩, -, X_13, ⟨Lc_13, hQ_13, l_13, y_13, z_13⟩, st_13⟩ := Jvm.LawKit.callS X_12 hx (y := MN31) hown_10 (mvT hZ_10 (ow hw 184 rfl)) (mvT hZ_10 (ow hw 185 rfl)) (mvT hZ_10 (ow hw 186 rfl)) (mvT hZ_10 (ow hw 187 rfl)) (by decide) (backOf (W := 0) (rm_fin l Z a0 hw [] ox T_12.heap n0 Z_12 nnox fiox) hZ_10 (ow hw 187 rfl) (ow hw 186 rfl) (by decide) (by decide)) (g := (mkF mM 128 (lc25 a wd hg ox oy cw ch co g__12) [(.double ox)])) rfl (by rw [hml]; rfl) (argsL := [(.double ox)]) (rest := []) (lenOf pd_24 rfl) rfl (by show 2 * 0 + _ ≤ _; exact Nat.le_of_eq rfl) (hb hby d_prog_8m1_128) (fun _ _ => ⟨rfl, rfl, (by decide : 11 + 0 ≤ _), (by decide : 180 + 0 ≤ _)⟩)
  dsimp only [Pt.U, Pt.locs, Pt.cells, Pt.slots] at X_13 l_13 y_13 z_13 st_13 hQ_13
  subst l_13 y_13 z_13
  obtain ⟨rfl, N_13q, eh_13⟩ := hQ_13
  have N_13 := Fr.app N_12 N_13q
  obtain ⟨_, _, ⟨T_14, L_14, k_14, n_14⟩, -, X_14, ⟨Lc_14, hQ_14, l_14, y_14, z_14⟩, st_14⟩ := Jvm.LawKit.callS X_13 hx (y := MN31) hown_10 (mvT hZ_10 (ow hw 184 rfl)) (mvT hZ_10 (ow hw 185 rfl)) (mvT hZ_10 (ow hw 186 rfl)) (mvT hZ_10 (ow hw 187 rfl)) (by decide) (backOf (W := 0) (rm_fin l Z a0 hw [] oy T_12.heap n0 Z_12 nnoy fioy) hZ_10 (ow hw 187 rfl) (ow hw 186 rfl) (by decide) (by decide)) (g := (mkF mM 136 (lc25 a wd hg ox oy cw ch co g__12) [(.double oy)])) rfl (by rw [hml]; rfl) (argsL := [(.double oy)]) (rest := []) (lenOf pd_24 rfl) rfl (by show 2 * 0 + _ ≤ _; exact Nat.le_of_eq rfl) (hb hby d_prog_8m1_136) (fun _ _ => ⟨rfl, eh_13, (by decide : 11 + 0 ≤ _), (by decide : 180 + 0 ≤ _)⟩)
  dsimp only [Pt.U, Pt.locs, Pt.cells, Pt.slots] at X_14 l_14 y_14 z_14 st_14 hQ_14
  subst l_14 y_14 z_14
  obtain ⟨rfl, N_14q, eh_14⟩ := hQ_14
  have N_14 := Fr.app N_13 N_14q
  obtain ⟨_, _, ⟨T_15, L_15, k_15, n_15⟩, -, X_15, ⟨Lc_15, hQ_15, l_15, y_15, z_15⟩, st_15⟩ := Jvm.LawKit.callS X_14 hx (y := MN31) hown_10 (mvT hZ_10 (ow hw 184 rfl)) (mvT hZ_10 (ow hw 185 rfl)) (mvT hZ_10 (ow hw 186 rfl)) (mvT hZ_10 (ow hw 187 rfl)) (by decide) (backOf (W := 0) (rm_fin l Z a0 hw [] cw T_12.heap n0 Z_12 nncw ficw) hZ_10 (ow hw 187 rfl) (ow hw 186 rfl) (by decide) (by decide)) (g := (mkF mM 200 (lc25 a wd hg ox oy cw ch co g__12) [(.double cw)])) rfl (by rw [hml]; rfl) (argsL := [(.double cw)]) (rest := []) (lenOf pd_24 rfl) rfl (by show 2 * 0 + _ ≤ _; exact Nat.le_of_eq rfl) (hb hby d_prog_8m1_200) (fun _ _ => ⟨rfl, eh_14, (by decide : 11 + 0 ≤ _), (by decide : 180 + 0 ≤ _)⟩)
  dsimp only [Pt.U, Pt.locs, Pt.cells, Pt.slots] at X_15 l_15 y_15 z_15 st_15 hQ_15
  subst l_15 y_15 z_15
  obtain ⟨rfl, N_15q, eh_15⟩ := hQ_15
  have N_15 := Fr.app N_14 N_15q
  obtain ⟨_, _, ⟨T_16, L_16, k_16, n_16⟩, -, X_16, ⟨Lc_16, hQ_16, l_16, y_16, z_16⟩, st_16⟩ := Jvm.LawKit.callS X_15 hx (y := MN31) hown_10 (mvT hZ_10 (ow hw 184 rfl)) (mvT hZ_10 (ow hw 185 rfl)) (mvT hZ_10 (ow hw 186 rfl)) (mvT hZ_10 (ow hw 187 rfl)) (by decide) (backOf (W := 0) (rm_fin l Z a0 hw [] ch T_12.heap n0 Z_12 nnch fich) hZ_10 (ow hw 187 rfl) (ow hw 186 rfl) (by decide) (by decide)) (g := (mkF mM 208 (lc25 a wd hg ox oy cw ch co g__12) [(.double ch)])) rfl (by rw [hml]; rfl) (argsL := [(.double ch)]) (rest := []) (lenOf pd_24 rfl) rfl (by show 2 * 0 + _ ≤ _; exact Nat.le_of_eq rfl) (hb hby d_prog_8m1_208) (fun _ _ => ⟨rfl, eh_15, (by decide : 11 + 0 ≤ _), (by decide : 180 + 0 ≤ _)⟩)
  dsimp only [Pt.U, Pt.locs, Pt.cells, Pt.slots] at X_16 l_16 y_16 z_16 st_16 hQ_16
  subst l_16 y_16 z_16
  obtain ⟨rfl, N_16q, eh_16⟩ := hQ_16
  have N_16 := Fr.app N_15 N_16q
  have Rt_5 := (((((((((((F_width_a.ext E_2).keep Kc_3 (ninS (Nat.ne_of_lt (Nat.lt_of_lt_of_le E_a.lt (Nat.le_of_eq g_2.symm))) nin0)).ext E_4).keep Kc_5 (ninS (Nat.ne_of_lt (Nat.lt_of_lt_of_le E_a.lt (Nat.le_of_eq g_2.symm))) (ninS (Nat.ne_of_lt (Nat.lt_of_lt_of_le (E_a.ext E_2).lt pfsz_d_3)) nin0))).keep Kc_6 (ninS (Nat.ne_of_lt (Nat.lt_of_lt_of_le E_a.lt (Nat.le_of_eq g_2.symm))) (ninS (Nat.ne_of_lt (Nat.lt_of_lt_of_le (E_a.ext E_2).lt pfsz_d_3)) nin0))).ext E_7).keep Kc_8 (ninS (Nat.ne_of_lt (Nat.lt_of_lt_of_le E_a.lt (Nat.le_of_eq g_2.symm))) (ninS (Nat.ne_of_lt (Nat.lt_of_lt_of_le (E_a.ext E_2).lt pfsz_d_3)) nin0))).keep Kc_9 (ninS (Nat.ne_of_lt (Nat.lt_of_lt_of_le E_a.lt (Nat.le_of_eq g_2.symm))) (ninS (Nat.ne_of_lt (Nat.lt_of_lt_of_le (E_a.ext E_2).lt pfsz_d_3)) nin0))).ext E_10).keep Kc_11 (ninS (Nat.ne_of_lt (Nat.lt_of_lt_of_le E_a.lt (Nat.le_of_eq g_2.symm))) nin0)).keep Kc_12 nin0)
  obtain ⟨T_17, h_17, X_17, e_17, W_17, st_17⟩ := putF X_16 hx hZ_10 hown_10 (host := "") (Or.inl (ow hw 192 rfl)) Via.refl eh_16 Rt_5 (((((((((((E_a.ext E_2).keep Kc_3).ext E_4).keep Kc_5).keep Kc_6).ext E_7).keep Kc_8).keep Kc_9).ext E_10).keep Kc_11).keep Kc_12) (Or.inr ⟨(ow hw 193 rfl), rfl, hnm⟩) (ow hw 3 rfl) (ty := .int) (by decide) rfl rfl (g := (mkF mM 259 (lc25 a wd hg ox oy cw ch co g__12) [(.int wd), (.ref a)])) rfl rfl (hb hby d_prog_8m1_259)
  have Fw_17 := Rt_5.same W_17
  have Z_17 : n0 ≤ h_17.size := (Nat.le_trans Z_12 (Keep.of_wr W_17).1)
  have K_17 : Keep h0 h_17 [a] := K_12.wr W_17 (Or.inl (List.mem_of_getElem? (i := 0) rfl))
  have hk_17 : _ ≤ h_17.size := Nat.le_trans hk_12 (Keep.of_wr W_17).1
  have Ca_17 := CHr.wr W_17 (Safe.exa hZ_10.alike (((((((((((E_a.ext E_2).keep Kc_3).ext E_4).keep Kc_5).keep Kc_6).ext E_7).keep Kc_8).keep Kc_9).ext E_10).keep Kc_11).keep Kc_12) (by decide) (by decide)) CR_12.1
  have CR_17 := CR_12.trans Ca_17
  have Sf_d__3_17 := Ca_17.safe (((pfB_d_9.ext E_10).keep Kc_11 (ninS (Ne.symm (Nat.ne_of_lt (Nat.lt_of_lt_of_le A_2.lt pfsz_d_3))) nin0)).keep Kc_12 nin0).lt Sf_d__3_12
  have Sf_d2__11_17 := Ca_17.safe (pfB_d2_11.keep Kc_12 nin0).lt Sf_d2__11_12
  have N_17 := Fr.snoc X_17 N_16 g_a
  have Rt_6 := ((((((((((((F_height_a.ext E_2).keep Kc_3 (ninS (Nat.ne_of_lt (Nat.lt_of_lt_of_le E_a.lt (Nat.le_of_eq g_2.symm))) nin0)).ext E_4).keep Kc_5 (ninS (Nat.ne_of_lt (Nat.lt_of_lt_of_le E_a.lt (Nat.le_of_eq g_2.symm))) (ninS (Nat.ne_of_lt (Nat.lt_of_lt_of_le (E_a.ext E_2).lt pfsz_d_3)) nin0))).keep Kc_6 (ninS (Nat.ne_of_lt (Nat.lt_of_lt_of_le E_a.lt (Nat.le_of_eq g_2.symm))) (ninS (Nat.ne_of_lt (Nat.lt_of_lt_of_le (E_a.ext E_2).lt pfsz_d_3)) nin0))).ext E_7).keep Kc_8 (ninS (Nat.ne_of_lt (Nat.lt_of_lt_of_le E_a.lt (Nat.le_of_eq g_2.symm))) (ninS (Nat.ne_of_lt (Nat.lt_of_lt_of_le (E_a.ext E_2).lt pfsz_d_3)) nin0))).keep Kc_9 (ninS (Nat.ne_of_lt (Nat.lt_of_lt_of_le E_a.lt (Nat.le_of_eq g_2.symm))) (ninS (Nat.ne_of_lt (Nat.lt_of_lt_of_le (E_a.ext E_2).lt pfsz_d_3)) nin0))).ext E_10).keep Kc_11 (ninS (Nat.ne_of_lt (Nat.lt_of_lt_of_le E_a.lt (Nat.le_of_eq g_2.symm))) nin0)).keep Kc_12 nin0).other W_17 (Or.inr (slot_ne (Or.inr (ow hw 195 rfl)) (Or.inr (ow hw 193 rfl)) (by decide) (t := .int) (t' := .int) (by decide) (by decide))))
  obtain ⟨T_18, h_18, X_18, e_18, W_18, st_18⟩ := putF X_17 hx hZ_10 hown_10 (host := "") (Or.inl (ow hw 194 rfl)) Via.refl e_17 Rt_6 ((((((((((((E_a.ext E_2).keep Kc_3).ext E_4).keep Kc_5).keep Kc_6).ext E_7).keep Kc_8).keep Kc_9).ext E_10).keep Kc_11).keep Kc_12).wr W_17) (Or.inr ⟨(ow hw 195 rfl), rfl, hnm⟩) (ow hw 3 rfl) (ty := .int) (by decide) rfl rfl (g := (mkF mM 264 (lc25 a wd hg ox oy cw ch co g__12) [(.int hg), (.ref a)])) rfl rfl (hb hby d_prog_8m1_264)
  have Fw_18 := Rt_6.same W_18
  have Rt_7 := ((((pfB_d_9.ext E_10).keep Kc_11 (ninS (Ne.symm (Nat.ne_of_lt (Nat.lt_of_lt_of_le A_2.lt pfsz_d_3))) nin0)).keep Kc_12 nin0).other W_17 (Ne.symm (Nat.ne_of_lt (Nat.lt_of_lt_of_le (E_a.ext E_2).lt pfsz_d_3))))
  have Rt_8 := ((pfB_d2_11.keep Kc_12 nin0).other W_17 (Ne.symm (Nat.ne_of_lt (Nat.lt_of_lt_of_le (((((((((E_a.ext E_2).keep Kc_3).ext E_4).keep Kc_5).keep Kc_6).ext E_7).keep Kc_8).keep Kc_9).ext E_10).lt pfsz_d2_11))))
  have Z_18 : n0 ≤ h_18.size := (Nat.le_trans Z_17 (Keep.of_wr W_18).1)
  have K_18 : Keep h0 h_18 [a] := K_17.wr W_18 (Or.inl (List.mem_of_getElem? (i := 0) rfl))
  have hk_18 : _ ≤ h_18.size := Nat.le_trans hk_17 (Keep.of_wr W_18).1
  have Ca_18 := CHr.wr W_18 (Safe.exa hZ_10.alike ((((((((((((E_a.ext E_2).keep Kc_3).ext E_4).keep Kc_5).keep Kc_6).ext E_7).keep Kc_8).keep Kc_9).ext E_10).keep Kc_11).keep Kc_12).wr W_17) (by decide) (by decide)) CR_17.1
  have CR_18 := CR_17.trans Ca_18
  have Sf_d__3_18 := Ca_18.safe Rt_7.lt Sf_d__3_17
  have Sf_d2__11_18 := Ca_18.safe Rt_8.lt Sf_d2__11_17
  have N_18 := Fr.snoc X_18 N_17 g_a
  have Rt_9 := (((((((((((((F_originX_a.ext E_2).keep Kc_3 (ninS (Nat.ne_of_lt (Nat.lt_of_lt_of_le E_a.lt (Nat.le_of_eq g_2.symm))) nin0)).ext E_4).keep Kc_5 (ninS (Nat.ne_of_lt (Nat.lt_of_lt_of_le E_a.lt (Nat.le_of_eq g_2.symm))) (ninS (Nat.ne_of_lt (Nat.lt_of_lt_of_le (E_a.ext E_2).lt pfsz_d_3)) nin0))).keep Kc_6 (ninS (Nat.ne_of_lt (Nat.lt_of_lt_of_le E_a.lt (Nat.le_of_eq g_2.symm))) (ninS (Nat.ne_of_lt (Nat.lt_of_lt_of_le (E_a.ext E_2).lt pfsz_d_3)) nin0))).ext E_7).keep Kc_8 (ninS (Nat.ne_of_lt (Nat.lt_of_lt_of_le E_a.lt (Nat.le_of_eq g_2.symm))) (ninS (Nat.ne_of_lt (Nat.lt_of_lt_of_le (E_a.ext E_2).lt pfsz_d_3)) nin0))).keep Kc_9 (ninS (Nat.ne_of_lt (Nat.lt_of_lt_of_le E_a.lt (Nat.le_of_eq g_2.symm))) (ninS (Nat.ne_of_lt (Nat.lt_of_lt_of_le (E_a.ext E_2).lt pfsz_d_3)) nin0))).ext E_10).keep Kc_11 (ninS (Nat.ne_of_lt (Nat.lt_of_lt_of_le E_a.lt (Nat.le_of_eq g_2.symm))) nin0)).keep Kc_12 nin0).other W_17 (Or.inr (slot_ne (Or.inr (ow hw 197 rfl)) (Or.inr (ow hw 193 rfl)) (by decide) (t := .double) (t' := .int) (by decide) (by decide)))).other W_18 (Or.inr (slot_ne (Or.inr (ow hw 197 rfl)) (Or.inr (ow hw 195 rfl)) (by decide) (t := .double) (t' := .int) (by decide) (by decide))))
  obtain ⟨T_19, h_19, X_19, e_19, W_19, st_19⟩ := putF X_18 hx hZ_10 hown_10 (host := "") (Or.inl (ow hw 196 rfl)) Via.refl e_18 Rt_9 (((((((((((((E_a.ext E_2).keep Kc_3).ext E_4).keep Kc_5).keep Kc_6).ext E_7).keep Kc_8).keep Kc_9).ext E_10).keep Kc_11).keep Kc_12).wr W_17).wr W_18) (Or.inr ⟨(ow hw 197 rfl), rfl, hnm⟩) (ow hw 3 rfl) (ty := .double) (by decide) rfl rfl (g := (mkF mM 269 (lc25 a wd hg ox oy cw ch co g__12) [(.double ox), (.ref a)])) rfl rfl (hb hby d_prog_8m1_269)
  have Fw_19 := Rt_9.same W_19
  have Rt_10 := (Rt_8.other W_18 (Ne.symm (Nat.ne_of_lt (Nat.lt_of_lt_of_le (((((((((E_a.ext E_2).keep Kc_3).ext E_4).keep Kc_5).keep Kc_6).ext E_7).keep Kc_8).keep Kc_9).ext E_10).lt pfsz_d2_11))))
  have Z_19 : n0 ≤ h_19.size := (Nat.le_trans Z_18 (Keep.of_wr W_19).1)
  have K_19 : Keep h0 h_19 [a] := K_18.wr W_19 (Or.inl (List.mem_of_getElem? (i := 0) rfl))
  have hk_19 : _ ≤ h_19.size := Nat.le_trans hk_18 (Keep.of_wr W_19).1
  have Ca_19 := CHr.wr W_19 (Safe.exa hZ_10.alike (((((((((((((E_a.ext E_2).keep Kc_3).ext E_4).keep Kc_5).keep Kc_6).ext E_7).keep Kc_8).keep Kc_9).ext E_10).keep Kc_11).keep Kc_12).wr W_17).wr W_18) (by decide) (by decide)) CR_18.1
  have CR_19 := CR_18.trans Ca_19
  have Sf_d__3_19 := Ca_19.safe (Rt_7.other W_18 (Ne.symm (Nat.ne_of_lt (Nat.lt_of_lt_of_le (E_a.ext E_2).lt pfsz_d_3)))).lt Sf_d__3_18
  have Sf_d2__11_19 := Ca_19.safe Rt_10.lt Sf_d2__11_18
  have N_19 := Fr.snoc X_19 N_18 g_a
  have Rt_11 := ((((((((((((((F_originY_a.ext E_2).keep Kc_3 (ninS (Nat.ne_of_lt (Nat.lt_of_lt_of_le E_a.lt (Nat.le_of_eq g_2.symm))) nin0)).ext E_4).keep Kc_5 (ninS (Nat.ne_of_lt (Nat.lt_of_lt_of_le E_a.lt (Nat.le_of_eq g_2.symm))) (ninS (Nat.ne_of_lt (Nat.lt_of_lt_of_le (E_a.ext E_2).lt pfsz_d_3)) nin0))).keep Kc_6 (ninS (Nat.ne_of_lt (Nat.lt_of_lt_of_le E_a.lt (Nat.le_of_eq g_2.symm))) (ninS (Nat.ne_of_lt (Nat.lt_of_lt_of_le (E_a.ext E_2).lt pfsz_d_3)) nin0))).ext E_7).keep Kc_8 (ninS (Nat.ne_of_lt (Nat.lt_of_lt_of_le E_a.lt (Nat.le_of_eq g_2.symm))) (ninS (Nat.ne_of_lt (Nat.lt_of_lt_of_le (E_a.ext E_2).lt pfsz_d_3)) nin0))).keep Kc_9 (ninS (Nat.ne_of_lt (Nat.lt_of_lt_of_le E_a.lt (Nat.le_of_eq g_2.symm))) (ninS (Nat.ne_of_lt (Nat.lt_of_lt_of_le (E_a.ext E_2).lt pfsz_d_3)) nin0))).ext E_10).keep Kc_11 (ninS (Nat.ne_of_lt (Nat.lt_of_lt_of_le E_a.lt (Nat.le_of_eq g_2.symm))) nin0)).keep Kc_12 nin0).other W_17 (Or.inr (slot_ne (Or.inr (ow hw 199 rfl)) (Or.inr (ow hw 193 rfl)) (by decide) (t := .double) (t' := .int) (by decide) (by decide)))).other W_18 (Or.inr (slot_ne (Or.inr (ow hw 199 rfl)) (Or.inr (ow hw 195 rfl)) (by decide) (t := .double) (t' := .int) (by decide) (by decide)))).other W_19 (Or.inr (slot_ne (Or.inr (ow hw 199 rfl)) (Or.inr (ow hw 197 rfl)) (by decide) (t := .double) (t' := .double) (by decide) (by decide))))
  have Rt_12 := ((((((((((((((E_a.ext E_2).keep Kc_3).ext E_4).keep Kc_5).keep Kc_6).ext E_7).keep Kc_8).keep Kc_9).ext E_10).keep Kc_11).keep Kc_12).wr W_17).wr W_18).wr W_19)
  obtain ⟨T_20, h_20, X_20, e_20, W_20, st_20⟩ := putF X_19 hx hZ_10 hown_10 (host := "") (Or.inl (ow hw 198 rfl)) Via.refl e_19 Rt_11 Rt_12 (Or.inr ⟨(ow hw 199 rfl), rfl, hnm⟩) (ow hw 3 rfl) (ty := .double) (by decide) rfl rfl (g := (mkF mM 275 (lc25 a wd hg ox oy cw ch co g__12) [(.double oy), (.ref a)])) rfl rfl (hb hby d_prog_8m1_275)
  have Fw_20 := Rt_11.same W_20
  have Rt_13 := ((Rt_7.other W_18 (Ne.symm (Nat.ne_of_lt (Nat.lt_of_lt_of_le (E_a.ext E_2).lt pfsz_d_3)))).other W_19 (Ne.symm (Nat.ne_of_lt (Nat.lt_of_lt_of_le (E_a.ext E_2).lt pfsz_d_3))))
  have Rt_14 := (Rt_10.other W_19 (Ne.symm (Nat.ne_of_lt (Nat.lt_of_lt_of_le (((((((((E_a.ext E_2).keep Kc_3).ext E_4).keep Kc_5).keep Kc_6).ext E_7).keep Kc_8).keep Kc_9).ext E_10).lt pfsz_d2_11))))
  have Z_20 : n0 ≤ h_20.size := (Nat.le_trans Z_19 (Keep.of_wr W_20).1)
  have K_20 : Keep h0 h_20 [a] := K_19.wr W_20 (Or.inl (List.mem_of_getElem? (i := 0) rfl))
  have hk_20 : _ ≤ h_20.size := Nat.le_trans hk_19 (Keep.of_wr W_20).1
  have Ca_20 := CHr.wr W_20 (Safe.exa hZ_10.alike Rt_12 (by decide) (by decide)) CR_19.1
  have CR_20 := CR_19.trans Ca_20
  have Sf_d__3_20 := Ca_20.safe Rt_13.lt Sf_d__3_19
  have Sf_d2__11_20 := Ca_20.safe Rt_14.lt Sf_d2__11_19
  have N_20 := Fr.snoc X_20 N_19 g_a
  have Rt_15 := (((((((((((((((F_cellWidth_a.ext E_2).keep Kc_3 (ninS (Nat.ne_of_lt (Nat.lt_of_lt_of_le E_a.lt (Nat.le_of_eq g_2.symm))) nin0)).ext E_4).keep Kc_5 (ninS (Nat.ne_of_lt (Nat.lt_of_lt_of_le E_a.lt (Nat.le_of_eq g_2.symm))) (ninS (Nat.ne_of_lt (Nat.lt_of_lt_of_le (E_a.ext E_2).lt pfsz_d_3)) nin0))).keep Kc_6 (ninS (Nat.ne_of_lt (Nat.lt_of_lt_of_le E_a.lt (Nat.le_of_eq g_2.symm))) (ninS (Nat.ne_of_lt (Nat.lt_of_lt_of_le (E_a.ext E_2).lt pfsz_d_3)) nin0))).ext E_7).keep Kc_8 (ninS (Nat.ne_of_lt (Nat.lt_of_lt_of_le E_a.lt (Nat.le_of_eq g_2.symm))) (ninS (Nat.ne_of_lt (Nat.lt_of_lt_of_le (E_a.ext E_2).lt pfsz_d_3)) nin0))).keep Kc_9 (ninS (Nat.ne_of_lt (Nat.lt_of_lt_of_le E_a.lt (Nat.le_of_eq g_2.symm))) (ninS (Nat.ne_of_lt (Nat.lt_of_lt_of_le (E_a.ext E_2).lt pfsz_d_3)) nin0))).ext E_10).keep Kc_11 (ninS (Nat.ne_of_lt (Nat.lt_of_lt_of_le E_a.lt (Nat.le_of_eq g_2.symm))) nin0)).keep Kc_12 nin0).other W_17 (Or.inr (slot_ne (Or.inr (ow hw 201 rfl)) (Or.inr (ow hw 193 rfl)) (by decide) (t := .double) (t' := .int) (by decide) (by decide)))).other W_18 (Or.inr (slot_ne (Or.inr (ow hw 201 rfl)) (Or.inr (ow hw 195 rfl)) (by decide) (t := .double) (t' := .int) (by decide) (by decide)))).other W_19 (Or.inr (slot_ne (Or.inr (ow hw 201 rfl)) (Or.inr (ow hw 197 rfl)) (by decide) (t := .double) (t' := .double) (by decide) (by decide)))).other W_20 (Or.inr (slot_ne (Or.inr (ow hw 201 rfl)) (Or.inr (ow hw 199 rfl)) (by decide) (t := .double) (t' := .double) (by decide) (by decide))))
  obtain ⟨T_21, h_21, X_21, e_21, W_21, st_21⟩ := putF X_20 hx hZ_10 hown_10 (host := "") (Or.inl (ow hw 200 rfl)) Via.refl e_20 Rt_15 (Rt_12.wr W_20) (Or.inr ⟨(ow hw 201 rfl), rfl, hnm⟩) (ow hw 3 rfl) (ty := .double) (by decide) rfl rfl (g := (mkF mM 281 (lc25 a wd hg ox oy cw ch co g__12) [(.double cw), (.ref a)])) rfl rfl (hb hby d_prog_8m1_281)
  have Fw_21 := Rt_15.same W_21
  have Rt_16 := (Rt_14.other W_20 (Ne.symm (Nat.ne_of_lt (Nat.lt_of_lt_of_le (((((((((E_a.ext E_2).keep Kc_3).ext E_4).keep Kc_5).keep Kc_6).ext E_7).keep Kc_8).keep Kc_9).ext E_10).lt pfsz_d2_11))))
  have Z_21 : n0 ≤ h_21.size := (Nat.le_trans Z_20 (Keep.of_wr W_21).1)
  have K_21 : Keep h0 h_21 [a] := K_20.wr W_21 (Or.inl (List.mem_of_getElem? (i := 0) rfl))
  have hk_21 : _ ≤ h_21.size := Nat.le_trans hk_20 (Keep.of_wr W_21).1
  have Ca_21 := CHr.wr W_21 (Safe.exa hZ_10.alike (Rt_12.wr W_20) (by decide) (by decide)) CR_20.1
  have CR_21 := CR_20.trans Ca_21
  have Sf_d__3_21 := Ca_21.safe (Rt_13.other W_20 (Ne.symm (Nat.ne_of_lt (Nat.lt_of_lt_of_le (E_a.ext E_2).lt pfsz_d_3)))).lt Sf_d__3_20
  have Sf_d2__11_21 := Ca_21.safe Rt_16.lt Sf_d2__11_20
  have N_21 := Fr.snoc X_21 N_20 g_a
  have Rt_17 := ((((((((((((((((F_cellHeight_a.ext E_2).keep Kc_3 (ninS (Nat.ne_of_lt (Nat.lt_of_lt_of_le E_a.lt (Nat.le_of_eq g_2.symm))) nin0)).ext E_4).keep Kc_5 (ninS (Nat.ne_of_lt (Nat.lt_of_lt_of_le E_a.lt (Nat.le_of_eq g_2.symm))) (ninS (Nat.ne_of_lt (Nat.lt_of_lt_of_le (E_a.ext E_2).lt pfsz_d_3)) nin0))).keep Kc_6 (ninS (Nat.ne_of_lt (Nat.lt_of_lt_of_le E_a.lt (Nat.le_of_eq g_2.symm))) (ninS (Nat.ne_of_lt (Nat.lt_of_lt_of_le (E_a.ext E_2).lt pfsz_d_3)) nin0))).ext E_7).keep Kc_8 (ninS (Nat.ne_of_lt (Nat.lt_of_lt_of_le E_a.lt (Nat.le_of_eq g_2.symm))) (ninS (Nat.ne_of_lt (Nat.lt_of_lt_of_le (E_a.ext E_2).lt pfsz_d_3)) nin0))).keep Kc_9 (ninS (Nat.ne_of_lt (Nat.lt_of_lt_of_le E_a.lt (Nat.le_of_eq g_2.symm))) (ninS (Nat.ne_of_lt (Nat.lt_of_lt_of_le (E_a.ext E_2).lt pfsz_d_3)) nin0))).ext E_10).keep Kc_11 (ninS (Nat.ne_of_lt (Nat.lt_of_lt_of_le E_a.lt (Nat.le_of_eq g_2.symm))) nin0)).keep Kc_12 nin0).other W_17 (Or.inr (slot_ne (Or.inr (ow hw 203 rfl)) (Or.inr (ow hw 193 rfl)) (by decide) (t := .double) (t' := .int) (by decide) (by decide)))).other W_18 (Or.inr (slot_ne (Or.inr (ow hw 203 rfl)) (Or.inr (ow hw 195 rfl)) (by decide) (t := .double) (t' := .int) (by decide) (by decide)))).other W_19 (Or.inr (slot_ne (Or.inr (ow hw 203 rfl)) (Or.inr (ow hw 197 rfl)) (by decide) (t := .double) (t' := .double) (by decide) (by decide)))).other W_20 (Or.inr (slot_ne (Or.inr (ow hw 203 rfl)) (Or.inr (ow hw 199 rfl)) (by decide) (t := .double) (t' := .double) (by decide) (by decide)))).other W_21 (Or.inr (slot_ne (Or.inr (ow hw 203 rfl)) (Or.inr (ow hw 201 rfl)) (by decide) (t := .double) (t' := .double) (by decide) (by decide))))
  obtain ⟨T_22, h_22, X_22, e_22, W_22, st_22⟩ := putF X_21 hx hZ_10 hown_10 (host := "") (Or.inl (ow hw 202 rfl)) Via.refl e_21 Rt_17 ((Rt_12.wr W_20).wr W_21) (Or.inr ⟨(ow hw 203 rfl), rfl, hnm⟩) (ow hw 3 rfl) (ty := .double) (by decide) rfl rfl (g := (mkF mM 287 (lc25 a wd hg ox oy cw ch co g__12) [(.double ch), (.ref a)])) rfl rfl (hb hby d_prog_8m1_287)
  have Fw_22 := Rt_17.same W_22
  have Rt_18 := ((Rt_13.other W_20 (Ne.symm (Nat.ne_of_lt (Nat.lt_of_lt_of_le (E_a.ext E_2).lt pfsz_d_3)))).other W_21 (Ne.symm (Nat.ne_of_lt (Nat.lt_of_lt_of_le (E_a.ext E_2).lt pfsz_d_3))))
  have Rt_19 := (Rt_16.other W_21 (Ne.symm (Nat.ne_of_lt (Nat.lt_of_lt_of_le (((((((((E_a.ext E_2).keep Kc_3).ext E_4).keep Kc_5).keep Kc_6).ext E_7).keep Kc_8).keep Kc_9).ext E_10).lt pfsz_d2_11))))
  have Z_22 : n0 ≤ h_22.size := (Nat.le_trans Z_21 (Keep.of_wr W_22).1)
  have K_22 : Keep h0 h_22 [a] := K_21.wr W_22 (Or.inl (List.mem_of_getElem? (i := 0) rfl))
  have hk_22 : _ ≤ h_22.size := Nat.le_trans hk_21 (Keep.of_wr W_22).1
  have Ca_22 := CHr.wr W_22 (Safe.exa hZ_10.alike ((Rt_12.wr W_20).wr W_21) (by decide) (by decide)) CR_21.1
  have CR_22 := CR_21.trans Ca_22
  have Sf_d__3_22 := Ca_22.safe Rt_18.lt Sf_d__3_21
  have Sf_d2__11_22 := Ca_22.safe Rt_19.lt Sf_d2__11_21
  have N_22 := Fr.snoc X_22 N_21 g_a
  have Rt_20 := (((((((((((((((((F_coordinates_a.ext E_2).keep Kc_3 (ninS (Nat.ne_of_lt (Nat.lt_of_lt_of_le E_a.lt (Nat.le_of_eq g_2.symm))) nin0)).ext E_4).keep Kc_5 (ninS (Nat.ne_of_lt (Nat.lt_of_lt_of_le E_a.lt (Nat.le_of_eq g_2.symm))) (ninS (Nat.ne_of_lt (Nat.lt_of_lt_of_le (E_a.ext E_2).lt pfsz_d_3)) nin0))).keep Kc_6 (ninS (Nat.ne_of_lt (Nat.lt_of_lt_of_le E_a.lt (Nat.le_of_eq g_2.symm))) (ninS (Nat.ne_of_lt (Nat.lt_of_lt_of_le (E_a.ext E_2).lt pfsz_d_3)) nin0))).ext E_7).keep Kc_8 (ninS (Nat.ne_of_lt (Nat.lt_of_lt_of_le E_a.lt (Nat.le_of_eq g_2.symm))) (ninS (Nat.ne_of_lt (Nat.lt_of_lt_of_le (E_a.ext E_2).lt pfsz_d_3)) nin0))).keep Kc_9 (ninS (Nat.ne_of_lt (Nat.lt_of_lt_of_le E_a.lt (Nat.le_of_eq g_2.symm))) (ninS (Nat.ne_of_lt (Nat.lt_of_lt_of_le (E_a.ext E_2).lt pfsz_d_3)) nin0))).ext E_10).keep Kc_11 (ninS (Nat.ne_of_lt (Nat.lt_of_lt_of_le E_a.lt (Nat.le_of_eq g_2.symm))) nin0)).keep Kc_12 nin0).other W_17 (Or.inr (slot_ne (Or.inr (ow hw 205 rfl)) (Or.inr (ow hw 193 rfl)) (by decide) (t := (.object "com/example/greenweft/greenweft/map/Coordinates")) (t' := .int) (by decide) (by decide)))).other W_18 (Or.inr (slot_ne (Or.inr (ow hw 205 rfl)) (Or.inr (ow hw 195 rfl)) (by decide) (t := (.object "com/example/greenweft/greenweft/map/Coordinates")) (t' := .int) (by decide) (by decide)))).other W_19 (Or.inr (slot_ne (Or.inr (ow hw 205 rfl)) (Or.inr (ow hw 197 rfl)) (by decide) (t := (.object "com/example/greenweft/greenweft/map/Coordinates")) (t' := .double) (by decide) (by decide)))).other W_20 (Or.inr (slot_ne (Or.inr (ow hw 205 rfl)) (Or.inr (ow hw 199 rfl)) (by decide) (t := (.object "com/example/greenweft/greenweft/map/Coordinates")) (t' := .double) (by decide) (by decide)))).other W_21 (Or.inr (slot_ne (Or.inr (ow hw 205 rfl)) (Or.inr (ow hw 201 rfl)) (by decide) (t := (.object "com/example/greenweft/greenweft/map/Coordinates")) (t' := .double) (by decide) (by decide)))).other W_22 (Or.inr (slot_ne (Or.inr (ow hw 205 rfl)) (Or.inr (ow hw 203 rfl)) (by decide) (t := (.object "com/example/greenweft/greenweft/map/Coordinates")) (t' := .double) (by decide) (by decide))))
  obtain ⟨T_23, h_23, X_23, e_23, W_23, st_23⟩ := putF X_22 hx hZ_10 hown_10 (host := "") (Or.inl (ow hw 204 rfl)) Via.refl e_22 Rt_20 (((Rt_12.wr W_20).wr W_21).wr W_22) (Or.inr ⟨(ow hw 205 rfl), rfl, hnm⟩) (ow hw 3 rfl) (ty := (.object "com/example/greenweft/greenweft/map/Coordinates")) (by decide) rfl rfl (g := (mkF mM 293 (lc25 a wd hg ox oy cw ch co g__12) [(.ref co), (.ref a)])) rfl rfl (hb hby d_prog_8m1_293)
  have Fw_23 := Rt_20.same W_23
  have Rt_21 := (Rt_19.other W_22 (Ne.symm (Nat.ne_of_lt (Nat.lt_of_lt_of_le (((((((((E_a.ext E_2).keep Kc_3).ext E_4).keep Kc_5).keep Kc_6).ext E_7).keep Kc_8).keep Kc_9).ext E_10).lt pfsz_d2_11))))
  have Z_23 : n0 ≤ h_23.size := (Nat.le_trans Z_22 (Keep.of_wr W_23).1)
  have K_23 : Keep h0 h_23 [a] := K_22.wr W_23 (Or.inl (List.mem_of_getElem? (i := 0) rfl))
  have hk_23 : _ ≤ h_23.size := Nat.le_trans hk_22 (Keep.of_wr W_23).1
  have Ca_23 := CHr.wr W_23 (Safe.exa hZ_10.alike (((Rt_12.wr W_20).wr W_21).wr W_22) (by decide) (by decide)) CR_22.1
  have CR_23 := CR_22.trans Ca_23
  have Sf_d__3_23 := Ca_23.safe (Rt_18.other W_22 (Ne.symm (Nat.ne_of_lt (Nat.lt_of_lt_of_le (E_a.ext E_2).lt pfsz_d_3)))).lt Sf_d__3_22
  have Sf_d2__11_23 := Ca_23.safe Rt_21.lt Sf_d2__11_22
  have N_23 := Fr.snoc X_23 N_22 g_a
  have hCF : CHr Z own_EL sS.vm sS.heap T_23.vm T_23.heap := by rw [hh, e_23]; exact CR_23.trans (CHv.at X_23 hZ_10 (own_EW hw) CR_23.1)
  obtain ⟨fs, hr, hrun, hended, hRE⟩ := X_23.leaveW hS_10 (show _ ≤ T_23.heap.size by rw [e_23]; exact hk_23) (v := none) (fun _ => rfl)
  refine ⟨_, _, pre0 _ ?_, hrun, hended, _, _, rfl, ?_, hCF, ⟨_, rfl⟩, hRE.2.1, hRE.2.2.1, hRE.2.2.2.mono (by decide) (by decide)⟩
  · show oS pP eE below s₁ (mkF mM 0 (lc24 a wd hg ox oy cw ch co) []) _
    refine XS.aloadN X0.here hx rfl (hb hby d_prog_8m1_0) rfl rfl ?_
    show oS pP eE below s₁ (mkF mM 1 (lc24 a wd hg ox oy cw ch co) [(.ref a)]) _
    refine st_1.trans ?_
    show oS pP eE below T_1 (mkF mM 4 (lc24 a wd hg ox oy cw ch co) []) _
    refine st_2 _ ?_
    show oS pP eE below T_2 (mkF mM 7 (lc24 a wd hg ox oy cw ch co) [(.ref b_2)]) _
    refine XS.dup X_2.here hx rfl (hb hby d_prog_8m1_7) rfl rfl ?_
    show oS pP eE below T_2 (mkF mM 8 (lc24 a wd hg ox oy cw ch co) [(.ref b_2), (.ref b_2)]) _
    refine st_3.trans ?_
    show oS pP eE below T_3 (mkF mM 11 (lc24 a wd hg ox oy cw ch co) [(.ref b_2)]) _
    refine st_4 _ ?_
    show oS pP eE below T_4 (mkF mM 13 (lc24 a wd hg ox oy cw ch co) [(.ref a_4), (.ref b_2)]) _
    refine st_5.trans ?_
    show oS pP eE below T_5 (mkF mM 16 (lc24 a wd hg ox oy cw ch co) [(.ref b_2)]) _
    refine XS.iloadN X_5.here hx rfl (hb hby d_prog_8m1_16) rfl ?_
    show oS pP eE below T_5 (mkF mM 17 (lc24 a wd hg ox oy cw ch co) [(.int wd), (.ref b_2)]) _
    refine st_6.trans ?_
    show oS pP eE below T_6 (mkF mM 20 (lc24 a wd hg ox oy cw ch co) [(.ref b_2)]) _
    refine st_7 _ ?_
    show oS pP eE below T_7 (mkF mM 22 (lc24 a wd hg ox oy cw ch co) [(.ref a_7), (.ref b_2)]) _
    refine st_8.trans ?_
    show oS pP eE below T_8 (mkF mM 25 (lc24 a wd hg ox oy cw ch co) [(.ref b_2)]) _
    refine XS.iloadN X_8.here hx rfl (hb hby d_prog_8m1_25) rfl ?_
    show oS pP eE below T_8 (mkF mM 26 (lc24 a wd hg ox oy cw ch co) [(.int hg), (.ref b_2)]) _
    refine st_9.trans ?_
    show oS pP eE below T_9 (mkF mM 29 (lc24 a wd hg ox oy cw ch co) [(.ref b_2)]) _
    refine st_10 _ ?_
    show oS pP eE below T_10 (mkF mM 31 (lc24 a wd hg ox oy cw ch co) [(.ref a_10), (.ref b_2)]) _
    refine st_11.trans ?_
    show oS pP eE below T_11 (mkF mM 34 (lc24 a wd hg ox oy cw ch co) [(.ref b_2)]) _
    refine st_12.trans ?_
    show oS pP eE below T_12 (mkF mM 37 (lc24 a wd hg ox oy cw ch co) [(.ref g__12)]) _
    refine XS.astore X_12.here hx rfl (hb hby d_prog_8m1_37) rfl rfl (l' := (lc25 a wd hg ox oy cw ch co g__12)) rfl ?_
    refine XS.iloadN X_12.here hx rfl (hb hby d_prog_8m1_39) rfl ?_
    refine XS.iconst X_12.here hx rfl (hb hby d_prog_8m1_40) ?_
    refine XS.icmpNo X_12.here hx rfl (hb hby d_prog_8m1_41) rfl (XT.ii_lt_f hw1) ?_
    refine XS.iloadN X_12.here hx rfl (hb hby d_prog_8m1_44) rfl ?_
    refine XS.iconst X_12.here hx rfl (hb hby d_prog_8m1_45) ?_
    refine XS.icmpYes X_12.here hx rfl (pc0 := 46) (pc' := 77) rfl (hb hby d_prog_8m1_46) rfl (XT.ii_ge_t hh1) (by decide) (by decide) ?_
    refine XS.iloadN X_12.here hx rfl (hb hby d_prog_8m1_77) rfl ?_
    show oS pP eE below T_12 (mkF mM 78 (lc25 a wd hg ox oy cw ch co g__12) [(.int wd)]) _
    refine XT.i2l X_12.here hx rfl (hb hby d_prog_8m1_78) rfl ?_
    refine XS.iloadN X_12.here hx rfl (hb hby d_prog_8m1_79) rfl ?_
    show oS pP eE below T_12 (mkF mM 80 (lc25 a wd hg ox oy cw ch co g__12) [(.int hg), (.long (wd.toInt64))]) _
    refine XT.i2l X_12.here hx rfl (hb hby d_prog_8m1_80) rfl ?_
    show oS pP eE below T_12 (mkF mM 81 (lc25 a wd hg ox oy cw ch co g__12) [(.long (hg.toInt64)), (.long (wd.toInt64))]) _
    refine XT.lmul X_12.here hx rfl (hb hby d_prog_8m1_81) rfl ?_
    show oS pP eE below T_12 (mkF mM 82 (lc25 a wd hg ox oy cw ch co g__12) [(.long ((wd.toInt64) * (hg.toInt64)))]) _
    refine X_12.ldc2J hx hown_10 (mvT hZ_10 (ow hw 183 rfl)) (g := (mkF mM 82 (lc25 a wd hg ox oy cw ch co g__12) [(.long ((wd.toInt64) * (hg.toInt64)))])) rfl (hb hby d_prog_8m1_82) ?_
    show oS pP eE below T_12 (mkF mM 85 (lc25 a wd hg ox oy cw ch co g__12) [(.long (2147483647 : Int64)), (.long ((wd.toInt64) * (hg.toInt64)))]) _
    refine XT.lcmp X_12.here hx rfl (hb hby d_prog_8m1_85) rfl ?_
    refine XS.ifYes X_12.here hx rfl (pc0 := 86) (pc' := 127) rfl (hb hby d_prog_8m1_86) rfl (XT.ll_le_t hmx) (by decide) (by decide) ?_
    show oS pP eE below T_12 (mkF mM 127 (lc25 a wd hg ox oy cw ch co g__12) []) _
    refine XS.dloadN X_12.here hx rfl (hb hby d_prog_8m1_127) rfl ?_
    show oS pP eE below T_12 (mkF mM 128 (lc25 a wd hg ox oy cw ch co g__12) [(.double ox)]) _
    refine st_13 _ ?_
    show oS pP eE below T_13 (mkF mM 131 (lc25 a wd hg ox oy cw ch co g__12) [(.int (1 : Int32))]) _
    refine XS.ifNo X_13.here hx rfl (hb hby d_prog_8m1_131) rfl (by decide) ?_
    show oS pP eE below T_13 (mkF mM 134 (lc25 a wd hg ox oy cw ch co g__12) []) _
    refine XS.dload X_13.here hx rfl (hb hby d_prog_8m1_134) rfl ?_
    show oS pP eE below T_13 (mkF mM 136 (lc25 a wd hg ox oy cw ch co g__12) [(.double oy)]) _
    refine st_14 _ ?_
    show oS pP eE below T_14 (mkF mM 139 (lc25 a wd hg ox oy cw ch co g__12) [(.int (1 : Int32))]) _
    refine XS.ifYes X_14.here hx rfl (pc0 := 139) (pc' := 184) rfl (hb hby d_prog_8m1_139) rfl (by decide) (by decide) (by decide) ?_
    show oS pP eE below T_14 (mkF mM 184 (lc25 a wd hg ox oy cw ch co g__12) []) _
    refine XS.dload X_14.here hx rfl (hb hby d_prog_8m1_184) rfl ?_
    show oS pP eE below T_14 (mkF mM 186 (lc25 a wd hg ox oy cw ch co g__12) [(.double cw)]) _
    refine XS.dconst0 X_14.here hx rfl (v := (0 : UInt64)) (hb hby d_prog_8m1_186) rfl ?_
    show oS pP eE below T_14 (mkF mM 187 (lc25 a wd hg ox oy cw ch co g__12) [(.double (0 : UInt64)), (.double cw)]) _
    refine XS.dcmpS X_14.here hx rfl (hb hby d_prog_8m1_187) rfl rfl ?_
    refine XS.ifNo X_14.here hx rfl (hb hby d_prog_8m1_188) rfl (XT.i0_le_f pscw) ?_
    show oS pP eE below T_14 (mkF mM 191 (lc25 a wd hg ox oy cw ch co g__12) []) _
    refine XS.dload X_14.here hx rfl (hb hby d_prog_8m1_191) rfl ?_
    show oS pP eE below T_14 (mkF mM 193 (lc25 a wd hg ox oy cw ch co g__12) [(.double ch)]) _
    refine XS.dconst0 X_14.here hx rfl (v := (0 : UInt64)) (hb hby d_prog_8m1_193) rfl ?_
    show oS pP eE below T_14 (mkF mM 194 (lc25 a wd hg ox oy cw ch co g__12) [(.double (0 : UInt64)), (.double ch)]) _
    refine XS.dcmpS X_14.here hx rfl (hb hby d_prog_8m1_194) rfl rfl ?_
    refine XS.ifNo X_14.here hx rfl (hb hby d_prog_8m1_195) rfl (XT.i0_le_f psch) ?_
    show oS pP eE below T_14 (mkF mM 198 (lc25 a wd hg ox oy cw ch co g__12) []) _
    refine XS.dload X_14.here hx rfl (hb hby d_prog_8m1_198) rfl ?_
    show oS pP eE below T_14 (mkF mM 200 (lc25 a wd hg ox oy cw ch co g__12) [(.double cw)]) _
    refine st_15 _ ?_
    show oS pP eE below T_15 (mkF mM 203 (lc25 a wd hg ox oy cw ch co g__12) [(.int (1 : Int32))]) _
    refine XS.ifNo X_15.here hx rfl (hb hby d_prog_8m1_203) rfl (by decide) ?_
    show oS pP eE below T_15 (mkF mM 206 (lc25 a wd hg ox oy cw ch co g__12) []) _
    refine XS.dload X_15.here hx rfl (hb hby d_prog_8m1_206) rfl ?_
    show oS pP eE below T_15 (mkF mM 208 (lc25 a wd hg ox oy cw ch co g__12) [(.double ch)]) _
    refine st_16 _ ?_
    show oS pP eE below T_16 (mkF mM 211 (lc25 a wd hg ox oy cw ch co g__12) [(.int (1 : Int32))]) _
    refine XS.ifYes X_16.here hx rfl (pc0 := 211) (pc' := 257) rfl (hb hby d_prog_8m1_211) rfl (by decide) (by decide) (by decide) ?_
    refine XS.aloadN X_16.here hx rfl (hb hby d_prog_8m1_257) rfl rfl ?_
    refine XS.iloadN X_16.here hx rfl (hb hby d_prog_8m1_258) rfl ?_
    show oS pP eE below T_16 (mkF mM 259 (lc25 a wd hg ox oy cw ch co g__12) [(.int wd), (.ref a)]) _
    refine st_17 _ ?_
    show oS pP eE below T_17 (mkF mM 262 (lc25 a wd hg ox oy cw ch co g__12) []) _
    refine XS.aloadN X_17.here hx rfl (hb hby d_prog_8m1_262) rfl rfl ?_
    refine XS.iloadN X_17.here hx rfl (hb hby d_prog_8m1_263) rfl ?_
    show oS pP eE below T_17 (mkF mM 264 (lc25 a wd hg ox oy cw ch co g__12) [(.int hg), (.ref a)]) _
    refine st_18 _ ?_
    show oS pP eE below T_18 (mkF mM 267 (lc25 a wd hg ox oy cw ch co g__12) []) _
    refine XS.aloadN X_18.here hx rfl (hb hby d_prog_8m1_267) rfl rfl ?_
    show oS pP eE below T_18 (mkF mM 268 (lc25 a wd hg ox oy cw ch co g__12) [(.ref a)]) _
    refine XS.dloadN X_18.here hx rfl (hb hby d_prog_8m1_268) rfl ?_
    show oS pP eE below T_18 (mkF mM 269 (lc25 a wd hg ox oy cw ch co g__12) [(.double ox), (.ref a)]) _
    refine st_19 _ ?_
    show oS pP eE below T_19 (mkF mM 272 (lc25 a wd hg ox oy cw ch co g__12) []) _
    refine XS.aloadN X_19.here hx rfl (hb hby d_prog_8m1_272) rfl rfl ?_
    show oS pP eE below T_19 (mkF mM 273 (lc25 a wd hg ox oy cw ch co g__12) [(.ref a)]) _
    refine XS.dload X_19.here hx rfl (hb hby d_prog_8m1_273) rfl ?_
    show oS pP eE below T_19 (mkF mM 275 (lc25 a wd hg ox oy cw ch co g__12) [(.double oy), (.ref a)]) _
    refine st_20 _ ?_
    show oS pP eE below T_20 (mkF mM 278 (lc25 a wd hg ox oy cw ch co g__12) []) _
    refine XS.aloadN X_20.here hx rfl (hb hby d_prog_8m1_278) rfl rfl ?_
    show oS pP eE below T_20 (mkF mM 279 (lc25 a wd hg ox oy cw ch co g__12) [(.ref a)]) _
    refine XS.dload X_20.here hx rfl (hb hby d_prog_8m1_279) rfl ?_
    show oS pP eE below T_20 (mkF mM 281 (lc25 a wd hg ox oy cw ch co g__12) [(.double cw), (.ref a)]) _
    refine st_21 _ ?_
    show oS pP eE below T_21 (mkF mM 284 (lc25 a wd hg ox oy cw ch co g__12) []) _
    refine XS.aloadN X_21.here hx rfl (hb hby d_prog_8m1_284) rfl rfl ?_
    show oS pP eE below T_21 (mkF mM 285 (lc25 a wd hg ox oy cw ch co g__12) [(.ref a)]) _
    refine XS.dload X_21.here hx rfl (hb hby d_prog_8m1_285) rfl ?_
    show oS pP eE below T_21 (mkF mM 287 (lc25 a wd hg ox oy cw ch co g__12) [(.double ch), (.ref a)]) _
    refine st_22 _ ?_
    show oS pP eE below T_22 (mkF mM 290 (lc25 a wd hg ox oy cw ch co g__12) []) _
    refine XS.aloadN X_22.here hx rfl (hb hby d_prog_8m1_290) rfl rfl ?_
    refine XS.aload X_22.here hx rfl (hb hby d_prog_8m1_291) rfl rfl ?_
    show oS pP eE below T_22 (mkF mM 293 (lc25 a wd hg ox oy cw ch co g__12) [(.ref co), (.ref a)]) _
    refine st_23 _ ?_
    show oS pP eE below T_23 (mkF mM 296 (lc25 a wd hg ox oy cw ch co g__12) []) _
    exact X_23.returnOut hx Bd.returns (hb hby d_prog_8m1_296) hr
  · show Q_gi Z a wd hg ox oy cw ch co o1 o2 k2 k3 k4 k5 cs h0 n0 _ T_23.heap _
    rw [e_23]
    exact ⟨rfl, N_23, K_23, ((((((Fw_17.other W_18 (Or.inr (slot_ne (Or.inr (ow hw 193 rfl)) (Or.inr (ow hw 195 rfl)) (by decide) (t := .int) (t' := .int) (by decide) (by decide)))).other W_19 (Or.inr (slot_ne (Or.inr (ow hw 193 rfl)) (Or.inr (ow hw 197 rfl)) (by decide) (t := .int) (t' := .double) (by decide) (by decide)))).other W_20 (Or.inr (slot_ne (Or.inr (ow hw 193 rfl)) (Or.inr (ow hw 199 rfl)) (by decide) (t := .int) (t' := .double) (by decide) (by decide)))).other W_21 (Or.inr (slot_ne (Or.inr (ow hw 193 rfl)) (Or.inr (ow hw 201 rfl)) (by decide) (t := .int) (t' := .double) (by decide) (by decide)))).other W_22 (Or.inr (slot_ne (Or.inr (ow hw 193 rfl)) (Or.inr (ow hw 203 rfl)) (by decide) (t := .int) (t' := .double) (by decide) (by decide)))).other W_23 (Or.inr (slot_ne (Or.inr (ow hw 193 rfl)) (Or.inr (ow hw 205 rfl)) (by decide) (t := .int) (t' := (.object "com/example/greenweft/greenweft/map/Coordinates")) (by decide) (by decide)))), (((((Fw_18.other W_19 (Or.inr (slot_ne (Or.inr (ow hw 195 rfl)) (Or.inr (ow hw 197 rfl)) (by decide) (t := .int) (t' := .double) (by decide) (by decide)))).other W_20 (Or.inr (slot_ne (Or.inr (ow hw 195 rfl)) (Or.inr (ow hw 199 rfl)) (by decide) (t := .int) (t' := .double) (by decide) (by decide)))).other W_21 (Or.inr (slot_ne (Or.inr (ow hw 195 rfl)) (Or.inr (ow hw 201 rfl)) (by decide) (t := .int) (t' := .double) (by decide) (by decide)))).other W_22 (Or.inr (slot_ne (Or.inr (ow hw 195 rfl)) (Or.inr (ow hw 203 rfl)) (by decide) (t := .int) (t' := .double) (by decide) (by decide)))).other W_23 (Or.inr (slot_ne (Or.inr (ow hw 195 rfl)) (Or.inr (ow hw 205 rfl)) (by decide) (t := .int) (t' := (.object "com/example/greenweft/greenweft/map/Coordinates")) (by decide) (by decide)))), ((((Fw_19.other W_20 (Or.inr (slot_ne (Or.inr (ow hw 197 rfl)) (Or.inr (ow hw 199 rfl)) (by decide) (t := .double) (t' := .double) (by decide) (by decide)))).other W_21 (Or.inr (slot_ne (Or.inr (ow hw 197 rfl)) (Or.inr (ow hw 201 rfl)) (by decide) (t := .double) (t' := .double) (by decide) (by decide)))).other W_22 (Or.inr (slot_ne (Or.inr (ow hw 197 rfl)) (Or.inr (ow hw 203 rfl)) (by decide) (t := .double) (t' := .double) (by decide) (by decide)))).other W_23 (Or.inr (slot_ne (Or.inr (ow hw 197 rfl)) (Or.inr (ow hw 205 rfl)) (by decide) (t := .double) (t' := (.object "com/example/greenweft/greenweft/map/Coordinates")) (by decide) (by decide)))), (((Fw_20.other W_21 (Or.inr (slot_ne (Or.inr (ow hw 199 rfl)) (Or.inr (ow hw 201 rfl)) (by decide) (t := .double) (t' := .double) (by decide) (by decide)))).other W_22 (Or.inr (slot_ne (Or.inr (ow hw 199 rfl)) (Or.inr (ow hw 203 rfl)) (by decide) (t := .double) (t' := .double) (by decide) (by decide)))).other W_23 (Or.inr (slot_ne (Or.inr (ow hw 199 rfl)) (Or.inr (ow hw 205 rfl)) (by decide) (t := .double) (t' := (.object "com/example/greenweft/greenweft/map/Coordinates")) (by decide) (by decide)))), ((Fw_21.other W_22 (Or.inr (slot_ne (Or.inr (ow hw 201 rfl)) (Or.inr (ow hw 203 rfl)) (by decide) (t := .double) (t' := .double) (by decide) (by decide)))).other W_23 (Or.inr (slot_ne (Or.inr (ow hw 201 rfl)) (Or.inr (ow hw 205 rfl)) (by decide) (t := .double) (t' := (.object "com/example/greenweft/greenweft/map/Coordinates")) (by decide) (by decide)))), (Fw_22.other W_23 (Or.inr (slot_ne (Or.inr (ow hw 203 rfl)) (Or.inr (ow hw 205 rfl)) (by decide) (t := .double) (t' := (.object "com/example/greenweft/greenweft/map/Coordinates")) (by decide) (by decide)))), Fw_23, ((((Rt_12.wr W_20).wr W_21).wr W_22).wr W_23)⟩
set_option maxRecDepth 65536 in
set_option maxHeartbeats 40000000 in
theorem rm_gi (l : Launch) (Z : State) (a0 : Array Value) (hw : ∀ d ∈ tables_1, d.before a0 Z = true) (ws : List Jvm.Cond) (a : Addr) (wd : Int32) (hg : Int32) (ox : UInt64) (oy : UInt64) (cw : UInt64) (ch : UInt64) (co : Addr) (o1 : Addr) (o2 : Addr) (k2 : Int32) (k3 : Int32) (k4 : Int32) (k5 : Int32) (cs : Int32) (h0 : Heap) (n0 : Nat) (Z0 : n0 ≤ h0.size) (F_width_a : Fld Z h0 a "com/example/greenweft/greenweft/map/Grid" "width" "I" (.int (0 : Int32))) (F_height_a : Fld Z h0 a "com/example/greenweft/greenweft/map/Grid" "height" "I" (.int (0 : Int32))) (F_originX_a : Fld Z h0 a "com/example/greenweft/greenweft/map/Grid" "originX" "D" (.double (0 : UInt64))) (F_originY_a : Fld Z h0 a "com/example/greenweft/greenweft/map/Grid" "originY" "D" (.double (0 : UInt64))) (F_cellWidth_a : Fld Z h0 a "com/example/greenweft/greenweft/map/Grid" "cellWidth" "D" (.double (0 : UInt64))) (F_cellHeight_a : Fld Z h0 a "com/example/greenweft/greenweft/map/Grid" "cellHeight" "D" (.double (0 : UInt64))) (F_coordinates_a : Fld Z h0 a "com/example/greenweft/greenweft/map/Grid" "coordinates" "Lcom/example/greenweft/greenweft/map/Coordinates;" .null) (E_a : Exa Z h0 a "com/example/greenweft/greenweft/map/Grid") (g_a : n0 ≤ a) (S_Integer_DigitOnes : Sta Z h0 "java/lang/Integer" "DigitOnes" "[B" (.ref o1)) (S_Integer_DigitTens : Sta Z h0 "java/lang/Integer" "DigitTens" "[B" (.ref o2)) (B_o1 : own_B Z h0 o1 (100 : Int32)) (B_o2 : own_B Z h0 o2 (100 : Int32)) (S_String_COMPACT_STRINGS : Sta Z h0 "java/lang/String" "COMPACT_STRINGS" "Z" (.int cs)) (hcs : ¬ cs = 0) (hiw : own_i5 wd) (hih : own_i5 hg) (hw1 : ¬ wd < (1 : Int32)) (hh1 : ¬ hg < (1 : Int32)) (hmx : ¬ (2147483647 : Int64) < ((wd.toInt64) * (hg.toInt64))) (nnox : Jvm.Free.Fl.NoNaN64 ox) (fiox : ¬ 0 < (cmpValue (FP.dcmp (ox &&& (9223372036854775807 : UInt64)) (9218868437227405311 : UInt64)) .g)) (nnoy : Jvm.Free.Fl.NoNaN64 oy) (fioy : ¬ 0 < (cmpValue (FP.dcmp (oy &&& (9223372036854775807 : UInt64)) (9218868437227405311 : UInt64)) .g)) (nncw : Jvm.Free.Fl.NoNaN64 cw) (ficw : ¬ 0 < (cmpValue (FP.dcmp (cw &&& (9223372036854775807 : UInt64)) (9218868437227405311 : UInt64)) .g)) (nnch : Jvm.Free.Fl.NoNaN64 ch) (fich : ¬ 0 < (cmpValue (FP.dcmp (ch &&& (9223372036854775807 : UInt64)) (9218868437227405311 : UInt64)) .g)) (pscw : 0 < (cmpValue (FP.dcmp cw (0 : UInt64)) .l)) (psch : 0 < (cmpValue (FP.dcmp ch (0 : UInt64)) .l)) (hk2 : ((10 : Int32) + (own_sz wd)) = k2) (hk3 : (k2 + (3 : Int32)) = k3) (hk4 : (k3 + (own_sz hg)) = k4) (hk5 : (k4 + (6 : Int32)) = k5) (hh4 : hg.toInt < 10000) :
    MetFree l (⟨"com/example/greenweft/greenweft/map/Grid", "<init>", "(IIDDDDLcom/example/greenweft/greenweft/map/Coordinates;)V"⟩ : MethodName) (head1 (Jvm.Cond.code (⟨"com/example/greenweft/greenweft/map/Grid", "<init>", "(IIDDDDLcom/example/greenweft/greenweft/map/Coordinates;)V"⟩ : MethodName) prog_8_method_1_code 13 none :: ws) oR20) (fun aa_ U_ => aa_ = #[(.ref a), (.int wd), (.int hg), (.double ox), (.double oy), (.double cw), (.double ch), (.ref co)] ∧ Z.Warmed39 U_.vm ∧ U_.heap = h0 ∧ CHv Z own_EL U_.vm h0) (fun _ _ _ _ _ => True) (fun _ U_ o_ U'_ => ∃ v_ L_, o_ = .returned v_ ∧ Q_gi Z a wd hg ox oy cw ch co o1 o2 k2 k3 k4 k5 cs h0 n0 v_ U'_.heap L_ ∧ CHr Z own_EL U_.vm U_.heap U'_.vm U'_.heap ∧ ReturnedEndW U_ o_ U'_ L_ oR20.cells oR20.slots) := by
  obtain ⟨e2, e3, e4, e5, b1, b2, b3, b4⟩ := own_kr hh4 hk2 hk3 hk4 hk5
  have tz := own_tzI (k5 := k5) ⟨by omega, by omega⟩
  have f1 : own_fit wd k2 (16 : Int32) := ⟨hiw, by omega, by show _ ≤ (16 : Int); omega, by decide⟩
  by_cases g3 : 0 < (k3 - (16 : Int32))
  · exact rm_giA l Z a0 hw ws a wd hg ox oy cw ch co o1 o2 k2 k3 k4 k5 cs h0 n0 Z0 F_width_a F_height_a F_originX_a F_originY_a F_cellWidth_a F_cellHeight_a F_coordinates_a E_a g_a S_Integer_DigitOnes S_Integer_DigitTens B_o1 B_o2 S_String_COMPACT_STRINGS hcs hiw hih hw1 hh1 hmx nnox fiox nnoy fioy nncw ficw nnch fich pscw psch hk2 hk3 hk4 hk5 (by decide) (by unfold own_cp; decide) (own_no ⟨by omega, by omega⟩ ⟨by decide, by decide⟩ (by show k2.toInt ≤ (16 : Int); omega)) f1 g3 (own_lt18 ⟨by omega, by omega⟩) (own_cpI (by decide) (by omega) (by decide) (by decide) (by show k2.toInt + (3 : Int) ≤ (34 : Int); omega)) (own_no ⟨by omega, by omega⟩ ⟨by decide, by decide⟩ (by show k4.toInt ≤ (34 : Int); omega)) ⟨hih, by omega, by show _ ≤ (34 : Int); omega, by decide⟩ (own_no ⟨by omega, by omega⟩ ⟨by decide, by decide⟩ (by show k5.toInt ≤ (34 : Int); omega)) (own_cpI (by decide) (by omega) (by decide) (by decide) (by show k4.toInt + (6 : Int) ≤ (34 : Int); omega)) tz.1 tz.2.1 tz.2.2.1 tz.2.2.2.1 tz.2.2.2.2
  · have g3q : ¬ (16 : Int) < k3.toInt := fun q => g3 ((own_gt ⟨by omega, by omega⟩ ⟨by decide, by decide⟩).mpr q)
    by_cases g4 : 0 < (k4 - (16 : Int32))
    · exact rm_giB l Z a0 hw ws a wd hg ox oy cw ch co o1 o2 k2 k3 k4 k5 cs h0 n0 Z0 F_width_a F_height_a F_originX_a F_originY_a F_cellWidth_a F_cellHeight_a F_coordinates_a E_a g_a S_Integer_DigitOnes S_Integer_DigitTens B_o1 B_o2 S_String_COMPACT_STRINGS hcs hiw hih hw1 hh1 hmx nnox fiox nnoy fioy nncw ficw nnch fich pscw psch hk2 hk3 hk4 hk5 (by decide) (by unfold own_cp; decide) (own_no ⟨by omega, by omega⟩ ⟨by decide, by decide⟩ (by show k2.toInt ≤ (16 : Int); omega)) f1 g3 (own_cpI (by decide) (by omega) (by decide) (by decide) (by show k2.toInt + (3 : Int) ≤ (16 : Int); omega)) g4 (own_lt18 ⟨by omega, by omega⟩) ⟨hih, by omega, by show _ ≤ (34 : Int); omega, by decide⟩ (own_no ⟨by omega, by omega⟩ ⟨by decide, by decide⟩ (by show k5.toInt ≤ (34 : Int); omega)) (own_cpI (by decide) (by omega) (by decide) (by decide) (by show k4.toInt + (6 : Int) ≤ (34 : Int); omega)) tz.1 tz.2.1 tz.2.2.1 tz.2.2.2.1 tz.2.2.2.2
    · have g4q : ¬ (16 : Int) < k4.toInt := fun q => g4 ((own_gt ⟨by omega, by omega⟩ ⟨by decide, by decide⟩).mpr q)
      exact rm_giC l Z a0 hw ws a wd hg ox oy cw ch co o1 o2 k2 k3 k4 k5 cs h0 n0 Z0 F_width_a F_height_a F_originX_a F_originY_a F_cellWidth_a F_cellHeight_a F_coordinates_a E_a g_a S_Integer_DigitOnes S_Integer_DigitTens B_o1 B_o2 S_String_COMPACT_STRINGS hcs hiw hih hw1 hh1 hmx nnox fiox nnoy fioy nncw ficw nnch fich pscw psch hk2 hk3 hk4 hk5 (by decide) (by unfold own_cp; decide) (own_no ⟨by omega, by omega⟩ ⟨by decide, by decide⟩ (by show k2.toInt ≤ (16 : Int); omega)) f1 g3 (own_cpI (by decide) (by omega) (by decide) (by decide) (by show k2.toInt + (3 : Int) ≤ (16 : Int); omega)) g4 ⟨hih, by omega, by show _ ≤ (16 : Int); omega, by decide⟩ ((own_gt ⟨by omega, by omega⟩ ⟨by decide, by decide⟩).mpr (by show (16 : Int) < _; omega)) (own_lt18 ⟨by omega, by omega⟩) (own_cpI (by decide) (by omega) (by decide) (by decide) (by show k4.toInt + (6 : Int) ≤ (34 : Int); omega)) tz.1 tz.2.1 tz.2.2.1 tz.2.2.2.1 tz.2.2.2.2
def Q_crd (Z : State) (p : Int32) (r0 : Addr) (r1 : Addr) (r2 : Addr) (h0 : Heap) (n0 : Nat) (v_ : Option Value) (h_ : Heap) (L_ : List Loc) : Prop := v_ = some (.ref (own_co p r0 r1 r2)) ∧ Fr n0 L_ ∧ h_ = h0
theorem d_method_2_0 : decode method_2_code 0 = .ok (.iload_n 0, 1) := by decide +kernel
theorem d_method_2_1 : decode method_2_code 1 = .ok (.ifCond .ne 7, 3) := by decide +kernel
theorem d_method_2_4 : decode method_2_code 4 = .ok (.getstatic 7, 3) := by decide +kernel
theorem d_method_2_7 : decode method_2_code 7 = .ok (.areturn, 1) := by decide +kernel
theorem pn_9 : plainName "com/example/greenweft/greenweft/map/GridAlignsWithPinLaw" = true := by first | (simp [plainName, overriddenIn]; done) | decide +kernel
theorem ef_crd_0 (mM : MethodId) (x0 : Int32) : entryFrame mM #[(.int x0)] 1 = mkF mM 0 #[.val (.int x0)] [] := by first | (simp [entryFrame, mkF, argsToLocals, Value.category]; done) | rfl
set_option maxRecDepth 65536 in
set_option maxHeartbeats 40000000 in
theorem rm_crd_0 (l : Launch) (Z : State) (a0 : Array Value) (hw : ∀ d ∈ tables_1, d.before a0 Z = true) (ws : List Jvm.Cond) (p : Int32) (r0 : Addr) (r1 : Addr) (r2 : Addr) (h0 : Heap) (n0 : Nat) (Z0 : n0 ≤ h0.size) (S_Coordinates_PROJECTED_METRES : Sta Z h0 "com/example/greenweft/greenweft/map/Coordinates" "PROJECTED_METRES" "Lcom/example/greenweft/greenweft/map/Coordinates;" (.ref r0)) (S_Coordinates_GEOGRAPHIC : Sta Z h0 "com/example/greenweft/greenweft/map/Coordinates" "GEOGRAPHIC" "Lcom/example/greenweft/greenweft/map/Coordinates;" (.ref r1)) (S_Coordinates_OTHER : Sta Z h0 "com/example/greenweft/greenweft/map/Coordinates" "OTHER" "Lcom/example/greenweft/greenweft/map/Coordinates;" (.ref r2)) (he : p = 0) :
    MetFree l (⟨"com/example/greenweft/greenweft/map/GridAlignsWithPinLaw", "coords", "(I)Lcom/example/greenweft/greenweft/map/Coordinates;"⟩ : MethodName) (head1 (Jvm.Cond.code (⟨"com/example/greenweft/greenweft/map/GridAlignsWithPinLaw", "coords", "(I)Lcom/example/greenweft/greenweft/map/Coordinates;"⟩ : MethodName) method_2_code 1 (some (.object "com/example/greenweft/greenweft/map/Coordinates")) :: ws) oR2) (fun aa_ U_ => aa_ = #[(.int p)] ∧ Z.Warmed39 U_.vm ∧ U_.heap = h0) (fun _ _ _ _ _ => True) (fun _ U_ o_ U'_ => ∃ v_ L_, o_ = .returned v_ ∧ Q_crd Z p r0 r1 r2 h0 n0 v_ U'_.heap L_ ∧ FrameEnd U_ o_ U'_ L_ oR2.cells oR2.slots) := by
  refine MetFree.of_bodySF (plainFor_of_name pn_9) hisR ?_
  intro pP eE sS mM argsA below meth cC s₁ Bd hml0 hP hK
  obtain ⟨rfl, hZ, hh⟩ := hP
  have hx := Bd.exec
  have hby := Bd.bytes
  have hml : cC.maxLocals = 1 := hml0
  have hown : sS.vm.findClass "com/example/greenweft/greenweft/map/GridAlignsWithPinLaw" = some mM.cls := findClass_of_methodNamed Bd.named
  have hnm := (name_of_methodNamed Bd.named Bd.method).1
  have X0 : Stand pP l eE oR2 sS mM #[(.int p)] below meth cC s₁ [] 0 0 := Stand.of_body Bd
  have e0 : s₁.heap = h0 := by rw [← hh, Bd.state]; rfl
  have N0 := Fr.nil n0
  have pre0 : ∀ t_, Steps pP.tables eE below (s₁.setTop (mkF mM 0 #[.val (.int p)] [])) t_ → Steps pP.tables eE below (s₁.setTop (entryFrame mM #[(.int p)] 1)) t_ := fun t_ k_ => castTop (ef_crd_0 mM p) k_
  obtain ⟨T_1, X_1, e_1, st_1⟩ := getS2 X0 hx hZ hown (host := "") (Or.inl (ow hw 9 rfl)) Via.refl e0 S_Coordinates_PROJECTED_METRES (g := (mkF mM 4 #[.val (.int p)] [])) rfl (hb hby d_method_2_4)
  obtain ⟨fs, hr, hrun, hended, hW, hsame⟩ := X_1.leave (v := some (.ref r0)) (fun h => by rw [Bd.returns] at h; cases h)
  refine ⟨_, _, pre0 _ ?_, hrun, hended, _, _, rfl, ?_, ⟨_, rfl⟩, hW, hsame.mono (by decide) (by decide)⟩
  · show oS pP eE below s₁ (mkF mM 0 #[.val (.int p)] []) _
    refine XS.iloadN X0.here hx rfl (hb hby d_method_2_0) rfl ?_
    refine XS.ifNo X0.here hx rfl (hb hby d_method_2_1) rfl (XT.i0_ne_f he) ?_
    show oS pP eE below s₁ (mkF mM 4 #[.val (.int p)] []) _
    refine st_1 _ ?_
    show oS pP eE below T_1 (mkF mM 7 #[.val (.int p)] [(.ref r0)]) _
    exact retOut X_1 hx Bd.returns rfl (Or.inr (Or.inr (Or.inr (Or.inr ⟨rfl, rfl, rfl⟩)))) (hb hby d_method_2_7) hr
  · show Q_crd Z p r0 r1 r2 h0 n0 _ T_1.heap _
    rw [e_1]
    exact ⟨(congrArg (fun z => some (Value.ref z)) (by simp [own_co, he] : r0 = (own_co p r0 r1 r2))), N0, rfl⟩
theorem d_method_2_8 : decode method_2_code 8 = .ok (.iload_n 0, 1) := by decide +kernel
theorem d_method_2_9 : decode method_2_code 9 = .ok (.iconst 1, 1) := by decide +kernel
theorem d_method_2_10 : decode method_2_code 10 = .ok (.if_icmp .ne 7, 3) := by decide +kernel
theorem d_method_2_13 : decode method_2_code 13 = .ok (.getstatic 13, 3) := by decide +kernel
theorem d_method_2_16 : decode method_2_code 16 = .ok (.areturn, 1) := by decide +kernel
theorem ef_crd_1 (mM : MethodId) (x0 : Int32) : entryFrame mM #[(.int x0)] 1 = mkF mM 0 #[.val (.int x0)] [] := by first | (simp [entryFrame, mkF, argsToLocals, Value.category]; done) | rfl
set_option maxRecDepth 65536 in
set_option maxHeartbeats 40000000 in
theorem rm_crd_1 (l : Launch) (Z : State) (a0 : Array Value) (hw : ∀ d ∈ tables_1, d.before a0 Z = true) (ws : List Jvm.Cond) (p : Int32) (r0 : Addr) (r1 : Addr) (r2 : Addr) (h0 : Heap) (n0 : Nat) (Z0 : n0 ≤ h0.size) (S_Coordinates_PROJECTED_METRES : Sta Z h0 "com/example/greenweft/greenweft/map/Coordinates" "PROJECTED_METRES" "Lcom/example/greenweft/greenweft/map/Coordinates;" (.ref r0)) (S_Coordinates_GEOGRAPHIC : Sta Z h0 "com/example/greenweft/greenweft/map/Coordinates" "GEOGRAPHIC" "Lcom/example/greenweft/greenweft/map/Coordinates;" (.ref r1)) (S_Coordinates_OTHER : Sta Z h0 "com/example/greenweft/greenweft/map/Coordinates" "OTHER" "Lcom/example/greenweft/greenweft/map/Coordinates;" (.ref r2)) (hn0 : ¬ p = 0) (he : p = 1) :
    MetFree l (⟨"com/example/greenweft/greenweft/map/GridAlignsWithPinLaw", "coords", "(I)Lcom/example/greenweft/greenweft/map/Coordinates;"⟩ : MethodName) (head1 (Jvm.Cond.code (⟨"com/example/greenweft/greenweft/map/GridAlignsWithPinLaw", "coords", "(I)Lcom/example/greenweft/greenweft/map/Coordinates;"⟩ : MethodName) method_2_code 1 (some (.object "com/example/greenweft/greenweft/map/Coordinates")) :: ws) oR2) (fun aa_ U_ => aa_ = #[(.int p)] ∧ Z.Warmed39 U_.vm ∧ U_.heap = h0) (fun _ _ _ _ _ => True) (fun _ U_ o_ U'_ => ∃ v_ L_, o_ = .returned v_ ∧ Q_crd Z p r0 r1 r2 h0 n0 v_ U'_.heap L_ ∧ FrameEnd U_ o_ U'_ L_ oR2.cells oR2.slots) := by
  refine MetFree.of_bodySF (plainFor_of_name pn_9) hisR ?_
  intro pP eE sS mM argsA below meth cC s₁ Bd hml0 hP hK
  obtain ⟨rfl, hZ, hh⟩ := hP
  have hx := Bd.exec
  have hby := Bd.bytes
  have hml : cC.maxLocals = 1 := hml0
  have hown : sS.vm.findClass "com/example/greenweft/greenweft/map/GridAlignsWithPinLaw" = some mM.cls := findClass_of_methodNamed Bd.named
  have hnm := (name_of_methodNamed Bd.named Bd.method).1
  have X0 : Stand pP l eE oR2 sS mM #[(.int p)] below meth cC s₁ [] 0 0 := Stand.of_body Bd
  have e0 : s₁.heap = h0 := by rw [← hh, Bd.state]; rfl
  have N0 := Fr.nil n0
  have pre0 : ∀ t_, Steps pP.tables eE below (s₁.setTop (mkF mM 0 #[.val (.int p)] [])) t_ → Steps pP.tables eE below (s₁.setTop (entryFrame mM #[(.int p)] 1)) t_ := fun t_ k_ => castTop (ef_crd_1 mM p) k_
  obtain ⟨T_1, X_1, e_1, st_1⟩ := getS2 X0 hx hZ hown (host := "") (Or.inl (ow hw 215 rfl)) Via.refl e0 S_Coordinates_GEOGRAPHIC (g := (mkF mM 13 #[.val (.int p)] [])) rfl (hb hby d_method_2_13)
  obtain ⟨fs, hr, hrun, hended, hW, hsame⟩ := X_1.leave (v := some (.ref r1)) (fun h => by rw [Bd.returns] at h; cases h)
  refine ⟨_, _, pre0 _ ?_, hrun, hended, _, _, rfl, ?_, ⟨_, rfl⟩, hW, hsame.mono (by decide) (by decide)⟩
  · show oS pP eE below s₁ (mkF mM 0 #[.val (.int p)] []) _
    refine XS.iloadN X0.here hx rfl (hb hby d_method_2_0) rfl ?_
    refine XS.ifYes X0.here hx rfl (pc0 := 1) (pc' := 8) rfl (hb hby d_method_2_1) rfl (XT.i0_ne_t hn0) (by decide) (by decide) ?_
    refine XS.iloadN X0.here hx rfl (hb hby d_method_2_8) rfl ?_
    refine XS.iconst X0.here hx rfl (hb hby d_method_2_9) ?_
    refine XS.icmpNo X0.here hx rfl (hb hby d_method_2_10) rfl (XT.ii_ne_f he) ?_
    show oS pP eE below s₁ (mkF mM 13 #[.val (.int p)] []) _
    refine st_1 _ ?_
    show oS pP eE below T_1 (mkF mM 16 #[.val (.int p)] [(.ref r1)]) _
    exact retOut X_1 hx Bd.returns rfl (Or.inr (Or.inr (Or.inr (Or.inr ⟨rfl, rfl, rfl⟩)))) (hb hby d_method_2_16) hr
  · show Q_crd Z p r0 r1 r2 h0 n0 _ T_1.heap _
    rw [e_1]
    exact ⟨(congrArg (fun z => some (Value.ref z)) (by simp [own_co, hn0, he] : r1 = (own_co p r0 r1 r2))), N0, rfl⟩
theorem d_method_2_17 : decode method_2_code 17 = .ok (.getstatic 16, 3) := by decide +kernel
theorem d_method_2_20 : decode method_2_code 20 = .ok (.areturn, 1) := by decide +kernel
theorem ef_crd_2 (mM : MethodId) (x0 : Int32) : entryFrame mM #[(.int x0)] 1 = mkF mM 0 #[.val (.int x0)] [] := by first | (simp [entryFrame, mkF, argsToLocals, Value.category]; done) | rfl
set_option maxRecDepth 65536 in
set_option maxHeartbeats 40000000 in
theorem rm_crd_2 (l : Launch) (Z : State) (a0 : Array Value) (hw : ∀ d ∈ tables_1, d.before a0 Z = true) (ws : List Jvm.Cond) (p : Int32) (r0 : Addr) (r1 : Addr) (r2 : Addr) (h0 : Heap) (n0 : Nat) (Z0 : n0 ≤ h0.size) (S_Coordinates_PROJECTED_METRES : Sta Z h0 "com/example/greenweft/greenweft/map/Coordinates" "PROJECTED_METRES" "Lcom/example/greenweft/greenweft/map/Coordinates;" (.ref r0)) (S_Coordinates_GEOGRAPHIC : Sta Z h0 "com/example/greenweft/greenweft/map/Coordinates" "GEOGRAPHIC" "Lcom/example/greenweft/greenweft/map/Coordinates;" (.ref r1)) (S_Coordinates_OTHER : Sta Z h0 "com/example/greenweft/greenweft/map/Coordinates" "OTHER" "Lcom/example/greenweft/greenweft/map/Coordinates;" (.ref r2)) (hn0 : ¬ p = 0) (hn1 : ¬ p = 1) :
    MetFree l (⟨"com/example/greenweft/greenweft/map/GridAlignsWithPinLaw", "coords", "(I)Lcom/example/greenweft/greenweft/map/Coordinates;"⟩ : MethodName) (head1 (Jvm.Cond.code (⟨"com/example/greenweft/greenweft/map/GridAlignsWithPinLaw", "coords", "(I)Lcom/example/greenweft/greenweft/map/Coordinates;"⟩ : MethodName) method_2_code 1 (some (.object "com/example/greenweft/greenweft/map/Coordinates")) :: ws) oR2) (fun aa_ U_ => aa_ = #[(.int p)] ∧ Z.Warmed39 U_.vm ∧ U_.heap = h0) (fun _ _ _ _ _ => True) (fun _ U_ o_ U'_ => ∃ v_ L_, o_ = .returned v_ ∧ Q_crd Z p r0 r1 r2 h0 n0 v_ U'_.heap L_ ∧ FrameEnd U_ o_ U'_ L_ oR2.cells oR2.slots) := by
  refine MetFree.of_bodySF (plainFor_of_name pn_9) hisR ?_
  intro pP eE sS mM argsA below meth cC s₁ Bd hml0 hP hK
  obtain ⟨rfl, hZ, hh⟩ := hP
  have hx := Bd.exec
  have hby := Bd.bytes
  have hml : cC.maxLocals = 1 := hml0
  have hown : sS.vm.findClass "com/example/greenweft/greenweft/map/GridAlignsWithPinLaw" = some mM.cls := findClass_of_methodNamed Bd.named
  have hnm := (name_of_methodNamed Bd.named Bd.method).1
  have X0 : Stand pP l eE oR2 sS mM #[(.int p)] below meth cC s₁ [] 0 0 := Stand.of_body Bd
  have e0 : s₁.heap = h0 := by rw [← hh, Bd.state]; rfl
  have N0 := Fr.nil n0
  have pre0 : ∀ t_, Steps pP.tables eE below (s₁.setTop (mkF mM 0 #[.val (.int p)] [])) t_ → Steps pP.tables eE below (s₁.setTop (entryFrame mM #[(.int p)] 1)) t_ := fun t_ k_ => castTop (ef_crd_2 mM p) k_
  obtain ⟨T_1, X_1, e_1, st_1⟩ := getS2 X0 hx hZ hown (host := "") (Or.inl (ow hw 213 rfl)) Via.refl e0 S_Coordinates_OTHER (g := (mkF mM 17 #[.val (.int p)] [])) rfl (hb hby d_method_2_17)
  obtain ⟨fs, hr, hrun, hended, hW, hsame⟩ := X_1.leave (v := some (.ref r2)) (fun h => by rw [Bd.returns] at h; cases h)
  refine ⟨_, _, pre0 _ ?_, hrun, hended, _, _, rfl, ?_, ⟨_, rfl⟩, hW, hsame.mono (by decide) (by decide)⟩
  · show oS pP eE below s₁ (mkF mM 0 #[.val (.int p)] []) _
    refine XS.iloadN X0.here hx rfl (hb hby d_method_2_0) rfl ?_
    refine XS.ifYes X0.here hx rfl (pc0 := 1) (pc' := 8) rfl (hb hby d_method_2_1) rfl (XT.i0_ne_t hn0) (by decide) (by decide) ?_
    refine XS.iloadN X0.here hx rfl (hb hby d_method_2_8) rfl ?_
    refine XS.iconst X0.here hx rfl (hb hby d_method_2_9) ?_
    refine XS.icmpYes X0.here hx rfl (pc0 := 10) (pc' := 17) rfl (hb hby d_method_2_10) rfl (XT.ii_ne_t hn1) (by decide) (by decide) ?_
    show oS pP eE below s₁ (mkF mM 17 #[.val (.int p)] []) _
    refine st_1 _ ?_
    show oS pP eE below T_1 (mkF mM 20 #[.val (.int p)] [(.ref r2)]) _
    exact retOut X_1 hx Bd.returns rfl (Or.inr (Or.inr (Or.inr (Or.inr ⟨rfl, rfl, rfl⟩)))) (hb hby d_method_2_20) hr
  · show Q_crd Z p r0 r1 r2 h0 n0 _ T_1.heap _
    rw [e_1]
    exact ⟨(congrArg (fun z => some (Value.ref z)) (by simp [own_co, hn0, hn1] : r2 = (own_co p r0 r1 r2))), N0, rfl⟩
set_option maxRecDepth 65536 in
set_option maxHeartbeats 40000000 in
theorem rm_crd (l : Launch) (Z : State) (a0 : Array Value) (hw : ∀ d ∈ tables_1, d.before a0 Z = true) (ws : List Jvm.Cond) (p : Int32) (r0 : Addr) (r1 : Addr) (r2 : Addr) (h0 : Heap) (n0 : Nat) (Z0 : n0 ≤ h0.size) (S_Coordinates_PROJECTED_METRES : Sta Z h0 "com/example/greenweft/greenweft/map/Coordinates" "PROJECTED_METRES" "Lcom/example/greenweft/greenweft/map/Coordinates;" (.ref r0)) (S_Coordinates_GEOGRAPHIC : Sta Z h0 "com/example/greenweft/greenweft/map/Coordinates" "GEOGRAPHIC" "Lcom/example/greenweft/greenweft/map/Coordinates;" (.ref r1)) (S_Coordinates_OTHER : Sta Z h0 "com/example/greenweft/greenweft/map/Coordinates" "OTHER" "Lcom/example/greenweft/greenweft/map/Coordinates;" (.ref r2)) :
    MetFree l (⟨"com/example/greenweft/greenweft/map/GridAlignsWithPinLaw", "coords", "(I)Lcom/example/greenweft/greenweft/map/Coordinates;"⟩ : MethodName) (head1 (Jvm.Cond.code (⟨"com/example/greenweft/greenweft/map/GridAlignsWithPinLaw", "coords", "(I)Lcom/example/greenweft/greenweft/map/Coordinates;"⟩ : MethodName) method_2_code 1 (some (.object "com/example/greenweft/greenweft/map/Coordinates")) :: ws) oR2) (fun aa_ U_ => aa_ = #[(.int p)] ∧ Z.Warmed39 U_.vm ∧ U_.heap = h0) (fun _ _ _ _ _ => True) (fun _ U_ o_ U'_ => ∃ v_ L_, o_ = .returned v_ ∧ Q_crd Z p r0 r1 r2 h0 n0 v_ U'_.heap L_ ∧ FrameEnd U_ o_ U'_ L_ oR2.cells oR2.slots) := by
  by_cases he : p = 0
  · exact rm_crd_0 l Z a0 hw ws p r0 r1 r2 h0 n0 Z0 S_Coordinates_PROJECTED_METRES S_Coordinates_GEOGRAPHIC S_Coordinates_OTHER  he
  · have hn0 := he
    by_cases he : p = 1
    · exact rm_crd_1 l Z a0 hw ws p r0 r1 r2 h0 n0 Z0 S_Coordinates_PROJECTED_METRES S_Coordinates_GEOGRAPHIC S_Coordinates_OTHER hn0 he
    · have hn1 := he
      exact rm_crd_2 l Z a0 hw ws p r0 r1 r2 h0 n0 Z0 S_Coordinates_PROJECTED_METRES S_Coordinates_GEOGRAPHIC S_Coordinates_OTHER hn0 hn1
abbrev lc26 (p1 : Int32) (p2 : Int32) (p3 : Int32) (p4 : Int32) (p5 : Int32) (p6 : Int32) : Array Slot := #[.val (.int p1), .val (.int p2), .val (.int p3), .val (.int p4), .val (.int p5), .val (.int p6), .unset, .unset, .unset, .unset, .unset, .unset, .unset, .unset, .unset, .unset, .unset, .unset, .unset, .unset, .unset, .unset, .unset, .unset, .unset, .unset, .unset, .unset, .unset, .unset, .unset, .unset, .unset, .unset]
abbrev lc27 (p1 : Int32) (p2 : Int32) (p3 : Int32) (p4 : Int32) (p5 : Int32) (p6 : Int32) (wd : Int32) : Array Slot := #[.val (.int p1), .val (.int p2), .val (.int p3), .val (.int p4), .val (.int p5), .val (.int p6), .val (.int wd), .unset, .unset, .unset, .unset, .unset, .unset, .unset, .unset, .unset, .unset, .unset, .unset, .unset, .unset, .unset, .unset, .unset, .unset, .unset, .unset, .unset, .unset, .unset, .unset, .unset, .unset, .unset]
abbrev lc28 (p1 : Int32) (p2 : Int32) (p3 : Int32) (p4 : Int32) (p5 : Int32) (p6 : Int32) (wd : Int32) (hg : Int32) : Array Slot := #[.val (.int p1), .val (.int p2), .val (.int p3), .val (.int p4), .val (.int p5), .val (.int p6), .val (.int wd), .val (.int hg), .unset, .unset, .unset, .unset, .unset, .unset, .unset, .unset, .unset, .unset, .unset, .unset, .unset, .unset, .unset, .unset, .unset, .unset, .unset, .unset, .unset, .unset, .unset, .unset, .unset, .unset]
abbrev lc29 (p1 : Int32) (p2 : Int32) (p3 : Int32) (p4 : Int32) (p5 : Int32) (p6 : Int32) (wd : Int32) (hg : Int32) (ox : UInt64) : Array Slot := #[.val (.int p1), .val (.int p2), .val (.int p3), .val (.int p4), .val (.int p5), .val (.int p6), .val (.int wd), .val (.int hg), .val (.double ox), .second, .unset, .unset, .unset, .unset, .unset, .unset, .unset, .unset, .unset, .unset, .unset, .unset, .unset, .unset, .unset, .unset, .unset, .unset, .unset, .unset, .unset, .unset, .unset, .unset]
abbrev lc30 (p1 : Int32) (p2 : Int32) (p3 : Int32) (p4 : Int32) (p5 : Int32) (p6 : Int32) (wd : Int32) (hg : Int32) (ox : UInt64) (oy : UInt64) : Array Slot := #[.val (.int p1), .val (.int p2), .val (.int p3), .val (.int p4), .val (.int p5), .val (.int p6), .val (.int wd), .val (.int hg), .val (.double ox), .second, .val (.double oy), .second, .unset, .unset, .unset, .unset, .unset, .unset, .unset, .unset, .unset, .unset, .unset, .unset, .unset, .unset, .unset, .unset, .unset, .unset, .unset, .unset, .unset, .unset]
abbrev lc31 (p1 : Int32) (p2 : Int32) (p3 : Int32) (p4 : Int32) (p5 : Int32) (p6 : Int32) (wd : Int32) (hg : Int32) (ox : UInt64) (oy : UInt64) (cw : UInt64) : Array Slot := #[.val (.int p1), .val (.int p2), .val (.int p3), .val (.int p4), .val (.int p5), .val (.int p6), .val (.int wd), .val (.int hg), .val (.double ox), .second, .val (.double oy), .second, .val (.double cw), .second, .unset, .unset, .unset, .unset, .unset, .unset, .unset, .unset, .unset, .unset, .unset, .unset, .unset, .unset, .unset, .unset, .unset, .unset, .unset, .unset]
abbrev lc32 (p1 : Int32) (p2 : Int32) (p3 : Int32) (p4 : Int32) (p5 : Int32) (p6 : Int32) (wd : Int32) (hg : Int32) (ox : UInt64) (oy : UInt64) (cw : UInt64) (ch : UInt64) : Array Slot := #[.val (.int p1), .val (.int p2), .val (.int p3), .val (.int p4), .val (.int p5), .val (.int p6), .val (.int wd), .val (.int hg), .val (.double ox), .second, .val (.double oy), .second, .val (.double cw), .second, .val (.double ch), .second, .unset, .unset, .unset, .unset, .unset, .unset, .unset, .unset, .unset, .unset, .unset, .unset, .unset, .unset, .unset, .unset, .unset, .unset]
abbrev lc33 (p1 : Int32) (p2 : Int32) (p3 : Int32) (p4 : Int32) (p5 : Int32) (p6 : Int32) (wd : Int32) (hg : Int32) (ox : UInt64) (oy : UInt64) (cw : UInt64) (ch : UInt64) (kd : Int32) : Array Slot := #[.val (.int p1), .val (.int p2), .val (.int p3), .val (.int p4), .val (.int p5), .val (.int p6), .val (.int wd), .val (.int hg), .val (.double ox), .second, .val (.double oy), .second, .val (.double cw), .second, .val (.double ch), .second, .val (.int kd), .unset, .unset, .unset, .unset, .unset, .unset, .unset, .unset, .unset, .unset, .unset, .unset, .unset, .unset, .unset, .unset, .unset]
abbrev lc34 (p1 : Int32) (p2 : Int32) (p3 : Int32) (p4 : Int32) (p5 : Int32) (p6 : Int32) (wd : Int32) (hg : Int32) (ox : UInt64) (oy : UInt64) (cw : UInt64) (ch : UInt64) (kd : Int32) (ca : Int32) : Array Slot := #[.val (.int p1), .val (.int p2), .val (.int p3), .val (.int p4), .val (.int p5), .val (.int p6), .val (.int wd), .val (.int hg), .val (.double ox), .second, .val (.double oy), .second, .val (.double cw), .second, .val (.double ch), .second, .val (.int kd), .val (.int ca), .unset, .unset, .unset, .unset, .unset, .unset, .unset, .unset, .unset, .unset, .unset, .unset, .unset, .unset, .unset, .unset]
abbrev lc35 (p1 : Int32) (p2 : Int32) (p3 : Int32) (p4 : Int32) (p5 : Int32) (p6 : Int32) (wd : Int32) (hg : Int32) (ox : UInt64) (oy : UInt64) (cw : UInt64) (ch : UInt64) (kd : Int32) (ca : Int32) (cb : Int32) : Array Slot := #[.val (.int p1), .val (.int p2), .val (.int p3), .val (.int p4), .val (.int p5), .val (.int p6), .val (.int wd), .val (.int hg), .val (.double ox), .second, .val (.double oy), .second, .val (.double cw), .second, .val (.double ch), .second, .val (.int kd), .val (.int ca), .val (.int cb), .unset, .unset, .unset, .unset, .unset, .unset, .unset, .unset, .unset, .unset, .unset, .unset, .unset, .unset, .unset]
abbrev lc36 (p1 : Int32) (p2 : Int32) (p3 : Int32) (p4 : Int32) (p5 : Int32) (p6 : Int32) (wd : Int32) (hg : Int32) (ox : UInt64) (oy : UInt64) (cw : UInt64) (ch : UInt64) (kd : Int32) (ca : Int32) (cb : Int32) (stp : UInt64) : Array Slot := #[.val (.int p1), .val (.int p2), .val (.int p3), .val (.int p4), .val (.int p5), .val (.int p6), .val (.int wd), .val (.int hg), .val (.double ox), .second, .val (.double oy), .second, .val (.double cw), .second, .val (.double ch), .second, .val (.int kd), .val (.int ca), .val (.int cb), .val (.double stp), .second, .unset, .unset, .unset, .unset, .unset, .unset, .unset, .unset, .unset, .unset, .unset, .unset, .unset]
abbrev lc37 (p1 : Int32) (p2 : Int32) (p3 : Int32) (p4 : Int32) (p5 : Int32) (p6 : Int32) (wd : Int32) (hg : Int32) (ox : UInt64) (oy : UInt64) (cw : UInt64) (ch : UInt64) (kd : Int32) (ca : Int32) (cb : Int32) (stp : UInt64) (w9 : Int32) : Array Slot := #[.val (.int p1), .val (.int p2), .val (.int p3), .val (.int p4), .val (.int p5), .val (.int p6), .val (.int wd), .val (.int hg), .val (.double ox), .second, .val (.double oy), .second, .val (.double cw), .second, .val (.double ch), .second, .val (.int kd), .val (.int ca), .val (.int cb), .val (.double stp), .second, .val (.int w9), .unset, .unset, .unset, .unset, .unset, .unset, .unset, .unset, .unset, .unset, .unset, .unset]
abbrev lc38 (p1 : Int32) (p2 : Int32) (p3 : Int32) (p4 : Int32) (p5 : Int32) (p6 : Int32) (wd : Int32) (hg : Int32) (ox : UInt64) (oy : UInt64) (cw : UInt64) (ch : UInt64) (kd : Int32) (ca : Int32) (cb : Int32) (stp : UInt64) (w9 : Int32) (v9 : Int32) : Array Slot := #[.val (.int p1), .val (.int p2), .val (.int p3), .val (.int p4), .val (.int p5), .val (.int p6), .val (.int wd), .val (.int hg), .val (.double ox), .second, .val (.double oy), .second, .val (.double cw), .second, .val (.double ch), .second, .val (.int kd), .val (.int ca), .val (.int cb), .val (.double stp), .second, .val (.int w9), .val (.int v9), .unset, .unset, .unset, .unset, .unset, .unset, .unset, .unset, .unset, .unset, .unset]
abbrev lc39 (p1 : Int32) (p2 : Int32) (p3 : Int32) (p4 : Int32) (p5 : Int32) (p6 : Int32) (wd : Int32) (hg : Int32) (ox : UInt64) (oy : UInt64) (cw : UInt64) (ch : UInt64) (kd : Int32) (ca : Int32) (cb : Int32) (stp : UInt64) (w9 : Int32) (v9 : Int32) (x9 : UInt64) : Array Slot := #[.val (.int p1), .val (.int p2), .val (.int p3), .val (.int p4), .val (.int p5), .val (.int p6), .val (.int wd), .val (.int hg), .val (.double ox), .second, .val (.double oy), .second, .val (.double cw), .second, .val (.double ch), .second, .val (.int kd), .val (.int ca), .val (.int cb), .val (.double stp), .second, .val (.int w9), .val (.int v9), .val (.double x9), .second, .unset, .unset, .unset, .unset, .unset, .unset, .unset, .unset, .unset]
abbrev lc40 (p1 : Int32) (p2 : Int32) (p3 : Int32) (p4 : Int32) (p5 : Int32) (p6 : Int32) (wd : Int32) (hg : Int32) (ox : UInt64) (oy : UInt64) (cw : UInt64) (ch : UInt64) (kd : Int32) (ca : Int32) (cb : Int32) (stp : UInt64) (w9 : Int32) (v9 : Int32) (x9 : UInt64) (y9 : UInt64) : Array Slot := #[.val (.int p1), .val (.int p2), .val (.int p3), .val (.int p4), .val (.int p5), .val (.int p6), .val (.int wd), .val (.int hg), .val (.double ox), .second, .val (.double oy), .second, .val (.double cw), .second, .val (.double ch), .second, .val (.int kd), .val (.int ca), .val (.int cb), .val (.double stp), .second, .val (.int w9), .val (.int v9), .val (.double x9), .second, .val (.double y9), .second, .unset, .unset, .unset, .unset, .unset, .unset, .unset]
abbrev lc41 (p1 : Int32) (p2 : Int32) (p3 : Int32) (p4 : Int32) (p5 : Int32) (p6 : Int32) (wd : Int32) (hg : Int32) (ox : UInt64) (oy : UInt64) (cw : UInt64) (ch : UInt64) (kd : Int32) (ca : Int32) (cb : Int32) (stp : UInt64) (w9 : Int32) (v9 : Int32) (x9 : UInt64) (y9 : UInt64) (c9 : UInt64) : Array Slot := #[.val (.int p1), .val (.int p2), .val (.int p3), .val (.int p4), .val (.int p5), .val (.int p6), .val (.int wd), .val (.int hg), .val (.double ox), .second, .val (.double oy), .second, .val (.double cw), .second, .val (.double ch), .second, .val (.int kd), .val (.int ca), .val (.int cb), .val (.double stp), .second, .val (.int w9), .val (.int v9), .val (.double x9), .second, .val (.double y9), .second, .val (.double c9), .second, .unset, .unset, .unset, .unset, .unset]
abbrev lc42 (p1 : Int32) (p2 : Int32) (p3 : Int32) (p4 : Int32) (p5 : Int32) (p6 : Int32) (wd : Int32) (hg : Int32) (ox : UInt64) (oy : UInt64) (cw : UInt64) (ch : UInt64) (kd : Int32) (ca : Int32) (cb : Int32) (stp : UInt64) (w9 : Int32) (v9 : Int32) (x9 : UInt64) (y9 : UInt64) (c9 : UInt64) (d9 : UInt64) : Array Slot := #[.val (.int p1), .val (.int p2), .val (.int p3), .val (.int p4), .val (.int p5), .val (.int p6), .val (.int wd), .val (.int hg), .val (.double ox), .second, .val (.double oy), .second, .val (.double cw), .second, .val (.double ch), .second, .val (.int kd), .val (.int ca), .val (.int cb), .val (.double stp), .second, .val (.int w9), .val (.int v9), .val (.double x9), .second, .val (.double y9), .second, .val (.double c9), .second, .val (.double d9), .second, .unset, .unset, .unset]
theorem pd_25 : parseMethodDescriptor "(I)Lcom/example/greenweft/greenweft/map/Coordinates;" = some ⟨[.int], some (.object "com/example/greenweft/greenweft/map/Coordinates")⟩ := by decide +kernel
abbrev MN32 : MethodName := ⟨"com/example/greenweft/greenweft/map/GridAlignsWithPinLaw", "coords", "(I)Lcom/example/greenweft/greenweft/map/Coordinates;"⟩
theorem pd_26 : parseMethodDescriptor "(IIDDDDLcom/example/greenweft/greenweft/map/Coordinates;)V" = some ⟨[.int, .int, .double, .double, .double, .double, (.object "com/example/greenweft/greenweft/map/Coordinates")], none⟩ := by decide +kernel
abbrev MN33 : MethodName := ⟨"com/example/greenweft/greenweft/map/Grid", "<init>", "(IIDDDDLcom/example/greenweft/greenweft/map/Coordinates;)V"⟩
abbrev lc43 (p1 : Int32) (p2 : Int32) (p3 : Int32) (p4 : Int32) (p5 : Int32) (p6 : Int32) (wd : Int32) (hg : Int32) (ox : UInt64) (oy : UInt64) (cw : UInt64) (ch : UInt64) (kd : Int32) (ca : Int32) (cb : Int32) (stp : UInt64) (w9 : Int32) (v9 : Int32) (x9 : UInt64) (y9 : UInt64) (c9 : UInt64) (d9 : UInt64) (b_8 : Addr) : Array Slot := #[.val (.int p1), .val (.int p2), .val (.int p3), .val (.int p4), .val (.int p5), .val (.int p6), .val (.int wd), .val (.int hg), .val (.double ox), .second, .val (.double oy), .second, .val (.double cw), .second, .val (.double ch), .second, .val (.int kd), .val (.int ca), .val (.int cb), .val (.double stp), .second, .val (.int w9), .val (.int v9), .val (.double x9), .second, .val (.double y9), .second, .val (.double c9), .second, .val (.double d9), .second, .val (.ref b_8), .unset, .unset]
abbrev lc44 (p1 : Int32) (p2 : Int32) (p3 : Int32) (p4 : Int32) (p5 : Int32) (p6 : Int32) (wd : Int32) (hg : Int32) (ox : UInt64) (oy : UInt64) (cw : UInt64) (ch : UInt64) (kd : Int32) (ca : Int32) (cb : Int32) (stp : UInt64) (w9 : Int32) (v9 : Int32) (x9 : UInt64) (y9 : UInt64) (c9 : UInt64) (d9 : UInt64) (b_8 : Addr) (b_11 : Addr) : Array Slot := #[.val (.int p1), .val (.int p2), .val (.int p3), .val (.int p4), .val (.int p5), .val (.int p6), .val (.int wd), .val (.int hg), .val (.double ox), .second, .val (.double oy), .second, .val (.double cw), .second, .val (.double ch), .second, .val (.int kd), .val (.int ca), .val (.int cb), .val (.double stp), .second, .val (.int w9), .val (.int v9), .val (.double x9), .second, .val (.double y9), .second, .val (.double c9), .second, .val (.double d9), .second, .val (.ref b_8), .val (.ref b_11), .unset]
abbrev lc45 (p1 : Int32) (p2 : Int32) (p3 : Int32) (p4 : Int32) (p5 : Int32) (p6 : Int32) (wd : Int32) (hg : Int32) (ox : UInt64) (oy : UInt64) (cw : UInt64) (ch : UInt64) (kd : Int32) (ca : Int32) (cb : Int32) (stp : UInt64) (w9 : Int32) (v9 : Int32) (x9 : UInt64) (y9 : UInt64) (c9 : UInt64) (d9 : UInt64) (b_8 : Addr) (b_11 : Addr) (ex9 : Int32) : Array Slot := #[.val (.int p1), .val (.int p2), .val (.int p3), .val (.int p4), .val (.int p5), .val (.int p6), .val (.int wd), .val (.int hg), .val (.double ox), .second, .val (.double oy), .second, .val (.double cw), .second, .val (.double ch), .second, .val (.int kd), .val (.int ca), .val (.int cb), .val (.double stp), .second, .val (.int w9), .val (.int v9), .val (.double x9), .second, .val (.double y9), .second, .val (.double c9), .second, .val (.double d9), .second, .val (.ref b_8), .val (.ref b_11), .val (.int ex9)]
theorem pd_27 : parseMethodDescriptor "(Lcom/example/greenweft/greenweft/map/Grid;)Z" = some ⟨[(.object "com/example/greenweft/greenweft/map/Grid")], some .boolean⟩ := by decide +kernel
abbrev MN34 : MethodName := ⟨"com/example/greenweft/greenweft/map/Grid", "alignsWith", "(Lcom/example/greenweft/greenweft/map/Grid;)Z"⟩
theorem ef_law (mM : MethodId) (x0 : Int32) (x1 : Int32) (x2 : Int32) (x3 : Int32) (x4 : Int32) (x5 : Int32) : entryFrame mM #[(.int x0), (.int x1), (.int x2), (.int x3), (.int x4), (.int x5)] maxLocals = mkF mM 0 #[.val (.int x0), .val (.int x1), .val (.int x2), .val (.int x3), .val (.int x4), .val (.int x5), .unset, .unset, .unset, .unset, .unset, .unset, .unset, .unset, .unset, .unset, .unset, .unset, .unset, .unset, .unset, .unset, .unset, .unset, .unset, .unset, .unset, .unset, .unset, .unset, .unset, .unset, .unset, .unset] [] := by first | (simp [entryFrame, mkF, argsToLocals, Value.category, maxLocals]; done) | rfl
def Q_law (Z : State) (p1 : Int32) (p2 : Int32) (p3 : Int32) (p4 : Int32) (p5 : Int32) (p6 : Int32) (wd : Int32) (hg : Int32) (ox : UInt64) (oy : UInt64) (cw : UInt64) (ch : UInt64) (kd : Int32) (ca : Int32) (cb : Int32) (stp : UInt64) (w9 : Int32) (v9 : Int32) (x9 : UInt64) (y9 : UInt64) (c9 : UInt64) (d9 : UInt64) (ex9 : Int32) (k2a : Int32) (k3a : Int32) (k4a : Int32) (k5a : Int32) (k2b : Int32) (k3b : Int32) (k4b : Int32) (k5b : Int32) (r0 : Addr) (r1 : Addr) (r2 : Addr) (o1 : Addr) (o2 : Addr) (cs : Int32) (h0 : Heap) (n0 : Nat) (v_ : Option Value) (h_ : Heap) (L_ : List Loc) : Prop := v_ = some (.int (1 : Int32)) ∧ Fr n0 L_
set_option maxRecDepth 65536 in
set_option maxHeartbeats 40000000 in
theorem rm_law (l : Launch) (Z : State) (a0 : Array Value) (hw : ∀ d ∈ tables_1, d.before a0 Z = true) (ws : List Jvm.Cond) (p1 : Int32) (p2 : Int32) (p3 : Int32) (p4 : Int32) (p5 : Int32) (p6 : Int32) (wd : Int32) (hg : Int32) (ox : UInt64) (oy : UInt64) (cw : UInt64) (ch : UInt64) (kd : Int32) (ca : Int32) (cb : Int32) (stp : UInt64) (w9 : Int32) (v9 : Int32) (x9 : UInt64) (y9 : UInt64) (c9 : UInt64) (d9 : UInt64) (ex9 : Int32) (k2a : Int32) (k3a : Int32) (k4a : Int32) (k5a : Int32) (k2b : Int32) (k3b : Int32) (k4b : Int32) (k5b : Int32) (r0 : Addr) (r1 : Addr) (r2 : Addr) (o1 : Addr) (o2 : Addr) (cs : Int32) (h0 : Heap) (n0 : Nat) (Z0 : n0 ≤ h0.size) (h_wd : ((p1 &&& (32767 : Int32)) + (1 : Int32)) = wd) (h_hg : ((p2 &&& (4095 : Int32)) + (1 : Int32)) = hg) (h_ox : (FP.i2d p3) = ox) (h_oy : (FP.i2d p4) = oy) (h_cw : (FP.i2d ((p5 &&& (65535 : Int32)) + (1 : Int32))) = cw) (h_ch : (FP.i2d (((XT.ushr p5 (16 : Int32)) &&& (65535 : Int32)) + (1 : Int32))) = ch) (h_kd : ((p6 &&& (255 : Int32)) % (7 : Int32)) = kd) (h_ca : (((XT.ushr p6 (8 : Int32)) &&& (255 : Int32)) % (3 : Int32)) = ca) (h_cb : (((XT.ushr p6 (16 : Int32)) &&& (255 : Int32)) % (3 : Int32)) = cb) (h_stp : stp = (if ((XT.ushr p6 (24 : Int32)) &&& (1 : Int32)) = 0 then (4602678819172646912 : UInt64) else (13826050856027422720 : UInt64))) (h_w9 : w9 = (if kd = (1 : Int32) then (wd + (1 : Int32)) else wd)) (h_v9 : v9 = (if kd = (2 : Int32) then (hg + (1 : Int32)) else hg)) (h_x9 : x9 = (if kd = (3 : Int32) then (FP.dadd ox stp) else ox)) (h_y9 : y9 = (if kd = (4 : Int32) then (FP.dadd oy stp) else oy)) (h_c9 : c9 = (if kd = (5 : Int32) then (FP.dadd cw (4607182418800017408 : UInt64)) else cw)) (h_d9 : d9 = (if kd = (6 : Int32) then (FP.dadd ch (4607182418800017408 : UInt64)) else ch)) (h_ex9 : ex9 = (if kd = 0 then (1 : Int32) else (0 : Int32))) (S_String_COMPACT_STRINGS : Sta Z h0 "java/lang/String" "COMPACT_STRINGS" "Z" (.int cs)) (hcs : ¬ cs = 0) (S_Coordinates_PROJECTED_METRES : Sta Z h0 "com/example/greenweft/greenweft/map/Coordinates" "PROJECTED_METRES" "Lcom/example/greenweft/greenweft/map/Coordinates;" (.ref r0)) (S_Coordinates_GEOGRAPHIC : Sta Z h0 "com/example/greenweft/greenweft/map/Coordinates" "GEOGRAPHIC" "Lcom/example/greenweft/greenweft/map/Coordinates;" (.ref r1)) (S_Coordinates_OTHER : Sta Z h0 "com/example/greenweft/greenweft/map/Coordinates" "OTHER" "Lcom/example/greenweft/greenweft/map/Coordinates;" (.ref r2)) (S_Integer_DigitOnes : Sta Z h0 "java/lang/Integer" "DigitOnes" "[B" (.ref o1)) (S_Integer_DigitTens : Sta Z h0 "java/lang/Integer" "DigitTens" "[B" (.ref o2)) (B_o1 : own_B Z h0 o1 (100 : Int32)) (B_o2 : own_B Z h0 o2 (100 : Int32)) (hG1 : own_gok wd hg ox oy cw ch) (hG2 : own_gok w9 v9 x9 y9 c9 d9) (hk2a : ((10 : Int32) + (own_sz wd)) = k2a) (hk3a : (k2a + (3 : Int32)) = k3a) (hk4a : (k3a + (own_sz hg)) = k4a) (hk5a : (k4a + (6 : Int32)) = k5a) (hk2b : ((10 : Int32) + (own_sz w9)) = k2b) (hk3b : (k2b + (3 : Int32)) = k3b) (hk4b : (k3b + (own_sz v9)) = k4b) (hk5b : (k4b + (6 : Int32)) = k5b) (nn3 : Jvm.Free.Fl.NoNaN64 (FP.dadd ox stp)) (nn4 : Jvm.Free.Fl.NoNaN64 (FP.dadd oy stp)) (nn5 : Jvm.Free.Fl.NoNaN64 (FP.dadd cw (4607182418800017408 : UInt64))) (nn6 : Jvm.Free.Fl.NoNaN64 (FP.dadd ch (4607182418800017408 : UInt64))) (hA : (own_al wd hg ox oy cw ch w9 v9 x9 y9 c9 d9) = ex9) (hB : (own_al w9 v9 x9 y9 c9 d9 wd hg ox oy cw ch) = ex9) (hC : ¬ (own_al wd hg ox oy cw ch wd hg ox oy cw ch) = 0) :
    MetFree l x (head1 (Jvm.Cond.code x code maxLocals ret :: ws) room_1) (fun aa_ U_ => aa_ = #[(.int p1), (.int p2), (.int p3), (.int p4), (.int p5), (.int p6)] ∧ Z.Warmed39 U_.vm ∧ U_.heap = h0 ∧ CHv Z own_EL U_.vm h0) (fun _ _ _ _ _ => True) (fun _ U_ o_ U'_ => ∃ v_ L_, o_ = .returned v_ ∧ Q_law Z p1 p2 p3 p4 p5 p6 wd hg ox oy cw ch kd ca cb stp w9 v9 x9 y9 c9 d9 ex9 k2a k3a k4a k5a k2b k3b k4b k5b r0 r1 r2 o1 o2 cs h0 n0 v_ U'_.heap L_ ∧ ReturnedEndW U_ o_ U'_ L_ 24 374) := by
  refine MetFree.of_bodySF (plainFor_of_name pn_9) hisR ?_
  intro pP eE sS mM argsA below meth cC s₁ Bd hml0 hP hK
  obtain ⟨rfl, hZ, hh, hCH⟩ := hP
  have hx := Bd.exec
  have hby := Bd.bytes
  have hml : cC.maxLocals = 34 := hml0
  have hown : sS.vm.findClass "com/example/greenweft/greenweft/map/GridAlignsWithPinLaw" = some mM.cls := findClass_of_methodNamed Bd.named
  have hnm := (name_of_methodNamed Bd.named Bd.method).1
  have X0 : Stand pP l eE room_1 (sS.setVm sS.vm) mM #[(.int p1), (.int p2), (.int p3), (.int p4), (.int p5), (.int p6)] below meth cC s₁ [] 0 0 := Stand.of_body Bd
  have e0 : s₁.heap = h0 := by rw [← hh, Bd.state]; rfl
  have N0 := Fr.nil n0
  have pre0 : ∀ t_, Steps pP.tables eE below (s₁.setTop (mkF mM 0 #[.val (.int p1), .val (.int p2), .val (.int p3), .val (.int p4), .val (.int p5), .val (.int p6), .unset, .unset, .unset, .unset, .unset, .unset, .unset, .unset, .unset, .unset, .unset, .unset, .unset, .unset, .unset, .unset, .unset, .unset, .unset, .unset, .unset, .unset, .unset, .unset, .unset, .unset, .unset, .unset] [])) t_ → Steps pP.tables eE below (s₁.setTop (entryFrame mM #[(.int p1), (.int p2), (.int p3), (.int p4), (.int p5), (.int p6)] maxLocals)) t_ := fun t_ k_ => castTop (ef_law mM p1 p2 p3 p4 p5 p6) k_
  have hZ : Z.Warmed39 (sS.setVm sS.vm).vm := hZ
  have hown : (sS.setVm sS.vm).vm.findClass "com/example/greenweft/greenweft/map/GridAlignsWithPinLaw" = some mM.cls := hown
  have hS0 : sS.Since sS.vm 0 := (State.WarmedH.refl sS).since 0
  have hk0 : 0 ≤ h0.size := Nat.zero_le _
  have CR0 := CHr.refl hCH
  obtain ⟨hiw1, hih1, hw11, hh11, hmx1, nnox1, fiox1, nnoy1, fioy1, nncw1, ficw1, nnch1, fich1, pscw1, psch1, hh41⟩ := hG1
  obtain ⟨hiw2, hih2, hw12, hh12, hmx2, nnox2, fiox2, nnoy2, fioy2, nncw2, ficw2, nnch2, fich2, pscw2, psch2, hh42⟩ := hG2
  obtain ⟨T_8, h_8, X_8, e_8, E_8, A_8, D_8, -, st_8⟩ := newO X0 hx hZ hown (ow hw 2 rfl) (ow hw 3 rfl) (ow hw 4 rfl) e0 (g := (mkF mM 212 (lc42 p1 p2 p3 p4 p5 p6 wd hg ox oy cw ch kd ca cb stp w9 v9 x9 y9 c9 d9) [])) rfl (hb hby at_212) (by decide) (by decide)
  obtain ⟨b_8, g_8⟩ : ∃ z, z = h0.size := ⟨_, rfl⟩
  rw [← g_8] at A_8 D_8 st_8
  have g_b_8 : n0 ≤ b_8 := Nat.le_trans Z0 (Nat.le_of_eq g_8.symm)
  have sz_b_8 : h0.size ≤ b_8 := Nat.le_trans (Keep.refl h0 []).1 (Nat.le_of_eq g_8.symm)
  have Z_8 : n0 ≤ h_8.size := (Nat.le_trans Z0 E_8.1)
  have K_8 : Keep h0 h_8 [] := (Keep.refl h0 []).ext E_8
  have hk_8 : _ ≤ h_8.size := Nat.le_trans hk0 E_8.1
  have Ca_8 := CHr.ext E_8 CR0.1
  have CR_8 := CR0.trans Ca_8
  have F_width_b_8__8 : Fld Z h_8 b_8 "com/example/greenweft/greenweft/map/Grid" "width" "I" (.int (0 : Int32)) := D_8 (Or.inr (ow hw 193 rfl)) (ty := .int) (by decide)
  have F_height_b_8__8 : Fld Z h_8 b_8 "com/example/greenweft/greenweft/map/Grid" "height" "I" (.int (0 : Int32)) := D_8 (Or.inr (ow hw 195 rfl)) (ty := .int) (by decide)
  have F_originX_b_8__8 : Fld Z h_8 b_8 "com/example/greenweft/greenweft/map/Grid" "originX" "D" (.double (0 : UInt64)) := D_8 (Or.inr (ow hw 197 rfl)) (ty := .double) (by decide)
  have F_originY_b_8__8 : Fld Z h_8 b_8 "com/example/greenweft/greenweft/map/Grid" "originY" "D" (.double (0 : UInt64)) := D_8 (Or.inr (ow hw 199 rfl)) (ty := .double) (by decide)
  have F_cellWidth_b_8__8 : Fld Z h_8 b_8 "com/example/greenweft/greenweft/map/Grid" "cellWidth" "D" (.double (0 : UInt64)) := D_8 (Or.inr (ow hw 201 rfl)) (ty := .double) (by decide)
  have F_cellHeight_b_8__8 : Fld Z h_8 b_8 "com/example/greenweft/greenweft/map/Grid" "cellHeight" "D" (.double (0 : UInt64)) := D_8 (Or.inr (ow hw 203 rfl)) (ty := .double) (by decide)
  have F_coordinates_b_8__8 : Fld Z h_8 b_8 "com/example/greenweft/greenweft/map/Grid" "coordinates" "Lcom/example/greenweft/greenweft/map/Coordinates;" .null := D_8 (Or.inr (ow hw 205 rfl)) (ty := (.object "com/example/greenweft/greenweft/map/Coordinates")) (by decide)
  have St_1_19 := (S_Coordinates_PROJECTED_METRES.ext E_8)
  have St_1_20 := (S_Coordinates_GEOGRAPHIC.ext E_8)
  have St_1_21 := (S_Coordinates_OTHER.ext E_8)
  obtain ⟨_, _, ⟨T_9, L_9, k_9, n_9⟩, -, X_9, ⟨Lc_9, hQ_9, l_9, y_9, z_9⟩, st_9⟩ := Jvm.LawKit.callS X_8 hx (y := MN32) hown (mvT hZ (ow hw 5 rfl)) (mvT hZ (ow hw 6 rfl)) (mvT hZ (ow hw 7 rfl)) (mvT hZ (ow hw 8 rfl)) (by decide) (backOf (W := 12) (rm_crd l Z a0 hw [] ca r0 r1 r2 h_8 n0 Z_8 St_1_19 St_1_20 St_1_21) hZ (ow hw 8 rfl) (ow hw 7 rfl) (by decide) (by decide)) (g := (mkF mM 230 (lc42 p1 p2 p3 p4 p5 p6 wd hg ox oy cw ch kd ca cb stp w9 v9 x9 y9 c9 d9) [(.int ca), (.double ch), (.double cw), (.double oy), (.double ox), (.int hg), (.int wd), (.ref b_8), (.ref b_8)])) rfl (by rw [hml]; rfl) (argsL := [(.int ca)]) (rest := [(.double ch), (.double cw), (.double oy), (.double ox), (.int hg), (.int wd), (.ref b_8), (.ref b_8)]) (lenOf pd_25 rfl) rfl (by show 2 * 0 + _ ≤ _; exact Nat.le_of_eq rfl) (hb hby at_230) (fun _ _ => ⟨rfl, e_8, (by decide : 1 + 0 ≤ _), (by decide : 7 + 0 ≤ _)⟩)
  dsimp only [Pt.U, Pt.locs, Pt.cells, Pt.slots] at X_9 l_9 y_9 z_9 st_9 hQ_9
  subst l_9 y_9 z_9
  obtain ⟨rfl, N_9q, eh_9⟩ := hQ_9
  have N_9 := Fr.app N0 N_9q
  have St_1_22 := (S_Integer_DigitOnes.ext E_8)
  have St_1_23 := (S_Integer_DigitTens.ext E_8)
  have St_1_17 := (S_String_COMPACT_STRINGS.ext E_8)
  obtain ⟨_, _, ⟨T_10, L_10, k_10, n_10⟩, -, Xc_10, hSc_10, hgr_10, ⟨Lc_10, hQ_10, l_10, y_10, z_10, CHc_10⟩, st_10⟩ := X_9.specialBackS hx (y := MN33) rfl hown (mvT hZ (ow hw 12 rfl)) (mvT hZ (ow hw 13 rfl)) (mvT hZ (ow hw 14 rfl)) (by decide) (backOfSH (W := 1) (rm_gi l Z a0 hw [] b_8 wd hg ox oy cw ch (own_co ca r0 r1 r2) o1 o2 k2a k3a k4a k5a cs h_8 n0 Z_8 F_width_b_8__8 F_height_b_8__8 F_originX_b_8__8 F_originY_b_8__8 F_cellWidth_b_8__8 F_cellHeight_b_8__8 F_coordinates_b_8__8 A_8 g_b_8 St_1_22 St_1_23 (B_o1.ext E_8) (B_o2.ext E_8) St_1_17 hcs hiw1 hih1 hw11 hh11 hmx1 nnox1 fiox1 nnoy1 fioy1 nncw1 ficw1 nnch1 fich1 pscw1 psch1 hk2a hk3a hk4a hk5a hh41) hZ (ow hw 14 rfl) (ow hw 4 rfl) (by decide) (by decide) (own_EW hw) CR_8.1) (g := (mkF mM 233 (lc42 p1 p2 p3 p4 p5 p6 wd hg ox oy cw ch kd ca cb stp w9 v9 x9 y9 c9 d9) [(.ref (own_co ca r0 r1 r2)), (.double ch), (.double cw), (.double oy), (.double ox), (.int hg), (.int wd), (.ref b_8), (.ref b_8)])) rfl (by rw [hml]; rfl) (Steps.refl _) (a := b_8) (argsL := [(.int wd), (.int hg), (.double ox), (.double oy), (.double cw), (.double ch), (.ref (own_co ca r0 r1 r2))]) (rest := [(.ref b_8)]) (lenOf pd_26 rfl) rfl (by show 2 * 0 + _ ≤ _; exact Nat.le_of_eq rfl) (hb hby at_233) (fun _ _ => ⟨rfl, eh_9, (by decide : 1 + 11 ≤ _), (by decide : 7 + 180 ≤ _)⟩)
  dsimp only [Pt.U, Pt.locs, Pt.cells, Pt.slots] at Xc_10 hSc_10 hgr_10 l_10 y_10 z_10 st_10 hQ_10 CHc_10
  subst l_10 y_10 z_10
  obtain ⟨X_10, hS_10, hZ_10, hown_10⟩ := rebS hS0 (show _ ≤ T_9.heap.size by rw [eh_9]; exact hk_8) Xc_10 hSc_10 hgr_10 hZ hown
  obtain ⟨rfl, N_10q, Kc_10, pfF_width_a_10, pfF_height_a_10, pfF_originX_a_10, pfF_originY_a_10, pfF_cellWidth_a_10, pfF_cellHeight_a_10, pfF_coordinates_a_10, pfE_a_10⟩ := hQ_10
  have Z_10 : n0 ≤ T_10.heap.size := (Nat.le_trans Z_8 Kc_10.1)
  have K_10 : Keep h0 T_10.heap [] := K_8.trans Kc_10 (allS (Or.inr sz_b_8) all0)
  have Ca_10 := CHc_10
  have CR_10 := CR_8.trans Ca_10
  have hk_10 : _ ≤ T_10.heap.size := Nat.le_refl _
  have N_10 := Fr.app N_9 N_10q
  obtain ⟨T_11, h_11, X_11, e_11, E_11, A_11, D_11, -, st_11⟩ := newO X_10 hx hZ_10 hown_10 (ow hw 2 rfl) (ow hw 3 rfl) (ow hw 4 rfl) rfl (g := (mkF mM 238 (lc43 p1 p2 p3 p4 p5 p6 wd hg ox oy cw ch kd ca cb stp w9 v9 x9 y9 c9 d9 b_8) [])) rfl (hb hby at_238) (by decide) (by decide)
  obtain ⟨b_11, g_11⟩ : ∃ z, z = T_10.heap.size := ⟨_, rfl⟩
  rw [← g_11] at A_11 D_11 st_11
  have g_b_11 : n0 ≤ b_11 := Nat.le_trans Z_10 (Nat.le_of_eq g_11.symm)
  have sz_b_11 : h0.size ≤ b_11 := Nat.le_trans K_10.1 (Nat.le_of_eq g_11.symm)
  have Z_11 : n0 ≤ h_11.size := (Nat.le_trans Z_10 E_11.1)
  have K_11 : Keep h0 h_11 [] := K_10.ext E_11
  have hk_11 : _ ≤ h_11.size := Nat.le_trans hk_10 E_11.1
  have Ca_11 := CHr.ext E_11 CR_10.1
  have CR_11 := CR_10.trans Ca_11
  have F_width_b_11__11 : Fld Z h_11 b_11 "com/example/greenweft/greenweft/map/Grid" "width" "I" (.int (0 : Int32)) := D_11 (Or.inr (ow hw 193 rfl)) (ty := .int) (by decide)
  have F_height_b_11__11 : Fld Z h_11 b_11 "com/example/greenweft/greenweft/map/Grid" "height" "I" (.int (0 : Int32)) := D_11 (Or.inr (ow hw 195 rfl)) (ty := .int) (by decide)
  have F_originX_b_11__11 : Fld Z h_11 b_11 "com/example/greenweft/greenweft/map/Grid" "originX" "D" (.double (0 : UInt64)) := D_11 (Or.inr (ow hw 197 rfl)) (ty := .double) (by decide)
  have F_originY_b_11__11 : Fld Z h_11 b_11 "com/example/greenweft/greenweft/map/Grid" "originY" "D" (.double (0 : UInt64)) := D_11 (Or.inr (ow hw 199 rfl)) (ty := .double) (by decide)
  have F_cellWidth_b_11__11 : Fld Z h_11 b_11 "com/example/greenweft/greenweft/map/Grid" "cellWidth" "D" (.double (0 : UInt64)) := D_11 (Or.inr (ow hw 201 rfl)) (ty := .double) (by decide)
  have F_cellHeight_b_11__11 : Fld Z h_11 b_11 "com/example/greenweft/greenweft/map/Grid" "cellHeight" "D" (.double (0 : UInt64)) := D_11 (Or.inr (ow hw 203 rfl)) (ty := .double) (by decide)
  have F_coordinates_b_11__11 : Fld Z h_11 b_11 "com/example/greenweft/greenweft/map/Grid" "coordinates" "Lcom/example/greenweft/greenweft/map/Coordinates;" .null := D_11 (Or.inr (ow hw 205 rfl)) (ty := (.object "com/example/greenweft/greenweft/map/Coordinates")) (by decide)
  have St_3_19 := ((own_sta_keep St_1_19 Kc_10 (allS (own_exa_ns A_8) all0)).ext E_11)
  have St_3_20 := ((own_sta_keep St_1_20 Kc_10 (allS (own_exa_ns A_8) all0)).ext E_11)
  have St_3_21 := ((own_sta_keep St_1_21 Kc_10 (allS (own_exa_ns A_8) all0)).ext E_11)
  obtain ⟨_, _, ⟨T_12, L_12, k_12, n_12⟩, -, X_12, ⟨Lc_12, hQ_12, l_12, y_12, z_12⟩, st_12⟩ := Jvm.LawKit.callS X_11 hx (y := MN32) hown_10 (mvT hZ_10 (ow hw 5 rfl)) (mvT hZ_10 (ow hw 6 rfl)) (mvT hZ_10 (ow hw 7 rfl)) (mvT hZ_10 (ow hw 8 rfl)) (by decide) (backOf (W := 12) (rm_crd l Z a0 hw [] cb r0 r1 r2 h_11 n0 Z_11 St_3_19 St_3_20 St_3_21) hZ_10 (ow hw 8 rfl) (ow hw 7 rfl) (by decide) (by decide)) (g := (mkF mM 256 (lc43 p1 p2 p3 p4 p5 p6 wd hg ox oy cw ch kd ca cb stp w9 v9 x9 y9 c9 d9 b_8) [(.int cb), (.double d9), (.double c9), (.double y9), (.double x9), (.int v9), (.int w9), (.ref b_11), (.ref b_11)])) rfl (by rw [hml]; rfl) (argsL := [(.int cb)]) (rest := [(.double d9), (.double c9), (.double y9), (.double x9), (.int v9), (.int w9), (.ref b_11), (.ref b_11)]) (lenOf pd_25 rfl) rfl (by show 2 * 0 + _ ≤ _; exact Nat.le_of_eq rfl) (hb hby at_256) (fun _ _ => ⟨rfl, e_11, (by decide : 13 + 0 ≤ _), (by decide : 194 + 0 ≤ _)⟩)
  dsimp only [Pt.U, Pt.locs, Pt.cells, Pt.slots] at X_12 l_12 y_12 z_12 st_12 hQ_12
  subst l_12 y_12 z_12
  obtain ⟨rfl, N_12q, eh_12⟩ := hQ_12
  have N_12 := Fr.app N_10 N_12q
  have St_3_22 := ((own_sta_keep St_1_22 Kc_10 (allS (own_exa_ns A_8) all0)).ext E_11)
  have St_3_23 := ((own_sta_keep St_1_23 Kc_10 (allS (own_exa_ns A_8) all0)).ext E_11)
  have St_3_17 := ((own_sta_keep St_1_17 Kc_10 (allS (own_exa_ns A_8) all0)).ext E_11)
  obtain ⟨_, _, ⟨T_13, L_13, k_13, n_13⟩, -, Xc_13, hSc_13, hgr_13, ⟨Lc_13, hQ_13, l_13, y_13, z_13, CHc_13⟩, st_13⟩ := X_12.specialBackS hx (y := MN33) rfl hown_10 (mvT hZ_10 (ow hw 12 rfl)) (mvT hZ_10 (ow hw 13 rfl)) (mvT hZ_10 (ow hw 14 rfl)) (by decide) (backOfSH (W := 1) (rm_gi l Z a0 hw [] b_11 w9 v9 x9 y9 c9 d9 (own_co cb r0 r1 r2) o1 o2 k2b k3b k4b k5b cs h_11 n0 Z_11 F_width_b_11__11 F_height_b_11__11 F_originX_b_11__11 F_originY_b_11__11 F_cellWidth_b_11__11 F_cellHeight_b_11__11 F_coordinates_b_11__11 A_11 g_b_11 St_3_22 St_3_23 (((B_o1.ext E_8).keep Kc_10 (ninS (Nat.ne_of_lt (Nat.lt_of_lt_of_le B_o1.lt (Nat.le_of_eq g_8.symm))) nin0)).ext E_11) (((B_o2.ext E_8).keep Kc_10 (ninS (Nat.ne_of_lt (Nat.lt_of_lt_of_le B_o2.lt (Nat.le_of_eq g_8.symm))) nin0)).ext E_11) St_3_17 hcs hiw2 hih2 hw12 hh12 hmx2 nnox2 fiox2 nnoy2 fioy2 nncw2 ficw2 nnch2 fich2 pscw2 psch2 hk2b hk3b hk4b hk5b hh42) hZ_10 (ow hw 14 rfl) (ow hw 4 rfl) (by decide) (by decide) (own_EW hw) CR_11.1) (g := (mkF mM 259 (lc43 p1 p2 p3 p4 p5 p6 wd hg ox oy cw ch kd ca cb stp w9 v9 x9 y9 c9 d9 b_8) [(.ref (own_co cb r0 r1 r2)), (.double d9), (.double c9), (.double y9), (.double x9), (.int v9), (.int w9), (.ref b_11), (.ref b_11)])) rfl (by rw [hml]; rfl) (Steps.refl _) (a := b_11) (argsL := [(.int w9), (.int v9), (.double x9), (.double y9), (.double c9), (.double d9), (.ref (own_co cb r0 r1 r2))]) (rest := [(.ref b_11)]) (lenOf pd_26 rfl) rfl (by show 2 * 0 + _ ≤ _; exact Nat.le_of_eq rfl) (hb hby at_259) (fun _ _ => ⟨rfl, eh_12, (by decide : 13 + 11 ≤ _), (by decide : 194 + 180 ≤ _)⟩)
  dsimp only [Pt.U, Pt.locs, Pt.cells, Pt.slots] at Xc_13 hSc_13 hgr_13 l_13 y_13 z_13 st_13 hQ_13 CHc_13
  subst l_13 y_13 z_13
  obtain ⟨X_13, hS_13, hZ_13, hown_13⟩ := rebS hS_10 (show _ ≤ T_12.heap.size by rw [eh_12]; exact hk_11) Xc_13 hSc_13 hgr_13 hZ_10 hown_10
  obtain ⟨rfl, N_13q, Kc_13, pfF_width_a_13, pfF_height_a_13, pfF_originX_a_13, pfF_originY_a_13, pfF_cellWidth_a_13, pfF_cellHeight_a_13, pfF_coordinates_a_13, pfE_a_13⟩ := hQ_13
  have Z_13 : n0 ≤ T_13.heap.size := (Nat.le_trans Z_11 Kc_13.1)
  have K_13 : Keep h0 T_13.heap [] := K_11.trans Kc_13 (allS (Or.inr sz_b_11) all0)
  have Ca_13 := CHc_13
  have CR_13 := CR_11.trans Ca_13
  have hk_13 : _ ≤ T_13.heap.size := Nat.le_refl _
  have N_13 := Fr.app N_12 N_13q
  obtain ⟨cq_15, kq_15, q_15a, q_15b, q_15c⟩ := isOf hZ_13 rfl ((pfE_a_10.ext E_11).keep Kc_13)
  obtain ⟨_, _, ⟨T_15, L_15, k_15, n_15⟩, -, X_15, ⟨Lc_15, hQ_15, l_15, y_15, z_15⟩, st_15⟩ := X_13.virtualBack hx (y := MN34) (z := MN34) hown_13 (mvT hZ_13 (ow hw 206 rfl)) (mvT hZ_13 (ow hw 207 rfl)) (notFace_of_selects (args := #[]) (mvT hZ_13 (ow hw 209 rfl))) (mvT hZ_13 (ow hw 209 rfl)) (mvT hZ_13 (ow hw 208 rfl)) (by decide) (backOf (W := 0) (rm_al l Z a0 hw [] b_8 b_11 wd hg ox oy cw ch w9 v9 x9 y9 c9 d9 T_13.heap n0 Z_13 ((pfF_width_a_10.ext E_11).keep Kc_13 (ninS (Nat.ne_of_lt (Nat.lt_of_lt_of_le pfE_a_10.lt (Nat.le_of_eq g_11.symm))) nin0)) ((pfF_height_a_10.ext E_11).keep Kc_13 (ninS (Nat.ne_of_lt (Nat.lt_of_lt_of_le pfE_a_10.lt (Nat.le_of_eq g_11.symm))) nin0)) ((pfF_originX_a_10.ext E_11).keep Kc_13 (ninS (Nat.ne_of_lt (Nat.lt_of_lt_of_le pfE_a_10.lt (Nat.le_of_eq g_11.symm))) nin0)) ((pfF_originY_a_10.ext E_11).keep Kc_13 (ninS (Nat.ne_of_lt (Nat.lt_of_lt_of_le pfE_a_10.lt (Nat.le_of_eq g_11.symm))) nin0)) ((pfF_cellWidth_a_10.ext E_11).keep Kc_13 (ninS (Nat.ne_of_lt (Nat.lt_of_lt_of_le pfE_a_10.lt (Nat.le_of_eq g_11.symm))) nin0)) ((pfF_cellHeight_a_10.ext E_11).keep Kc_13 (ninS (Nat.ne_of_lt (Nat.lt_of_lt_of_le pfE_a_10.lt (Nat.le_of_eq g_11.symm))) nin0)) pfF_width_a_13 pfF_height_a_13 pfF_originX_a_13 pfF_originY_a_13 pfF_cellWidth_a_13 pfF_cellHeight_a_13) hZ_13 (ow hw 210 rfl) (ow hw 4 rfl) (by decide) (by decide)) q_15a q_15c (g := (mkF mM 280 (lc45 p1 p2 p3 p4 p5 p6 wd hg ox oy cw ch kd ca cb stp w9 v9 x9 y9 c9 d9 b_8 b_11 ex9) [(.ref b_11), (.ref b_8)])) rfl (by rw [hml]; rfl) (Steps.refl _) (argsL := [(.ref b_11)]) (rest := []) (lenOf pd_27 rfl) rfl (by show 2 * 0 + _ ≤ _; exact Nat.le_of_eq rfl) (hb hby at_280) (fun _ _ => ⟨rfl, rfl, (by decide : 24 + 0 ≤ _), (by decide : 374 + 0 ≤ _)⟩)
  dsimp only [Pt.U, Pt.locs, Pt.cells, Pt.slots] at X_15 l_15 y_15 z_15 st_15 hQ_15
  subst l_15 y_15 z_15
  obtain ⟨rfl, N_15q, eh_15⟩ := hQ_15
  have N_15 := Fr.app N_13 N_15q
  obtain ⟨cq_16, kq_16, q_16a, q_16b, q_16c⟩ := isOf hZ_13 eh_15 pfE_a_13
  obtain ⟨_, _, ⟨T_16, L_16, k_16, n_16⟩, -, X_16, ⟨Lc_16, hQ_16, l_16, y_16, z_16⟩, st_16⟩ := X_15.virtualBack hx (y := MN34) (z := MN34) hown_13 (mvT hZ_13 (ow hw 206 rfl)) (mvT hZ_13 (ow hw 207 rfl)) (notFace_of_selects (args := #[]) (mvT hZ_13 (ow hw 209 rfl))) (mvT hZ_13 (ow hw 209 rfl)) (mvT hZ_13 (ow hw 208 rfl)) (by decide) (backOf (W := 0) (rm_al l Z a0 hw [] b_11 b_8 w9 v9 x9 y9 c9 d9 wd hg ox oy cw ch T_13.heap n0 Z_13 pfF_width_a_13 pfF_height_a_13 pfF_originX_a_13 pfF_originY_a_13 pfF_cellWidth_a_13 pfF_cellHeight_a_13 ((pfF_width_a_10.ext E_11).keep Kc_13 (ninS (Nat.ne_of_lt (Nat.lt_of_lt_of_le pfE_a_10.lt (Nat.le_of_eq g_11.symm))) nin0)) ((pfF_height_a_10.ext E_11).keep Kc_13 (ninS (Nat.ne_of_lt (Nat.lt_of_lt_of_le pfE_a_10.lt (Nat.le_of_eq g_11.symm))) nin0)) ((pfF_originX_a_10.ext E_11).keep Kc_13 (ninS (Nat.ne_of_lt (Nat.lt_of_lt_of_le pfE_a_10.lt (Nat.le_of_eq g_11.symm))) nin0)) ((pfF_originY_a_10.ext E_11).keep Kc_13 (ninS (Nat.ne_of_lt (Nat.lt_of_lt_of_le pfE_a_10.lt (Nat.le_of_eq g_11.symm))) nin0)) ((pfF_cellWidth_a_10.ext E_11).keep Kc_13 (ninS (Nat.ne_of_lt (Nat.lt_of_lt_of_le pfE_a_10.lt (Nat.le_of_eq g_11.symm))) nin0)) ((pfF_cellHeight_a_10.ext E_11).keep Kc_13 (ninS (Nat.ne_of_lt (Nat.lt_of_lt_of_le pfE_a_10.lt (Nat.le_of_eq g_11.symm))) nin0))) hZ_13 (ow hw 210 rfl) (ow hw 4 rfl) (by decide) (by decide)) q_16a q_16c (g := (mkF mM 292 (lc45 p1 p2 p3 p4 p5 p6 wd hg ox oy cw ch kd ca cb stp w9 v9 x9 y9 c9 d9 b_8 b_11 ex9) [(.ref b_8), (.ref b_11)])) rfl (by rw [hml]; rfl) (Steps.refl _) (argsL := [(.ref b_8)]) (rest := []) (lenOf pd_27 rfl) rfl (by show 2 * 0 + _ ≤ _; exact Nat.le_of_eq rfl) (hb hby at_292) (fun _ _ => ⟨rfl, eh_15, (by decide : 24 + 0 ≤ _), (by decide : 374 + 0 ≤ _)⟩)
  dsimp only [Pt.U, Pt.locs, Pt.cells, Pt.slots] at X_16 l_16 y_16 z_16 st_16 hQ_16
  subst l_16 y_16 z_16
  obtain ⟨rfl, N_16q, eh_16⟩ := hQ_16
  have N_16 := Fr.app N_15 N_16q
  obtain ⟨cq_17, kq_17, q_17a, q_17b, q_17c⟩ := isOf hZ_13 eh_16 ((pfE_a_10.ext E_11).keep Kc_13)
  obtain ⟨_, _, ⟨T_17, L_17, k_17, n_17⟩, -, X_17, ⟨Lc_17, hQ_17, l_17, y_17, z_17⟩, st_17⟩ := X_16.virtualBack hx (y := MN34) (z := MN34) hown_13 (mvT hZ_13 (ow hw 206 rfl)) (mvT hZ_13 (ow hw 207 rfl)) (notFace_of_selects (args := #[]) (mvT hZ_13 (ow hw 209 rfl))) (mvT hZ_13 (ow hw 209 rfl)) (mvT hZ_13 (ow hw 208 rfl)) (by decide) (backOf (W := 0) (rm_al l Z a0 hw [] b_8 b_8 wd hg ox oy cw ch wd hg ox oy cw ch T_13.heap n0 Z_13 ((pfF_width_a_10.ext E_11).keep Kc_13 (ninS (Nat.ne_of_lt (Nat.lt_of_lt_of_le pfE_a_10.lt (Nat.le_of_eq g_11.symm))) nin0)) ((pfF_height_a_10.ext E_11).keep Kc_13 (ninS (Nat.ne_of_lt (Nat.lt_of_lt_of_le pfE_a_10.lt (Nat.le_of_eq g_11.symm))) nin0)) ((pfF_originX_a_10.ext E_11).keep Kc_13 (ninS (Nat.ne_of_lt (Nat.lt_of_lt_of_le pfE_a_10.lt (Nat.le_of_eq g_11.symm))) nin0)) ((pfF_originY_a_10.ext E_11).keep Kc_13 (ninS (Nat.ne_of_lt (Nat.lt_of_lt_of_le pfE_a_10.lt (Nat.le_of_eq g_11.symm))) nin0)) ((pfF_cellWidth_a_10.ext E_11).keep Kc_13 (ninS (Nat.ne_of_lt (Nat.lt_of_lt_of_le pfE_a_10.lt (Nat.le_of_eq g_11.symm))) nin0)) ((pfF_cellHeight_a_10.ext E_11).keep Kc_13 (ninS (Nat.ne_of_lt (Nat.lt_of_lt_of_le pfE_a_10.lt (Nat.le_of_eq g_11.symm))) nin0)) ((pfF_width_a_10.ext E_11).keep Kc_13 (ninS (Nat.ne_of_lt (Nat.lt_of_lt_of_le pfE_a_10.lt (Nat.le_of_eq g_11.symm))) nin0)) ((pfF_height_a_10.ext E_11).keep Kc_13 (ninS (Nat.ne_of_lt (Nat.lt_of_lt_of_le pfE_a_10.lt (Nat.le_of_eq g_11.symm))) nin0)) ((pfF_originX_a_10.ext E_11).keep Kc_13 (ninS (Nat.ne_of_lt (Nat.lt_of_lt_of_le pfE_a_10.lt (Nat.le_of_eq g_11.symm))) nin0)) ((pfF_originY_a_10.ext E_11).keep Kc_13 (ninS (Nat.ne_of_lt (Nat.lt_of_lt_of_le pfE_a_10.lt (Nat.le_of_eq g_11.symm))) nin0)) ((pfF_cellWidth_a_10.ext E_11).keep Kc_13 (ninS (Nat.ne_of_lt (Nat.lt_of_lt_of_le pfE_a_10.lt (Nat.le_of_eq g_11.symm))) nin0)) ((pfF_cellHeight_a_10.ext E_11).keep Kc_13 (ninS (Nat.ne_of_lt (Nat.lt_of_lt_of_le pfE_a_10.lt (Nat.le_of_eq g_11.symm))) nin0))) hZ_13 (ow hw 210 rfl) (ow hw 4 rfl) (by decide) (by decide)) q_17a q_17c (g := (mkF mM 304 (lc45 p1 p2 p3 p4 p5 p6 wd hg ox oy cw ch kd ca cb stp w9 v9 x9 y9 c9 d9 b_8 b_11 ex9) [(.ref b_8), (.ref b_8)])) rfl (by rw [hml]; rfl) (Steps.refl _) (argsL := [(.ref b_8)]) (rest := []) (lenOf pd_27 rfl) rfl (by show 2 * 0 + _ ≤ _; exact Nat.le_of_eq rfl) (hb hby at_304) (fun _ _ => ⟨rfl, eh_16, (by decide : 24 + 0 ≤ _), (by decide : 374 + 0 ≤ _)⟩)
  dsimp only [Pt.U, Pt.locs, Pt.cells, Pt.slots] at X_17 l_17 y_17 z_17 st_17 hQ_17
  subst l_17 y_17 z_17
  obtain ⟨rfl, N_17q, eh_17⟩ := hQ_17
  have N_17 := Fr.app N_16 N_17q
  obtain ⟨fs, hr, hrun, hended, hRE⟩ := X_17.leaveW hS_13 (show _ ≤ T_17.heap.size by rw [eh_17]; exact hk_13) (v := some (.int (1 : Int32))) (fun h => by rw [Bd.returns] at h; cases h)
  refine ⟨_, _, pre0 _ ?_, hrun, hended, _, _, rfl, ?_, ⟨_, rfl⟩, hRE.2.1, hRE.2.2.1, hRE.2.2.2.mono (by decide) (by decide)⟩
  · show oS pP eE below s₁ (mkF mM 0 (lc26 p1 p2 p3 p4 p5 p6) []) _
    refine XS.iloadN X0.here hx rfl (hb hby at_0) rfl ?_
    refine XS.sipush X0.here hx rfl (hb hby at_1) ?_
    show oS pP eE below s₁ (mkF mM 4 (lc26 p1 p2 p3 p4 p5 p6) [(.int (32767 : Int32)), (.int p1)]) _
    refine XS.iand X0.here hx rfl (hb hby at_4) rfl ?_
    refine XS.iconst X0.here hx rfl (hb hby at_5) ?_
    show oS pP eE below s₁ (mkF mM 6 (lc26 p1 p2 p3 p4 p5 p6) [(.int (1 : Int32)), (.int (p1 &&& (32767 : Int32)))]) _
    refine XS.iadd X0.here hx rfl (hb hby at_6) rfl ?_
    show Steps pP.tables eE below (s₁.setTop (mkF mM 7 (lc26 p1 p2 p3 p4 p5 p6) [(.int ((p1 &&& (32767 : Int32)) + (1 : Int32)))])) _
    rw [h_wd]
    refine XS.istore X0.here hx rfl (hb hby at_7) rfl (l' := (lc27 p1 p2 p3 p4 p5 p6 wd)) rfl ?_
    refine XS.iloadN X0.here hx rfl (hb hby at_9) rfl ?_
    refine XS.sipush X0.here hx rfl (hb hby at_10) ?_
    show oS pP eE below s₁ (mkF mM 13 (lc27 p1 p2 p3 p4 p5 p6 wd) [(.int (4095 : Int32)), (.int p2)]) _
    refine XS.iand X0.here hx rfl (hb hby at_13) rfl ?_
    refine XS.iconst X0.here hx rfl (hb hby at_14) ?_
    show oS pP eE below s₁ (mkF mM 15 (lc27 p1 p2 p3 p4 p5 p6 wd) [(.int (1 : Int32)), (.int (p2 &&& (4095 : Int32)))]) _
    refine XS.iadd X0.here hx rfl (hb hby at_15) rfl ?_
    show Steps pP.tables eE below (s₁.setTop (mkF mM 16 (lc27 p1 p2 p3 p4 p5 p6 wd) [(.int ((p2 &&& (4095 : Int32)) + (1 : Int32)))])) _
    rw [h_hg]
    refine XS.istore X0.here hx rfl (hb hby at_16) rfl (l' := (lc28 p1 p2 p3 p4 p5 p6 wd hg)) rfl ?_
    refine XS.iloadN X0.here hx rfl (hb hby at_18) rfl ?_
    show oS pP eE below s₁ (mkF mM 19 (lc28 p1 p2 p3 p4 p5 p6 wd hg) [(.int p3)]) _
    refine XS.i2dS X0.here hx rfl (hb hby at_19) rfl rfl ?_
    show Steps pP.tables eE below (s₁.setTop (mkF mM 20 (lc28 p1 p2 p3 p4 p5 p6 wd hg) [(.double (FP.i2d p3))])) _
    rw [h_ox]
    show oS pP eE below s₁ (mkF mM 20 (lc28 p1 p2 p3 p4 p5 p6 wd hg) [(.double ox)]) _
    refine XS.dstore X0.here hx rfl (hb hby at_20) rfl (l' := (lc29 p1 p2 p3 p4 p5 p6 wd hg ox)) rfl ?_
    refine XS.iloadN X0.here hx rfl (hb hby at_22) rfl ?_
    show oS pP eE below s₁ (mkF mM 23 (lc29 p1 p2 p3 p4 p5 p6 wd hg ox) [(.int p4)]) _
    refine XS.i2dS X0.here hx rfl (hb hby at_23) rfl rfl ?_
    show Steps pP.tables eE below (s₁.setTop (mkF mM 24 (lc29 p1 p2 p3 p4 p5 p6 wd hg ox) [(.double (FP.i2d p4))])) _
    rw [h_oy]
    show oS pP eE below s₁ (mkF mM 24 (lc29 p1 p2 p3 p4 p5 p6 wd hg ox) [(.double oy)]) _
    refine XS.dstore X0.here hx rfl (hb hby at_24) rfl (l' := (lc30 p1 p2 p3 p4 p5 p6 wd hg ox oy)) rfl ?_
    refine XS.iload X0.here hx rfl (hb hby at_26) rfl ?_
    show oS pP eE below s₁ (mkF mM 28 (lc30 p1 p2 p3 p4 p5 p6 wd hg ox oy) [(.int p5)]) _
    refine X0.ldcI hx hown (mvT hZ (ow hw 0 rfl)) (g := (mkF mM 28 (lc30 p1 p2 p3 p4 p5 p6 wd hg ox oy) [(.int p5)])) rfl (hb hby at_28) ?_
    show oS pP eE below s₁ (mkF mM 30 (lc30 p1 p2 p3 p4 p5 p6 wd hg ox oy) [(.int (65535 : Int32)), (.int p5)]) _
    refine XS.iand X0.here hx rfl (hb hby at_30) rfl ?_
    refine XS.iconst X0.here hx rfl (hb hby at_31) ?_
    show oS pP eE below s₁ (mkF mM 32 (lc30 p1 p2 p3 p4 p5 p6 wd hg ox oy) [(.int (1 : Int32)), (.int (p5 &&& (65535 : Int32)))]) _
    refine XS.iadd X0.here hx rfl (hb hby at_32) rfl ?_
    show oS pP eE below s₁ (mkF mM 33 (lc30 p1 p2 p3 p4 p5 p6 wd hg ox oy) [(.int ((p5 &&& (65535 : Int32)) + (1 : Int32)))]) _
    refine XS.i2dS X0.here hx rfl (hb hby at_33) rfl rfl ?_
    show Steps pP.tables eE below (s₁.setTop (mkF mM 34 (lc30 p1 p2 p3 p4 p5 p6 wd hg ox oy) [(.double (FP.i2d ((p5 &&& (65535 : Int32)) + (1 : Int32))))])) _
    rw [h_cw]
    show oS pP eE below s₁ (mkF mM 34 (lc30 p1 p2 p3 p4 p5 p6 wd hg ox oy) [(.double cw)]) _
    refine XS.dstore X0.here hx rfl (hb hby at_34) rfl (l' := (lc31 p1 p2 p3 p4 p5 p6 wd hg ox oy cw)) rfl ?_
    refine XS.iload X0.here hx rfl (hb hby at_36) rfl ?_
    refine XS.bipush X0.here hx rfl (hb hby at_38) ?_
    show oS pP eE below s₁ (mkF mM 40 (lc31 p1 p2 p3 p4 p5 p6 wd hg ox oy cw) [(.int (16 : Int32)), (.int p5)]) _
    refine XT.iushr X0.here hx rfl (hb hby at_40) rfl ?_
    show oS pP eE below s₁ (mkF mM 41 (lc31 p1 p2 p3 p4 p5 p6 wd hg ox oy cw) [(.int (XT.ushr p5 (16 : Int32)))]) _
    refine X0.ldcI hx hown (mvT hZ (ow hw 0 rfl)) (g := (mkF mM 41 (lc31 p1 p2 p3 p4 p5 p6 wd hg ox oy cw) [(.int (XT.ushr p5 (16 : Int32)))])) rfl (hb hby at_41) ?_
    show oS pP eE below s₁ (mkF mM 43 (lc31 p1 p2 p3 p4 p5 p6 wd hg ox oy cw) [(.int (65535 : Int32)), (.int (XT.ushr p5 (16 : Int32)))]) _
    refine XS.iand X0.here hx rfl (hb hby at_43) rfl ?_
    refine XS.iconst X0.here hx rfl (hb hby at_44) ?_
    show oS pP eE below s₁ (mkF mM 45 (lc31 p1 p2 p3 p4 p5 p6 wd hg ox oy cw) [(.int (1 : Int32)), (.int ((XT.ushr p5 (16 : Int32)) &&& (65535 : Int32)))]) _
    refine XS.iadd X0.here hx rfl (hb hby at_45) rfl ?_
    show oS pP eE below s₁ (mkF mM 46 (lc31 p1 p2 p3 p4 p5 p6 wd hg ox oy cw) [(.int (((XT.ushr p5 (16 : Int32)) &&& (65535 : Int32)) + (1 : Int32)))]) _
    refine XS.i2dS X0.here hx rfl (hb hby at_46) rfl rfl ?_
    show Steps pP.tables eE below (s₁.setTop (mkF mM 47 (lc31 p1 p2 p3 p4 p5 p6 wd hg ox oy cw) [(.double (FP.i2d (((XT.ushr p5 (16 : Int32)) &&& (65535 : Int32)) + (1 : Int32))))])) _
    rw [h_ch]
    show oS pP eE below s₁ (mkF mM 47 (lc31 p1 p2 p3 p4 p5 p6 wd hg ox oy cw) [(.double ch)]) _
    refine XS.dstore X0.here hx rfl (hb hby at_47) rfl (l' := (lc32 p1 p2 p3 p4 p5 p6 wd hg ox oy cw ch)) rfl ?_
    refine XS.iload X0.here hx rfl (hb hby at_49) rfl ?_
    refine XS.sipush X0.here hx rfl (hb hby at_51) ?_
    show oS pP eE below s₁ (mkF mM 54 (lc32 p1 p2 p3 p4 p5 p6 wd hg ox oy cw ch) [(.int (255 : Int32)), (.int p6)]) _
    refine XS.iand X0.here hx rfl (hb hby at_54) rfl ?_
    refine XS.bipush X0.here hx rfl (hb hby at_55) ?_
    show oS pP eE below s₁ (mkF mM 57 (lc32 p1 p2 p3 p4 p5 p6 wd hg ox oy cw ch) [(.int (7 : Int32)), (.int (p6 &&& (255 : Int32)))]) _
    refine iremM X0 hx rfl (hb hby at_57) rfl (by decide) ?_
    show Steps pP.tables eE below (s₁.setTop (mkF mM 58 (lc32 p1 p2 p3 p4 p5 p6 wd hg ox oy cw ch) [(.int ((p6 &&& (255 : Int32)) % (7 : Int32)))])) _
    rw [h_kd]
    refine XS.istore X0.here hx rfl (hb hby at_58) rfl (l' := (lc33 p1 p2 p3 p4 p5 p6 wd hg ox oy cw ch kd)) rfl ?_
    refine XS.iload X0.here hx rfl (hb hby at_60) rfl ?_
    refine XS.bipush X0.here hx rfl (hb hby at_62) ?_
    show oS pP eE below s₁ (mkF mM 64 (lc33 p1 p2 p3 p4 p5 p6 wd hg ox oy cw ch kd) [(.int (8 : Int32)), (.int p6)]) _
    refine XT.iushr X0.here hx rfl (hb hby at_64) rfl ?_
    refine XS.sipush X0.here hx rfl (hb hby at_65) ?_
    show oS pP eE below s₁ (mkF mM 68 (lc33 p1 p2 p3 p4 p5 p6 wd hg ox oy cw ch kd) [(.int (255 : Int32)), (.int (XT.ushr p6 (8 : Int32)))]) _
    refine XS.iand X0.here hx rfl (hb hby at_68) rfl ?_
    refine XS.iconst X0.here hx rfl (hb hby at_69) ?_
    show oS pP eE below s₁ (mkF mM 70 (lc33 p1 p2 p3 p4 p5 p6 wd hg ox oy cw ch kd) [(.int (3 : Int32)), (.int ((XT.ushr p6 (8 : Int32)) &&& (255 : Int32)))]) _
    refine iremM X0 hx rfl (hb hby at_70) rfl (by decide) ?_
    show Steps pP.tables eE below (s₁.setTop (mkF mM 71 (lc33 p1 p2 p3 p4 p5 p6 wd hg ox oy cw ch kd) [(.int (((XT.ushr p6 (8 : Int32)) &&& (255 : Int32)) % (3 : Int32)))])) _
    rw [h_ca]
    refine XS.istore X0.here hx rfl (hb hby at_71) rfl (l' := (lc34 p1 p2 p3 p4 p5 p6 wd hg ox oy cw ch kd ca)) rfl ?_
    refine XS.iload X0.here hx rfl (hb hby at_73) rfl ?_
    refine XS.bipush X0.here hx rfl (hb hby at_75) ?_
    show oS pP eE below s₁ (mkF mM 77 (lc34 p1 p2 p3 p4 p5 p6 wd hg ox oy cw ch kd ca) [(.int (16 : Int32)), (.int p6)]) _
    refine XT.iushr X0.here hx rfl (hb hby at_77) rfl ?_
    refine XS.sipush X0.here hx rfl (hb hby at_78) ?_
    show oS pP eE below s₁ (mkF mM 81 (lc34 p1 p2 p3 p4 p5 p6 wd hg ox oy cw ch kd ca) [(.int (255 : Int32)), (.int (XT.ushr p6 (16 : Int32)))]) _
    refine XS.iand X0.here hx rfl (hb hby at_81) rfl ?_
    refine XS.iconst X0.here hx rfl (hb hby at_82) ?_
    show oS pP eE below s₁ (mkF mM 83 (lc34 p1 p2 p3 p4 p5 p6 wd hg ox oy cw ch kd ca) [(.int (3 : Int32)), (.int ((XT.ushr p6 (16 : Int32)) &&& (255 : Int32)))]) _
    refine iremM X0 hx rfl (hb hby at_83) rfl (by decide) ?_
    show Steps pP.tables eE below (s₁.setTop (mkF mM 84 (lc34 p1 p2 p3 p4 p5 p6 wd hg ox oy cw ch kd ca) [(.int (((XT.ushr p6 (16 : Int32)) &&& (255 : Int32)) % (3 : Int32)))])) _
    rw [h_cb]
    refine XS.istore X0.here hx rfl (hb hby at_84) rfl (l' := (lc35 p1 p2 p3 p4 p5 p6 wd hg ox oy cw ch kd ca cb)) rfl ?_
    refine XS.iload X0.here hx rfl (hb hby at_86) rfl ?_
    refine XS.bipush X0.here hx rfl (hb hby at_88) ?_
    show oS pP eE below s₁ (mkF mM 90 (lc35 p1 p2 p3 p4 p5 p6 wd hg ox oy cw ch kd ca cb) [(.int (24 : Int32)), (.int p6)]) _
    refine XT.iushr X0.here hx rfl (hb hby at_90) rfl ?_
    refine XS.iconst X0.here hx rfl (hb hby at_91) ?_
    show oS pP eE below s₁ (mkF mM 92 (lc35 p1 p2 p3 p4 p5 p6 wd hg ox oy cw ch kd ca cb) [(.int (1 : Int32)), (.int (XT.ushr p6 (24 : Int32)))]) _
    refine XS.iand X0.here hx rfl (hb hby at_92) rfl ?_
    show oS pP eE below s₁ (mkF mM 93 (lc35 p1 p2 p3 p4 p5 p6 wd hg ox oy cw ch kd ca cb) [(.int ((XT.ushr p6 (24 : Int32)) &&& (1 : Int32)))]) _
    have jn_1 : ∀ t_, Steps pP.tables eE below (s₁.setTop (mkF mM 105 (lc35 p1 p2 p3 p4 p5 p6 wd hg ox oy cw ch kd ca cb) [(.double stp)])) t_ → Steps pP.tables eE below (s₁.setTop (mkF mM 93 (lc35 p1 p2 p3 p4 p5 p6 wd hg ox oy cw ch kd ca cb) [(.int ((XT.ushr p6 (24 : Int32)) &&& (1 : Int32)))])) t_ := by
      intro t_ kt
      by_cases hz : ((XT.ushr p6 (24 : Int32)) &&& (1 : Int32)) = 0
      · have hj : stp = (4602678819172646912 : UInt64) := h_stp.trans (if_pos hz)
        rw [hj] at kt
        refine XS.ifYes X0.here hx rfl (pc0 := 93) (pc' := 102) rfl (hb hby at_93) rfl (XT.i0_eq_t hz) (by decide) (by decide) ?_
        show oS pP eE below s₁ (mkF mM 102 (lc35 p1 p2 p3 p4 p5 p6 wd hg ox oy cw ch kd ca cb) []) _
        refine X0.ldc2DoubleC hx hown (mvT hZ (ow hw 1 rfl)) (g := (mkF mM 102 (lc35 p1 p2 p3 p4 p5 p6 wd hg ox oy cw ch kd ca cb) [])) rfl (hb hby at_102) _ ?_
        show oS pP eE below s₁ (mkF mM 105 (lc35 p1 p2 p3 p4 p5 p6 wd hg ox oy cw ch kd ca cb) [(.double (4602678819172646912 : UInt64))]) _
        exact kt
      · have hj : stp = (13826050856027422720 : UInt64) := h_stp.trans (if_neg hz)
        rw [hj] at kt
        refine XS.ifNo X0.here hx rfl (hb hby at_93) rfl (XT.i0_eq_f hz) ?_
        show oS pP eE below s₁ (mkF mM 96 (lc35 p1 p2 p3 p4 p5 p6 wd hg ox oy cw ch kd ca cb) []) _
        refine X0.ldc2DoubleC hx hown (mvT hZ (ow hw 212 rfl)) (g := (mkF mM 96 (lc35 p1 p2 p3 p4 p5 p6 wd hg ox oy cw ch kd ca cb) [])) rfl (hb hby at_96) _ ?_
        refine XS.goto X0.here hx rfl (pc0 := 99) (pc' := 105) rfl (hb hby at_99) (by decide) (by decide) ?_
        show oS pP eE below s₁ (mkF mM 105 (lc35 p1 p2 p3 p4 p5 p6 wd hg ox oy cw ch kd ca cb) [(.double (13826050856027422720 : UInt64))]) _
        exact kt
    refine jn_1 _ ?_
    show oS pP eE below s₁ (mkF mM 105 (lc35 p1 p2 p3 p4 p5 p6 wd hg ox oy cw ch kd ca cb) [(.double stp)]) _
    refine XS.dstore X0.here hx rfl (hb hby at_105) rfl (l' := (lc36 p1 p2 p3 p4 p5 p6 wd hg ox oy cw ch kd ca cb stp)) rfl ?_
    refine XS.iload X0.here hx rfl (hb hby at_107) rfl ?_
    refine XS.iconst X0.here hx rfl (hb hby at_109) ?_
    show oS pP eE below s₁ (mkF mM 110 (lc36 p1 p2 p3 p4 p5 p6 wd hg ox oy cw ch kd ca cb stp) [(.int (1 : Int32)), (.int kd)]) _
    have jn_2 : ∀ t_, Steps pP.tables eE below (s₁.setTop (mkF mM 122 (lc36 p1 p2 p3 p4 p5 p6 wd hg ox oy cw ch kd ca cb stp) [(.int w9)])) t_ → Steps pP.tables eE below (s₁.setTop (mkF mM 110 (lc36 p1 p2 p3 p4 p5 p6 wd hg ox oy cw ch kd ca cb stp) [(.int (1 : Int32)), (.int kd)])) t_ := by
      intro t_ kt
      by_cases hz : kd = (1 : Int32)
      · have hj : w9 = (wd + (1 : Int32)) := h_w9.trans (if_pos hz)
        rw [hj] at kt
        refine XS.icmpNo X0.here hx rfl (hb hby at_110) rfl (XT.ii_ne_f hz) ?_
        refine XS.iload X0.here hx rfl (hb hby at_113) rfl ?_
        refine XS.iconst X0.here hx rfl (hb hby at_115) ?_
        show oS pP eE below s₁ (mkF mM 116 (lc36 p1 p2 p3 p4 p5 p6 wd hg ox oy cw ch kd ca cb stp) [(.int (1 : Int32)), (.int wd)]) _
        refine XS.iadd X0.here hx rfl (hb hby at_116) rfl ?_
        refine XS.goto X0.here hx rfl (pc0 := 117) (pc' := 122) rfl (hb hby at_117) (by decide) (by decide) ?_
        show oS pP eE below s₁ (mkF mM 122 (lc36 p1 p2 p3 p4 p5 p6 wd hg ox oy cw ch kd ca cb stp) [(.int (wd + (1 : Int32)))]) _
        exact kt
      · have hj : w9 = wd := h_w9.trans (if_neg hz)
        rw [hj] at kt
        refine XS.icmpYes X0.here hx rfl (pc0 := 110) (pc' := 120) rfl (hb hby at_110) rfl (XT.ii_ne_t hz) (by decide) (by decide) ?_
        refine XS.iload X0.here hx rfl (hb hby at_120) rfl ?_
        show oS pP eE below s₁ (mkF mM 122 (lc36 p1 p2 p3 p4 p5 p6 wd hg ox oy cw ch kd ca cb stp) [(.int wd)]) _
        exact kt
    refine jn_2 _ ?_
    refine XS.istore X0.here hx rfl (hb hby at_122) rfl (l' := (lc37 p1 p2 p3 p4 p5 p6 wd hg ox oy cw ch kd ca cb stp w9)) rfl ?_
    refine XS.iload X0.here hx rfl (hb hby at_124) rfl ?_
    refine XS.iconst X0.here hx rfl (hb hby at_126) ?_
    show oS pP eE below s₁ (mkF mM 127 (lc37 p1 p2 p3 p4 p5 p6 wd hg ox oy cw ch kd ca cb stp w9) [(.int (2 : Int32)), (.int kd)]) _
    have jn_3 : ∀ t_, Steps pP.tables eE below (s₁.setTop (mkF mM 139 (lc37 p1 p2 p3 p4 p5 p6 wd hg ox oy cw ch kd ca cb stp w9) [(.int v9)])) t_ → Steps pP.tables eE below (s₁.setTop (mkF mM 127 (lc37 p1 p2 p3 p4 p5 p6 wd hg ox oy cw ch kd ca cb stp w9) [(.int (2 : Int32)), (.int kd)])) t_ := by
      intro t_ kt
      by_cases hz : kd = (2 : Int32)
      · have hj : v9 = (hg + (1 : Int32)) := h_v9.trans (if_pos hz)
        rw [hj] at kt
        refine XS.icmpNo X0.here hx rfl (hb hby at_127) rfl (XT.ii_ne_f hz) ?_
        refine XS.iload X0.here hx rfl (hb hby at_130) rfl ?_
        refine XS.iconst X0.here hx rfl (hb hby at_132) ?_
        show oS pP eE below s₁ (mkF mM 133 (lc37 p1 p2 p3 p4 p5 p6 wd hg ox oy cw ch kd ca cb stp w9) [(.int (1 : Int32)), (.int hg)]) _
        refine XS.iadd X0.here hx rfl (hb hby at_133) rfl ?_
        refine XS.goto X0.here hx rfl (pc0 := 134) (pc' := 139) rfl (hb hby at_134) (by decide) (by decide) ?_
        show oS pP eE below s₁ (mkF mM 139 (lc37 p1 p2 p3 p4 p5 p6 wd hg ox oy cw ch kd ca cb stp w9) [(.int (hg + (1 : Int32)))]) _
        exact kt
      · have hj : v9 = hg := h_v9.trans (if_neg hz)
        rw [hj] at kt
        refine XS.icmpYes X0.here hx rfl (pc0 := 127) (pc' := 137) rfl (hb hby at_127) rfl (XT.ii_ne_t hz) (by decide) (by decide) ?_
        refine XS.iload X0.here hx rfl (hb hby at_137) rfl ?_
        show oS pP eE below s₁ (mkF mM 139 (lc37 p1 p2 p3 p4 p5 p6 wd hg ox oy cw ch kd ca cb stp w9) [(.int hg)]) _
        exact kt
    refine jn_3 _ ?_
    refine XS.istore X0.here hx rfl (hb hby at_139) rfl (l' := (lc38 p1 p2 p3 p4 p5 p6 wd hg ox oy cw ch kd ca cb stp w9 v9)) rfl ?_
    refine XS.iload X0.here hx rfl (hb hby at_141) rfl ?_
    refine XS.iconst X0.here hx rfl (hb hby at_143) ?_
    show oS pP eE below s₁ (mkF mM 144 (lc38 p1 p2 p3 p4 p5 p6 wd hg ox oy cw ch kd ca cb stp w9 v9) [(.int (3 : Int32)), (.int kd)]) _
    have jn_4 : ∀ t_, Steps pP.tables eE below (s₁.setTop (mkF mM 157 (lc38 p1 p2 p3 p4 p5 p6 wd hg ox oy cw ch kd ca cb stp w9 v9) [(.double x9)])) t_ → Steps pP.tables eE below (s₁.setTop (mkF mM 144 (lc38 p1 p2 p3 p4 p5 p6 wd hg ox oy cw ch kd ca cb stp w9 v9) [(.int (3 : Int32)), (.int kd)])) t_ := by
      intro t_ kt
      by_cases hz : kd = (3 : Int32)
      · have hj : x9 = (FP.dadd ox stp) := h_x9.trans (if_pos hz)
        rw [hj] at kt
        refine XS.icmpNo X0.here hx rfl (hb hby at_144) rfl (XT.ii_ne_f hz) ?_
        show oS pP eE below s₁ (mkF mM 147 (lc38 p1 p2 p3 p4 p5 p6 wd hg ox oy cw ch kd ca cb stp w9 v9) []) _
        refine XS.dload X0.here hx rfl (hb hby at_147) rfl ?_
        show oS pP eE below s₁ (mkF mM 149 (lc38 p1 p2 p3 p4 p5 p6 wd hg ox oy cw ch kd ca cb stp w9 v9) [(.double ox)]) _
        refine XS.dload X0.here hx rfl (hb hby at_149) rfl ?_
        show oS pP eE below s₁ (mkF mM 151 (lc38 p1 p2 p3 p4 p5 p6 wd hg ox oy cw ch kd ca cb stp w9 v9) [(.double stp), (.double ox)]) _
        refine XS.daddS X0.here hx rfl (hb hby at_151) rfl nn3 rfl ?_
        refine XS.goto X0.here hx rfl (pc0 := 152) (pc' := 157) rfl (hb hby at_152) (by decide) (by decide) ?_
        show oS pP eE below s₁ (mkF mM 157 (lc38 p1 p2 p3 p4 p5 p6 wd hg ox oy cw ch kd ca cb stp w9 v9) [(.double (FP.dadd ox stp))]) _
        exact kt
      · have hj : x9 = ox := h_x9.trans (if_neg hz)
        rw [hj] at kt
        refine XS.icmpYes X0.here hx rfl (pc0 := 144) (pc' := 155) rfl (hb hby at_144) rfl (XT.ii_ne_t hz) (by decide) (by decide) ?_
        show oS pP eE below s₁ (mkF mM 155 (lc38 p1 p2 p3 p4 p5 p6 wd hg ox oy cw ch kd ca cb stp w9 v9) []) _
        refine XS.dload X0.here hx rfl (hb hby at_155) rfl ?_
        show oS pP eE below s₁ (mkF mM 157 (lc38 p1 p2 p3 p4 p5 p6 wd hg ox oy cw ch kd ca cb stp w9 v9) [(.double ox)]) _
        exact kt
    refine jn_4 _ ?_
    show oS pP eE below s₁ (mkF mM 157 (lc38 p1 p2 p3 p4 p5 p6 wd hg ox oy cw ch kd ca cb stp w9 v9) [(.double x9)]) _
    refine XS.dstore X0.here hx rfl (hb hby at_157) rfl (l' := (lc39 p1 p2 p3 p4 p5 p6 wd hg ox oy cw ch kd ca cb stp w9 v9 x9)) rfl ?_
    refine XS.iload X0.here hx rfl (hb hby at_159) rfl ?_
    refine XS.iconst X0.here hx rfl (hb hby at_161) ?_
    show oS pP eE below s₁ (mkF mM 162 (lc39 p1 p2 p3 p4 p5 p6 wd hg ox oy cw ch kd ca cb stp w9 v9 x9) [(.int (4 : Int32)), (.int kd)]) _
    have jn_5 : ∀ t_, Steps pP.tables eE below (s₁.setTop (mkF mM 175 (lc39 p1 p2 p3 p4 p5 p6 wd hg ox oy cw ch kd ca cb stp w9 v9 x9) [(.double y9)])) t_ → Steps pP.tables eE below (s₁.setTop (mkF mM 162 (lc39 p1 p2 p3 p4 p5 p6 wd hg ox oy cw ch kd ca cb stp w9 v9 x9) [(.int (4 : Int32)), (.int kd)])) t_ := by
      intro t_ kt
      by_cases hz : kd = (4 : Int32)
      · have hj : y9 = (FP.dadd oy stp) := h_y9.trans (if_pos hz)
        rw [hj] at kt
        refine XS.icmpNo X0.here hx rfl (hb hby at_162) rfl (XT.ii_ne_f hz) ?_
        show oS pP eE below s₁ (mkF mM 165 (lc39 p1 p2 p3 p4 p5 p6 wd hg ox oy cw ch kd ca cb stp w9 v9 x9) []) _
        refine XS.dload X0.here hx rfl (hb hby at_165) rfl ?_
        show oS pP eE below s₁ (mkF mM 167 (lc39 p1 p2 p3 p4 p5 p6 wd hg ox oy cw ch kd ca cb stp w9 v9 x9) [(.double oy)]) _
        refine XS.dload X0.here hx rfl (hb hby at_167) rfl ?_
        show oS pP eE below s₁ (mkF mM 169 (lc39 p1 p2 p3 p4 p5 p6 wd hg ox oy cw ch kd ca cb stp w9 v9 x9) [(.double stp), (.double oy)]) _
        refine XS.daddS X0.here hx rfl (hb hby at_169) rfl nn4 rfl ?_
        refine XS.goto X0.here hx rfl (pc0 := 170) (pc' := 175) rfl (hb hby at_170) (by decide) (by decide) ?_
        show oS pP eE below s₁ (mkF mM 175 (lc39 p1 p2 p3 p4 p5 p6 wd hg ox oy cw ch kd ca cb stp w9 v9 x9) [(.double (FP.dadd oy stp))]) _
        exact kt
      · have hj : y9 = oy := h_y9.trans (if_neg hz)
        rw [hj] at kt
        refine XS.icmpYes X0.here hx rfl (pc0 := 162) (pc' := 173) rfl (hb hby at_162) rfl (XT.ii_ne_t hz) (by decide) (by decide) ?_
        show oS pP eE below s₁ (mkF mM 173 (lc39 p1 p2 p3 p4 p5 p6 wd hg ox oy cw ch kd ca cb stp w9 v9 x9) []) _
        refine XS.dload X0.here hx rfl (hb hby at_173) rfl ?_
        show oS pP eE below s₁ (mkF mM 175 (lc39 p1 p2 p3 p4 p5 p6 wd hg ox oy cw ch kd ca cb stp w9 v9 x9) [(.double oy)]) _
        exact kt
    refine jn_5 _ ?_
    show oS pP eE below s₁ (mkF mM 175 (lc39 p1 p2 p3 p4 p5 p6 wd hg ox oy cw ch kd ca cb stp w9 v9 x9) [(.double y9)]) _
    refine XS.dstore X0.here hx rfl (hb hby at_175) rfl (l' := (lc40 p1 p2 p3 p4 p5 p6 wd hg ox oy cw ch kd ca cb stp w9 v9 x9 y9)) rfl ?_
    refine XS.iload X0.here hx rfl (hb hby at_177) rfl ?_
    refine XS.iconst X0.here hx rfl (hb hby at_179) ?_
    show oS pP eE below s₁ (mkF mM 180 (lc40 p1 p2 p3 p4 p5 p6 wd hg ox oy cw ch kd ca cb stp w9 v9 x9 y9) [(.int (5 : Int32)), (.int kd)]) _
    have jn_6 : ∀ t_, Steps pP.tables eE below (s₁.setTop (mkF mM 192 (lc40 p1 p2 p3 p4 p5 p6 wd hg ox oy cw ch kd ca cb stp w9 v9 x9 y9) [(.double c9)])) t_ → Steps pP.tables eE below (s₁.setTop (mkF mM 180 (lc40 p1 p2 p3 p4 p5 p6 wd hg ox oy cw ch kd ca cb stp w9 v9 x9 y9) [(.int (5 : Int32)), (.int kd)])) t_ := by
      intro t_ kt
      by_cases hz : kd = (5 : Int32)
      · have hj : c9 = (FP.dadd cw (4607182418800017408 : UInt64)) := h_c9.trans (if_pos hz)
        rw [hj] at kt
        refine XS.icmpNo X0.here hx rfl (hb hby at_180) rfl (XT.ii_ne_f hz) ?_
        show oS pP eE below s₁ (mkF mM 183 (lc40 p1 p2 p3 p4 p5 p6 wd hg ox oy cw ch kd ca cb stp w9 v9 x9 y9) []) _
        refine XS.dload X0.here hx rfl (hb hby at_183) rfl ?_
        show oS pP eE below s₁ (mkF mM 185 (lc40 p1 p2 p3 p4 p5 p6 wd hg ox oy cw ch kd ca cb stp w9 v9 x9 y9) [(.double cw)]) _
        refine XS.dconst1 X0.here hx rfl (v := (4607182418800017408 : UInt64)) (hb hby at_185) rfl ?_
        show oS pP eE below s₁ (mkF mM 186 (lc40 p1 p2 p3 p4 p5 p6 wd hg ox oy cw ch kd ca cb stp w9 v9 x9 y9) [(.double (4607182418800017408 : UInt64)), (.double cw)]) _
        refine XS.daddS X0.here hx rfl (hb hby at_186) rfl nn5 rfl ?_
        refine XS.goto X0.here hx rfl (pc0 := 187) (pc' := 192) rfl (hb hby at_187) (by decide) (by decide) ?_
        show oS pP eE below s₁ (mkF mM 192 (lc40 p1 p2 p3 p4 p5 p6 wd hg ox oy cw ch kd ca cb stp w9 v9 x9 y9) [(.double (FP.dadd cw (4607182418800017408 : UInt64)))]) _
        exact kt
      · have hj : c9 = cw := h_c9.trans (if_neg hz)
        rw [hj] at kt
        refine XS.icmpYes X0.here hx rfl (pc0 := 180) (pc' := 190) rfl (hb hby at_180) rfl (XT.ii_ne_t hz) (by decide) (by decide) ?_
        show oS pP eE below s₁ (mkF mM 190 (lc40 p1 p2 p3 p4 p5 p6 wd hg ox oy cw ch kd ca cb stp w9 v9 x9 y9) []) _
        refine XS.dload X0.here hx rfl (hb hby at_190) rfl ?_
        show oS pP eE below s₁ (mkF mM 192 (lc40 p1 p2 p3 p4 p5 p6 wd hg ox oy cw ch kd ca cb stp w9 v9 x9 y9) [(.double cw)]) _
        exact kt
    refine jn_6 _ ?_
    show oS pP eE below s₁ (mkF mM 192 (lc40 p1 p2 p3 p4 p5 p6 wd hg ox oy cw ch kd ca cb stp w9 v9 x9 y9) [(.double c9)]) _
    refine XS.dstore X0.here hx rfl (hb hby at_192) rfl (l' := (lc41 p1 p2 p3 p4 p5 p6 wd hg ox oy cw ch kd ca cb stp w9 v9 x9 y9 c9)) rfl ?_
    refine XS.iload X0.here hx rfl (hb hby at_194) rfl ?_
    refine XS.bipush X0.here hx rfl (hb hby at_196) ?_
    show oS pP eE below s₁ (mkF mM 198 (lc41 p1 p2 p3 p4 p5 p6 wd hg ox oy cw ch kd ca cb stp w9 v9 x9 y9 c9) [(.int (6 : Int32)), (.int kd)]) _
    have jn_7 : ∀ t_, Steps pP.tables eE below (s₁.setTop (mkF mM 210 (lc41 p1 p2 p3 p4 p5 p6 wd hg ox oy cw ch kd ca cb stp w9 v9 x9 y9 c9) [(.double d9)])) t_ → Steps pP.tables eE below (s₁.setTop (mkF mM 198 (lc41 p1 p2 p3 p4 p5 p6 wd hg ox oy cw ch kd ca cb stp w9 v9 x9 y9 c9) [(.int (6 : Int32)), (.int kd)])) t_ := by
      intro t_ kt
      by_cases hz : kd = (6 : Int32)
      · have hj : d9 = (FP.dadd ch (4607182418800017408 : UInt64)) := h_d9.trans (if_pos hz)
        rw [hj] at kt
        refine XS.icmpNo X0.here hx rfl (hb hby at_198) rfl (XT.ii_ne_f hz) ?_
        show oS pP eE below s₁ (mkF mM 201 (lc41 p1 p2 p3 p4 p5 p6 wd hg ox oy cw ch kd ca cb stp w9 v9 x9 y9 c9) []) _
        refine XS.dload X0.here hx rfl (hb hby at_201) rfl ?_
        show oS pP eE below s₁ (mkF mM 203 (lc41 p1 p2 p3 p4 p5 p6 wd hg ox oy cw ch kd ca cb stp w9 v9 x9 y9 c9) [(.double ch)]) _
        refine XS.dconst1 X0.here hx rfl (v := (4607182418800017408 : UInt64)) (hb hby at_203) rfl ?_
        show oS pP eE below s₁ (mkF mM 204 (lc41 p1 p2 p3 p4 p5 p6 wd hg ox oy cw ch kd ca cb stp w9 v9 x9 y9 c9) [(.double (4607182418800017408 : UInt64)), (.double ch)]) _
        refine XS.daddS X0.here hx rfl (hb hby at_204) rfl nn6 rfl ?_
        refine XS.goto X0.here hx rfl (pc0 := 205) (pc' := 210) rfl (hb hby at_205) (by decide) (by decide) ?_
        show oS pP eE below s₁ (mkF mM 210 (lc41 p1 p2 p3 p4 p5 p6 wd hg ox oy cw ch kd ca cb stp w9 v9 x9 y9 c9) [(.double (FP.dadd ch (4607182418800017408 : UInt64)))]) _
        exact kt
      · have hj : d9 = ch := h_d9.trans (if_neg hz)
        rw [hj] at kt
        refine XS.icmpYes X0.here hx rfl (pc0 := 198) (pc' := 208) rfl (hb hby at_198) rfl (XT.ii_ne_t hz) (by decide) (by decide) ?_
        show oS pP eE below s₁ (mkF mM 208 (lc41 p1 p2 p3 p4 p5 p6 wd hg ox oy cw ch kd ca cb stp w9 v9 x9 y9 c9) []) _
        refine XS.dload X0.here hx rfl (hb hby at_208) rfl ?_
        show oS pP eE below s₁ (mkF mM 210 (lc41 p1 p2 p3 p4 p5 p6 wd hg ox oy cw ch kd ca cb stp w9 v9 x9 y9 c9) [(.double ch)]) _
        exact kt
    refine jn_7 _ ?_
    show oS pP eE below s₁ (mkF mM 210 (lc41 p1 p2 p3 p4 p5 p6 wd hg ox oy cw ch kd ca cb stp w9 v9 x9 y9 c9) [(.double d9)]) _
    refine XS.dstore X0.here hx rfl (hb hby at_210) rfl (l' := (lc42 p1 p2 p3 p4 p5 p6 wd hg ox oy cw ch kd ca cb stp w9 v9 x9 y9 c9 d9)) rfl ?_
    show oS pP eE below s₁ (mkF mM 212 (lc42 p1 p2 p3 p4 p5 p6 wd hg ox oy cw ch kd ca cb stp w9 v9 x9 y9 c9 d9) []) _
    refine st_8 _ ?_
    show oS pP eE below T_8 (mkF mM 215 (lc42 p1 p2 p3 p4 p5 p6 wd hg ox oy cw ch kd ca cb stp w9 v9 x9 y9 c9 d9) [(.ref b_8)]) _
    refine XS.dup X_8.here hx rfl (hb hby at_215) rfl rfl ?_
    refine XS.iload X_8.here hx rfl (hb hby at_216) rfl ?_
    refine XS.iload X_8.here hx rfl (hb hby at_218) rfl ?_
    show oS pP eE below T_8 (mkF mM 220 (lc42 p1 p2 p3 p4 p5 p6 wd hg ox oy cw ch kd ca cb stp w9 v9 x9 y9 c9 d9) [(.int hg), (.int wd), (.ref b_8), (.ref b_8)]) _
    refine XS.dload X_8.here hx rfl (hb hby at_220) rfl ?_
    show oS pP eE below T_8 (mkF mM 222 (lc42 p1 p2 p3 p4 p5 p6 wd hg ox oy cw ch kd ca cb stp w9 v9 x9 y9 c9 d9) [(.double ox), (.int hg), (.int wd), (.ref b_8), (.ref b_8)]) _
    refine XS.dload X_8.here hx rfl (hb hby at_222) rfl ?_
    show oS pP eE below T_8 (mkF mM 224 (lc42 p1 p2 p3 p4 p5 p6 wd hg ox oy cw ch kd ca cb stp w9 v9 x9 y9 c9 d9) [(.double oy), (.double ox), (.int hg), (.int wd), (.ref b_8), (.ref b_8)]) _
    refine XS.dload X_8.here hx rfl (hb hby at_224) rfl ?_
    show oS pP eE below T_8 (mkF mM 226 (lc42 p1 p2 p3 p4 p5 p6 wd hg ox oy cw ch kd ca cb stp w9 v9 x9 y9 c9 d9) [(.double cw), (.double oy), (.double ox), (.int hg), (.int wd), (.ref b_8), (.ref b_8)]) _
    refine XS.dload X_8.here hx rfl (hb hby at_226) rfl ?_
    refine XS.iload X_8.here hx rfl (hb hby at_228) rfl ?_
    show oS pP eE below T_8 (mkF mM 230 (lc42 p1 p2 p3 p4 p5 p6 wd hg ox oy cw ch kd ca cb stp w9 v9 x9 y9 c9 d9) [(.int ca), (.double ch), (.double cw), (.double oy), (.double ox), (.int hg), (.int wd), (.ref b_8), (.ref b_8)]) _
    refine st_9 _ ?_
    show oS pP eE below T_9 (mkF mM 233 (lc42 p1 p2 p3 p4 p5 p6 wd hg ox oy cw ch kd ca cb stp w9 v9 x9 y9 c9 d9) [(.ref (own_co ca r0 r1 r2)), (.double ch), (.double cw), (.double oy), (.double ox), (.int hg), (.int wd), (.ref b_8), (.ref b_8)]) _
    refine st_10.trans ?_
    show oS pP eE below T_10 (mkF mM 236 (lc42 p1 p2 p3 p4 p5 p6 wd hg ox oy cw ch kd ca cb stp w9 v9 x9 y9 c9 d9) [(.ref b_8)]) _
    refine XS.astore X_10.here hx rfl (hb hby at_236) rfl rfl (l' := (lc43 p1 p2 p3 p4 p5 p6 wd hg ox oy cw ch kd ca cb stp w9 v9 x9 y9 c9 d9 b_8)) rfl ?_
    show oS pP eE below T_10 (mkF mM 238 (lc43 p1 p2 p3 p4 p5 p6 wd hg ox oy cw ch kd ca cb stp w9 v9 x9 y9 c9 d9 b_8) []) _
    refine st_11 _ ?_
    show oS pP eE below T_11 (mkF mM 241 (lc43 p1 p2 p3 p4 p5 p6 wd hg ox oy cw ch kd ca cb stp w9 v9 x9 y9 c9 d9 b_8) [(.ref b_11)]) _
    refine XS.dup X_11.here hx rfl (hb hby at_241) rfl rfl ?_
    refine XS.iload X_11.here hx rfl (hb hby at_242) rfl ?_
    refine XS.iload X_11.here hx rfl (hb hby at_244) rfl ?_
    show oS pP eE below T_11 (mkF mM 246 (lc43 p1 p2 p3 p4 p5 p6 wd hg ox oy cw ch kd ca cb stp w9 v9 x9 y9 c9 d9 b_8) [(.int v9), (.int w9), (.ref b_11), (.ref b_11)]) _
    refine XS.dload X_11.here hx rfl (hb hby at_246) rfl ?_
    show oS pP eE below T_11 (mkF mM 248 (lc43 p1 p2 p3 p4 p5 p6 wd hg ox oy cw ch kd ca cb stp w9 v9 x9 y9 c9 d9 b_8) [(.double x9), (.int v9), (.int w9), (.ref b_11), (.ref b_11)]) _
    refine XS.dload X_11.here hx rfl (hb hby at_248) rfl ?_
    show oS pP eE below T_11 (mkF mM 250 (lc43 p1 p2 p3 p4 p5 p6 wd hg ox oy cw ch kd ca cb stp w9 v9 x9 y9 c9 d9 b_8) [(.double y9), (.double x9), (.int v9), (.int w9), (.ref b_11), (.ref b_11)]) _
    refine XS.dload X_11.here hx rfl (hb hby at_250) rfl ?_
    show oS pP eE below T_11 (mkF mM 252 (lc43 p1 p2 p3 p4 p5 p6 wd hg ox oy cw ch kd ca cb stp w9 v9 x9 y9 c9 d9 b_8) [(.double c9), (.double y9), (.double x9), (.int v9), (.int w9), (.ref b_11), (.ref b_11)]) _
    refine XS.dload X_11.here hx rfl (hb hby at_252) rfl ?_
    refine XS.iload X_11.here hx rfl (hb hby at_254) rfl ?_
    show oS pP eE below T_11 (mkF mM 256 (lc43 p1 p2 p3 p4 p5 p6 wd hg ox oy cw ch kd ca cb stp w9 v9 x9 y9 c9 d9 b_8) [(.int cb), (.double d9), (.double c9), (.double y9), (.double x9), (.int v9), (.int w9), (.ref b_11), (.ref b_11)]) _
    refine st_12 _ ?_
    show oS pP eE below T_12 (mkF mM 259 (lc43 p1 p2 p3 p4 p5 p6 wd hg ox oy cw ch kd ca cb stp w9 v9 x9 y9 c9 d9 b_8) [(.ref (own_co cb r0 r1 r2)), (.double d9), (.double c9), (.double y9), (.double x9), (.int v9), (.int w9), (.ref b_11), (.ref b_11)]) _
    refine st_13.trans ?_
    show oS pP eE below T_13 (mkF mM 262 (lc43 p1 p2 p3 p4 p5 p6 wd hg ox oy cw ch kd ca cb stp w9 v9 x9 y9 c9 d9 b_8) [(.ref b_11)]) _
    refine XS.astore X_13.here hx rfl (hb hby at_262) rfl rfl (l' := (lc44 p1 p2 p3 p4 p5 p6 wd hg ox oy cw ch kd ca cb stp w9 v9 x9 y9 c9 d9 b_8 b_11)) rfl ?_
    refine XS.iload X_13.here hx rfl (hb hby at_264) rfl ?_
    show oS pP eE below T_13 (mkF mM 266 (lc44 p1 p2 p3 p4 p5 p6 wd hg ox oy cw ch kd ca cb stp w9 v9 x9 y9 c9 d9 b_8 b_11) [(.int kd)]) _
    have jn_14 : ∀ t_, Steps pP.tables eE below (T_13.setTop (mkF mM 274 (lc44 p1 p2 p3 p4 p5 p6 wd hg ox oy cw ch kd ca cb stp w9 v9 x9 y9 c9 d9 b_8 b_11) [(.int ex9)])) t_ → Steps pP.tables eE below (T_13.setTop (mkF mM 266 (lc44 p1 p2 p3 p4 p5 p6 wd hg ox oy cw ch kd ca cb stp w9 v9 x9 y9 c9 d9 b_8 b_11) [(.int kd)])) t_ := by
      intro t_ kt
      by_cases hz : kd = 0
      · have hj : ex9 = (1 : Int32) := h_ex9.trans (if_pos hz)
        rw [hj] at kt
        refine XS.ifNo X_13.here hx rfl (hb hby at_266) rfl (XT.i0_ne_f hz) ?_
        refine XS.iconst X_13.here hx rfl (hb hby at_269) ?_
        refine XS.goto X_13.here hx rfl (pc0 := 270) (pc' := 274) rfl (hb hby at_270) (by decide) (by decide) ?_
        show oS pP eE below T_13 (mkF mM 274 (lc44 p1 p2 p3 p4 p5 p6 wd hg ox oy cw ch kd ca cb stp w9 v9 x9 y9 c9 d9 b_8 b_11) [(.int (1 : Int32))]) _
        exact kt
      · have hj : ex9 = (0 : Int32) := h_ex9.trans (if_neg hz)
        rw [hj] at kt
        refine XS.ifYes X_13.here hx rfl (pc0 := 266) (pc' := 273) rfl (hb hby at_266) rfl (XT.i0_ne_t hz) (by decide) (by decide) ?_
        refine XS.iconst X_13.here hx rfl (hb hby at_273) ?_
        show oS pP eE below T_13 (mkF mM 274 (lc44 p1 p2 p3 p4 p5 p6 wd hg ox oy cw ch kd ca cb stp w9 v9 x9 y9 c9 d9 b_8 b_11) [(.int (0 : Int32))]) _
        exact kt
    refine jn_14 _ ?_
    refine XS.istore X_13.here hx rfl (hb hby at_274) rfl (l' := (lc45 p1 p2 p3 p4 p5 p6 wd hg ox oy cw ch kd ca cb stp w9 v9 x9 y9 c9 d9 b_8 b_11 ex9)) rfl ?_
    refine XS.aload X_13.here hx rfl (hb hby at_276) rfl rfl ?_
    refine XS.aload X_13.here hx rfl (hb hby at_278) rfl rfl ?_
    show oS pP eE below T_13 (mkF mM 280 (lc45 p1 p2 p3 p4 p5 p6 wd hg ox oy cw ch kd ca cb stp w9 v9 x9 y9 c9 d9 b_8 b_11 ex9) [(.ref b_11), (.ref b_8)]) _
    refine st_15.trans ?_
    show oS pP eE below T_15 (mkF mM 283 (lc45 p1 p2 p3 p4 p5 p6 wd hg ox oy cw ch kd ca cb stp w9 v9 x9 y9 c9 d9 b_8 b_11 ex9) [(.int (own_al wd hg ox oy cw ch w9 v9 x9 y9 c9 d9))]) _
    refine XS.iload X_15.here hx rfl (hb hby at_283) rfl ?_
    refine XS.icmpNo X_15.here hx rfl (hb hby at_285) rfl (XT.ii_ne_f hA) ?_
    refine XS.aload X_15.here hx rfl (hb hby at_288) rfl rfl ?_
    refine XS.aload X_15.here hx rfl (hb hby at_290) rfl rfl ?_
    show oS pP eE below T_15 (mkF mM 292 (lc45 p1 p2 p3 p4 p5 p6 wd hg ox oy cw ch kd ca cb stp w9 v9 x9 y9 c9 d9 b_8 b_11 ex9) [(.ref b_8), (.ref b_11)]) _
    refine st_16.trans ?_
    show oS pP eE below T_16 (mkF mM 295 (lc45 p1 p2 p3 p4 p5 p6 wd hg ox oy cw ch kd ca cb stp w9 v9 x9 y9 c9 d9 b_8 b_11 ex9) [(.int (own_al w9 v9 x9 y9 c9 d9 wd hg ox oy cw ch))]) _
    refine XS.iload X_16.here hx rfl (hb hby at_295) rfl ?_
    refine XS.icmpNo X_16.here hx rfl (hb hby at_297) rfl (XT.ii_ne_f hB) ?_
    refine XS.aload X_16.here hx rfl (hb hby at_300) rfl rfl ?_
    refine XS.aload X_16.here hx rfl (hb hby at_302) rfl rfl ?_
    show oS pP eE below T_16 (mkF mM 304 (lc45 p1 p2 p3 p4 p5 p6 wd hg ox oy cw ch kd ca cb stp w9 v9 x9 y9 c9 d9 b_8 b_11 ex9) [(.ref b_8), (.ref b_8)]) _
    refine st_17.trans ?_
    show oS pP eE below T_17 (mkF mM 307 (lc45 p1 p2 p3 p4 p5 p6 wd hg ox oy cw ch kd ca cb stp w9 v9 x9 y9 c9 d9 b_8 b_11 ex9) [(.int (own_al wd hg ox oy cw ch wd hg ox oy cw ch))]) _
    refine XS.ifNo X_17.here hx rfl (hb hby at_307) rfl (XT.i0_eq_f hC) ?_
    refine XS.iconst X_17.here hx rfl (hb hby at_310) ?_
    refine XS.goto X_17.here hx rfl (pc0 := 311) (pc' := 315) rfl (hb hby at_311) (by decide) (by decide) ?_
    show oS pP eE below T_17 (mkF mM 315 (lc45 p1 p2 p3 p4 p5 p6 wd hg ox oy cw ch kd ca cb stp w9 v9 x9 y9 c9 d9 b_8 b_11 ex9) [(.int (1 : Int32))]) _
    exact retN X_17 hx (t := .boolean) Bd.returns (by simp) (hb hby at_315) hr
  · show Q_law Z p1 p2 p3 p4 p5 p6 wd hg ox oy cw ch kd ca cb stp w9 v9 x9 y9 c9 d9 ex9 k2a k3a k4a k5a k2b k3b k4b k5b r0 r1 r2 o1 o2 cs h0 n0 _ T_17.heap _
    exact ⟨rfl, N_17⟩
set_option maxRecDepth 65536 in
set_option maxHeartbeats 40000000 in
theorem comes_1 {Post : Tables → Env → Array Value → State → Outcome → State → Prop} (hpost : ∀ tb e args s v u, (limb_1_1.after args s (.returned v) u = true ∧ limb_1_2.after args s (.returned v) u = true ∧ True) → ReturnedEndW s (.returned v) u (Jvm.fieldLocs frame_1_writes args s ++ Jvm.arrayLocs frame_1_arrays args s ++ Jvm.staticLocs frame_1_statics s) 40 3520 → Post tb e args s (.returned v) u) :
    ArmFor flags0 classFile x code maxLocals ret World_1 tables_1 room_1 Calls_1 rest_1 Pre_1 Post := by
  intro l hfl _ _ p e ha hc hk s m args below hf hA hF happ hP
  obtain ⟨hcalls, hrest, hpre⟩ := hP
  obtain ⟨-, -, -, hnamed, -, -, -, hat⟩ := (Spec.applies_iff hf).mp happ
  obtain ⟨hg, hn⟩ := and_e (Cond.before_iff.mp (show (Jvm.Cond.and given_1 narrow_1).before args s = true from hpre))
  obtain ⟨hg1, hg2⟩ := and_e hg
  obtain ⟨hg3, hg4⟩ := and_e hg2
  obtain ⟨hg5, hg6⟩ := and_e hg4
  obtain ⟨hg7, hg8⟩ := and_e hg6
  obtain ⟨hg9, hg10⟩ := and_e hg8
  obtain ⟨hg11, hg12⟩ := and_e hg10
  obtain ⟨w0, w1, w2, w3, w4, w5, rfl⟩ : ∃ w0 w1 w2 w3 w4 w5 : Value, args = #[w0, w1, w2, w3, w4, w5] := by
    have hs : args.size = 6 := by simpa [Cond.value, given_1] using hg1
    obtain ⟨L⟩ := args
    match L, hs with
    | [w0, w1, w2, w3, w4, w5], _ => exact ⟨w0, w1, w2, w3, w4, w5, rfl⟩
  obtain ⟨i0, ei0⟩ := is_v hg3
  obtain rfl : w0 = (.int i0) := Option.some.inj ei0
  obtain ⟨i1, ei1⟩ := is_v hg5
  obtain rfl : w1 = (.int i1) := Option.some.inj ei1
  obtain ⟨i2, ei2⟩ := is_v hg7
  obtain rfl : w2 = (.int i2) := Option.some.inj ei2
  obtain ⟨i3, ei3⟩ := is_v hg9
  obtain rfl : w3 = (.int i3) := Option.some.inj ei3
  obtain ⟨i4, ei4⟩ := is_v hg11
  obtain rfl : w4 = (.int i4) := Option.some.inj ei4
  obtain ⟨i5, ei5⟩ := is_v hg12
  obtain rfl : w5 = (.int i5) := Option.some.inj ei5
  have hw := fun d (hd : d ∈ tables_1) => atoms_spec (ws := Jvm.Cond.code x code maxLocals ret :: tables_1) hat d (List.mem_cons_of_mem _ hd)
  have hfit : Fit s := fun {y c} hc i hi => by
    obtain ⟨ha, rfl⟩ := Array.getElem?_eq_some_iff.mp hc
    have q := List.all_eq_true.mp ((Array.all_eq_true_iff_forall_mem.mp hF) _ (Array.getElem_mem ha)) i (List.mem_range.mpr hi)
    simpa [Array.getElem?_eq_getElem hi] using q
  obtain ⟨hsets, hown0⟩ := atoms_of _ (rest_1_c_eq ▸ (show rest_1_c.before _ s = true from hrest))
  obtain ⟨hn1, hn2⟩ := and_e hn
  obtain ⟨hn3, hn4⟩ := and_e hn2
  obtain ⟨x_Coordinates_PROJECTED_METRES, ev_x_Coordinates_PROJECTED_METRES⟩ := exa_v hn1
  have E_x_Coordinates_PROJECTED_METRES := Exa.start ev_x_Coordinates_PROJECTED_METRES hn1
  have S_Coordinates_PROJECTED_METRES := Sta.start ev_x_Coordinates_PROJECTED_METRES (Or.inr ⟨(ow hw 10 rfl), (ow hw 11 rfl)⟩)
  obtain ⟨x_Coordinates_OTHER, ev_x_Coordinates_OTHER⟩ := exa_v hn3
  have E_x_Coordinates_OTHER := Exa.start ev_x_Coordinates_OTHER hn3
  have S_Coordinates_OTHER := Sta.start ev_x_Coordinates_OTHER (Or.inr ⟨(ow hw 10 rfl), (ow hw 214 rfl)⟩)
  obtain ⟨x_Coordinates_GEOGRAPHIC, ev_x_Coordinates_GEOGRAPHIC⟩ := exa_v hn4
  have E_x_Coordinates_GEOGRAPHIC := Exa.start ev_x_Coordinates_GEOGRAPHIC hn4
  have S_Coordinates_GEOGRAPHIC := Sta.start ev_x_Coordinates_GEOGRAPHIC (Or.inr ⟨(ow hw 10 rfl), (ow hw 216 rfl)⟩)
  obtain ⟨cs, ecs⟩ := is_v (Cond.before_iff.mp (hsets _ (List.mem_of_getElem? (i := 1) rfl)))
  have S1 := Sta.start ecs (Or.inl (hsets _ (List.mem_of_getElem? (i := 0) rfl)))
  have hcs : ¬ cs = 0 := fun q => by
    have h2 := not_v (Cond.before_iff.mp (hsets _ (List.mem_of_getElem? (i := 2) rfl)))
    have h3 := eq_i ecs (Term.int_eval (0)) (congrArg Value.int q) (o := none) (first := s)
    rw [h3] at h2; cases h2
  have hCH := CHv.start (own_EW hw) (fun q hq => hcalls.1 q hq) (hsets _ (List.mem_of_getElem? (i := 2) rfl)) (ow hw 38 rfl) (ow hw 44 rfl)
  obtain ⟨o1, eo1⟩ := exa_v (Cond.before_iff.mp (hsets _ (List.mem_of_getElem? (i := 12) rfl)))
  have So1 := Sta.start eo1 (Or.inl (hsets _ (List.mem_of_getElem? (i := 11) rfl)))
  have Bo1 := own_tab hfit eo1 (hsets _ (List.mem_of_getElem? (i := 12) rfl)) (hsets _ (List.mem_of_getElem? (i := 13) rfl)) (ow hw 38 rfl)
  obtain ⟨o2, eo2⟩ := exa_v (Cond.before_iff.mp (hsets _ (List.mem_of_getElem? (i := 17) rfl)))
  have So2 := Sta.start eo2 (Or.inl (hsets _ (List.mem_of_getElem? (i := 16) rfl)))
  have Bo2 := own_tab hfit eo2 (hsets _ (List.mem_of_getElem? (i := 17) rfl)) (hsets _ (List.mem_of_getElem? (i := 18) rfl)) (ow hw 38 rfl)
  obtain ⟨wd, h_wd⟩ : ∃ z, ((i0 &&& (32767 : Int32)) + (1 : Int32)) = z := ⟨_, rfl⟩
  obtain ⟨hg, h_hg⟩ : ∃ z, ((i1 &&& (4095 : Int32)) + (1 : Int32)) = z := ⟨_, rfl⟩
  obtain ⟨ox, h_ox⟩ : ∃ z, (FP.i2d i2) = z := ⟨_, rfl⟩
  obtain ⟨oy, h_oy⟩ : ∃ z, (FP.i2d i3) = z := ⟨_, rfl⟩
  obtain ⟨cw, h_cw⟩ : ∃ z, (FP.i2d ((i4 &&& (65535 : Int32)) + (1 : Int32))) = z := ⟨_, rfl⟩
  obtain ⟨ch, h_ch⟩ : ∃ z, (FP.i2d (((XT.ushr i4 (16 : Int32)) &&& (65535 : Int32)) + (1 : Int32))) = z := ⟨_, rfl⟩
  obtain ⟨kd, h_kd⟩ : ∃ z, ((i5 &&& (255 : Int32)) % (7 : Int32)) = z := ⟨_, rfl⟩
  obtain ⟨ca, h_ca⟩ : ∃ z, (((XT.ushr i5 (8 : Int32)) &&& (255 : Int32)) % (3 : Int32)) = z := ⟨_, rfl⟩
  obtain ⟨cb, h_cb⟩ : ∃ z, (((XT.ushr i5 (16 : Int32)) &&& (255 : Int32)) % (3 : Int32)) = z := ⟨_, rfl⟩
  obtain ⟨stp, h_stp⟩ : ∃ z, z = (if ((XT.ushr i5 (24 : Int32)) &&& (1 : Int32)) = 0 then (4602678819172646912 : UInt64) else (13826050856027422720 : UInt64)) := ⟨_, rfl⟩
  obtain ⟨w9, h_w9⟩ : ∃ z, z = (if kd = (1 : Int32) then (wd + (1 : Int32)) else wd) := ⟨_, rfl⟩
  obtain ⟨v9, h_v9⟩ : ∃ z, z = (if kd = (2 : Int32) then (hg + (1 : Int32)) else hg) := ⟨_, rfl⟩
  obtain ⟨x9, h_x9⟩ : ∃ z, z = (if kd = (3 : Int32) then (FP.dadd ox stp) else ox) := ⟨_, rfl⟩
  obtain ⟨y9, h_y9⟩ : ∃ z, z = (if kd = (4 : Int32) then (FP.dadd oy stp) else oy) := ⟨_, rfl⟩
  obtain ⟨c9, h_c9⟩ : ∃ z, z = (if kd = (5 : Int32) then (FP.dadd cw (4607182418800017408 : UInt64)) else cw) := ⟨_, rfl⟩
  obtain ⟨d9, h_d9⟩ : ∃ z, z = (if kd = (6 : Int32) then (FP.dadd ch (4607182418800017408 : UInt64)) else ch) := ⟨_, rfl⟩
  obtain ⟨ex9, h_ex9⟩ : ∃ z, z = (if kd = 0 then (1 : Int32) else (0 : Int32)) := ⟨_, rfl⟩
  have hs2 : stp = (4602678819172646912 : UInt64) ∨ stp = (13826050856027422720 : UInt64) := by
    rw [h_stp]; split
    · exact Or.inl rfl
    · exact Or.inr rfl
  obtain ⟨hG1, hG2, ⟨nn3, nn4, nn5, nn6⟩, hA, hB, hC⟩ := own_law (by rw [← h_wd]; exact own_m1 15 (by decide) (by decide) (by decide)) (by rw [← h_hg]; exact own_m1 12 (by decide) (by decide) (by decide)) (own_m1 (p := i4) (m := (65535 : Int32)) 16 (by decide) (by decide) (by decide)) (own_m1 (p := (XT.ushr i4 (16 : Int32))) (m := (65535 : Int32)) 16 (by decide) (by decide) (by decide)) h_ox h_oy h_cw h_ch h_kd hs2 h_w9 h_v9 h_x9 h_y9 h_c9 h_d9 h_ex9
  obtain ⟨n, o, h1, h2, h3, _, L, rfl, ⟨rfl, N⟩, hq⟩ := rm_law l s _ hw tables_1 i0 i1 i2 i3 i4 i5 wd hg ox oy cw ch kd ca cb stp w9 v9 x9 y9 c9 d9 ex9 _ _ _ _ _ _ _ _ x_Coordinates_PROJECTED_METRES x_Coordinates_GEOGRAPHIC x_Coordinates_OTHER o1 o2 cs s.heap s.heap.size (Nat.le_refl _) h_wd h_hg h_ox h_oy h_cw h_ch h_kd h_ca h_cb h_stp h_w9 h_v9 h_x9 h_y9 h_c9 h_d9 h_ex9 S1 hcs S_Coordinates_PROJECTED_METRES S_Coordinates_GEOGRAPHIC S_Coordinates_OTHER So1 So2 Bo1 Bo2 hG1 hG2 rfl rfl rfl rfl rfl rfl rfl rfl nn3 nn4 nn5 nn6 hA hB hC p e ha hc hk s m _ below hf ((Spec.applies_iff_loose hf).mp happ).1 ⟨rfl, State.Warmed39.refl s, rfl, hCH⟩ trivial
  exact ⟨n, _, h1, h2, h3, hpost _ _ _ _ _ _ ⟨Cond.after_iff.mpr rfl, Cond.after_iff.mpr (eq_i res_at (Term.int_eval (1)) rfl), trivial⟩ ⟨hq.1, hq.2.1, hq.2.2.1, (hq.2.2.2.sift fun y hy => Or.inr (N y hy)).mono (by decide) (by decide)⟩⟩
theorem main_1_1 : Claimed_1_1 := comes_1 fun _ _ _ _ _ _ h hF => ⟨h.1, hF⟩
theorem main_1_2 : Claimed_1_2 := comes_1 fun _ _ _ _ _ _ h hF => ⟨h.2.1, hF⟩
end Jvm.Pilot.@@N@@
namespace Jvm.Pilot.@@N@@
open Jvm Jvm.ClassFile Sem Op Lib Jvm.Free Jvm.Stand Jvm.Pilot.@@N@@.Jvm.D
/-! MADE BY PROGRAM (witnessworld.py) out of the Statement's table words and the real class files: 29 classes; the members and pool entries that the words name. The judged class is class 1, her method 2. -/
namespace start1
open Jvm.ClassFile
def u (s : String) : CpInfo := .utf8 (stringToUtf16 s)
/-- a pool by its gaps: so many unusable entries, then the entry; so many at the end -/
def gap : Nat → List CpInfo → List CpInfo
  | 0, r => r
  | n + 1, r => .unusable :: gap n r
def poolList (es : List (Nat × CpInfo)) (last : Nat) : List CpInfo := es.foldr (fun e r => gap e.1 (e.2 :: r)) (gap last [])
def pool (es : List (Nat × CpInfo)) (last : Nat) : Array CpInfo := ⟨poolList es last⟩
def fileOf (pool : Array CpInfo) (this : Nat) (attrs : Array Attribute := #[]) (ms : Array MethodInfo := #[]) (fl : Nat := 33) (sup : Nat := 0) (ifs : Array Nat := #[]) (fds : Array FieldInfo := #[]) : ClassFile where
  minorVersion := 0
  majorVersion := 65
  constantPool := pool
  accessFlags := fl
  thisClass := this
  superClass := sup
  interfaces := ifs
  fields := fds
  methods := ms
  attributes := attrs
def plain (name : String) (sup : Option ClassId) : Class where
  name := name
  kind := .ordinary
  loader := none
  accessFlags := 33
  super := sup
  interfaces := #[]
  cf := none
  fields := #[]
  methods := #[]
  instanceTypes := #[]
  staticTypes := #[]
  resolved := #[]
  callSites := []
  init := .initialized
  statics := none
  mirror := none

def pool0 : Array CpInfo := pool [(5, u "<init>"), (0, u "()V"), (1, .class_ 10), (1, u "java/lang/Object")] 113

def k0c0 : Code := { maxStack := 0, maxLocals := 1, code := object_method_1_code, exceptionTable := #[], attributes := #[] }
def k0m0 : Method := { name := "<init>", desc := "()V", sig := { parameters := [], returnType := none }, accessFlags := 1, code := some k0c0 }
/-- java/lang/Object -/
def k0 : Class := { plain "java/lang/Object" none with
  accessFlags := 33
  interfaces := #[]
  cf := some (fileOf pool0 8 #[] #[{ accessFlags := 1, nameIndex := 5, descriptorIndex := 6, attributes := #[] }] 33 0 #[] #[])
  fields := #[]
  methods := #[k0m0]
  instanceTypes := #[]
  staticTypes := #[]
  resolved := Array.replicate 124 none
  statics := none }

def pool1 : Array CpInfo := pool [(2, .class_ 4), (1, u "java/lang/Object"), (0, u "<init>"), (0, u "()V"), (0, .fieldref 8 9), (0, .class_ 10), (0, .nameAndType 11 12), (0, u "com/example/greenweft/greenweft/map/Coordinates"), (0, u "PROJECTED_METRES"), (0, u "Lcom/example/greenweft/greenweft/map/Coordinates;"), (0, .fieldref 8 14), (0, .nameAndType 15 12), (0, u "GEOGRAPHIC"), (0, .fieldref 8 17), (0, .nameAndType 18 12), (0, u "OTHER"), (0, .integer 65535), (0, .double 13826050856027422720), (1, .double 4602678819172646912), (1, .class_ 25), (0, u "com/example/greenweft/greenweft/map/Grid"), (0, .methodref 27 28), (0, .class_ 29), (0, .nameAndType 30 31), (0, u "com/example/greenweft/greenweft/map/GridAlignsWithPinLaw"), (0, u "coords"), (0, u "(I)Lcom/example/greenweft/greenweft/map/Coordinates;"), (0, .methodref 24 33), (0, .nameAndType 5 34), (0, u "(IIDDDDLcom/example/greenweft/greenweft/map/Coordinates;)V"), (0, .methodref 24 36), (0, .nameAndType 37 38), (0, u "alignsWith"), (0, u "(Lcom/example/greenweft/greenweft/map/Grid;)Z"), (3, u "law"), (0, u "(IIIIII)Z")] 2

def k1m0 : Method := { name := "<init>", desc := "()V", sig := { parameters := [], returnType := none }, accessFlags := 1, code := none }
def k1c1 : Code := { maxStack := 2, maxLocals := 1, code := method_2_code, exceptionTable := #[], attributes := #[] }
def k1m1 : Method := { name := "coords", desc := "(I)Lcom/example/greenweft/greenweft/map/Coordinates;", sig := { parameters := [.int], returnType := some (.object "com/example/greenweft/greenweft/map/Coordinates") }, accessFlags := 10, code := some k1c1 }
def k1c2 : Code := { maxStack := 13, maxLocals := 34, code := code, exceptionTable := #[], attributes := #[] }
def k1m2 : Method := { name := "law", desc := "(IIIIII)Z", sig := { parameters := [.int, .int, .int, .int, .int, .int], returnType := some .boolean }, accessFlags := 9, code := some k1c2 }
/-- com/example/greenweft/greenweft/map/GridAlignsWithPinLaw -/
def k1 : Class := { plain "com/example/greenweft/greenweft/map/GridAlignsWithPinLaw" (some 0) with
  accessFlags := 49
  interfaces := #[]
  cf := some (fileOf pool1 27 #[] #[{ accessFlags := 1, nameIndex := 5, descriptorIndex := 6, attributes := #[] }, { accessFlags := 10, nameIndex := 30, descriptorIndex := 31, attributes := #[] }, { accessFlags := 9, nameIndex := 42, descriptorIndex := 43, attributes := #[] }] 49 2 #[] #[])
  fields := #[]
  methods := #[k1m0, k1m1, k1m2]
  instanceTypes := #[]
  staticTypes := #[]
  resolved := Array.replicate 46 none
  statics := none }

def pool2 : Array CpInfo := pool [(1, .methodref 2 3), (0, .class_ 4), (0, .nameAndType 5 6), (0, u "java/lang/Object"), (0, u "<init>"), (0, u "()V"), (0, .class_ 8), (0, u "java/lang/Record")] 13

def k2c0 : Code := { maxStack := 1, maxLocals := 1, code := jdk_30_method_1_code, exceptionTable := #[], attributes := #[] }
def k2m0 : Method := { name := "<init>", desc := "()V", sig := { parameters := [], returnType := none }, accessFlags := 4, code := some k2c0 }
/-- java/lang/Record -/
def k2 : Class := { plain "java/lang/Record" (some 0) with
  accessFlags := 1057
  interfaces := #[]
  cf := some (fileOf pool2 7 #[] #[{ accessFlags := 4, nameIndex := 5, descriptorIndex := 6, attributes := #[] }] 1057 2 #[] #[])
  fields := #[]
  methods := #[k2m0]
  instanceTypes := #[]
  staticTypes := #[]
  resolved := Array.replicate 22 none
  statics := none }

def pool3 : Array CpInfo := pool [(1, .methodref 2 3), (0, .class_ 4), (0, .nameAndType 5 6), (0, u "java/lang/Record"), (0, u "<init>"), (0, u "()V"), (0, .class_ 8), (0, u "java/lang/StringBuilder"), (0, .methodref 7 3), (0, .string 11), (0, u "a grid of "), (0, .methodref 7 13), (0, .nameAndType 14 15), (0, u "append"), (0, u "(Ljava/lang/String;)Ljava/lang/StringBuilder;"), (0, .methodref 7 17), (0, .nameAndType 14 18), (0, u "(I)Ljava/lang/StringBuilder;"), (0, .string 20), (0, u " x "), (0, .string 22), (0, u " cells"), (0, .methodref 7 24), (0, .nameAndType 25 26), (0, u "toString"), (0, u "()Ljava/lang/String;"), (9, .long 2147483647), (4, .methodref 42 43), (0, .class_ 44), (0, .nameAndType 45 46), (0, u "java/lang/Double"), (0, u "isFinite"), (0, u "(D)Z"), (13, .fieldref 61 62), (0, .class_ 63), (0, .nameAndType 64 65), (0, u "com/example/greenweft/greenweft/map/Grid"), (0, u "width"), (0, u "I"), (0, .fieldref 61 67), (0, .nameAndType 68 65), (0, u "height"), (0, .fieldref 61 70), (0, .nameAndType 71 72), (0, u "originX"), (0, u "D"), (0, .fieldref 61 74), (0, .nameAndType 75 72), (0, u "originY"), (0, .fieldref 61 77), (0, .nameAndType 78 72), (0, u "cellWidth"), (0, .fieldref 61 80), (0, .nameAndType 81 72), (0, u "cellHeight"), (0, .fieldref 61 83), (0, .nameAndType 84 85), (0, u "coordinates"), (0, u "Lcom/example/greenweft/greenweft/map/Coordinates;"), (40, u "SQUARE_METRES_PER_HECTARE"), (1, u "(IIDDDDLcom/example/greenweft/greenweft/map/Coordinates;)V"), (6, u "alignsWith"), (0, u "(Lcom/example/greenweft/greenweft/map/Grid;)Z")] 37

def k3c0 : Code := { maxStack := 5, maxLocals := 13, code := prog_8_method_1_code, exceptionTable := #[], attributes := #[] }
def k3m0 : Method := { name := "<init>", desc := "(IIDDDDLcom/example/greenweft/greenweft/map/Coordinates;)V", sig := { parameters := [.int, .int, .double, .double, .double, .double, (.object "com/example/greenweft/greenweft/map/Coordinates")], returnType := none }, accessFlags := 1, code := some k3c0 }
def k3c1 : Code := { maxStack := 4, maxLocals := 2, code := prog_8_method_2_code, exceptionTable := #[], attributes := #[] }
def k3m1 : Method := { name := "alignsWith", desc := "(Lcom/example/greenweft/greenweft/map/Grid;)Z", sig := { parameters := [(.object "com/example/greenweft/greenweft/map/Grid")], returnType := some .boolean }, accessFlags := 1, code := some k3c1 }
/-- com/example/greenweft/greenweft/map/Grid -/
def k3 : Class := { plain "com/example/greenweft/greenweft/map/Grid" (some 2) with
  accessFlags := 49
  interfaces := #[]
  cf := some (fileOf pool3 61 #[] #[{ accessFlags := 1, nameIndex := 5, descriptorIndex := 128, attributes := #[] }, { accessFlags := 1, nameIndex := 135, descriptorIndex := 136, attributes := #[] }] 49 2 #[] #[{ accessFlags := 18, nameIndex := 64, descriptorIndex := 65, attributes := #[] }, { accessFlags := 18, nameIndex := 68, descriptorIndex := 65, attributes := #[] }, { accessFlags := 18, nameIndex := 71, descriptorIndex := 72, attributes := #[] }, { accessFlags := 18, nameIndex := 75, descriptorIndex := 72, attributes := #[] }, { accessFlags := 18, nameIndex := 78, descriptorIndex := 72, attributes := #[] }, { accessFlags := 18, nameIndex := 81, descriptorIndex := 72, attributes := #[] }, { accessFlags := 18, nameIndex := 84, descriptorIndex := 85, attributes := #[] }, { accessFlags := 26, nameIndex := 126, descriptorIndex := 72, attributes := #[] }])
  fields := #[{ name := "width", type := .int, accessFlags := 18, slot := 0, constantValue := 0 }, { name := "height", type := .int, accessFlags := 18, slot := 1, constantValue := 0 }, { name := "originX", type := .double, accessFlags := 18, slot := 2, constantValue := 0 }, { name := "originY", type := .double, accessFlags := 18, slot := 3, constantValue := 0 }, { name := "cellWidth", type := .double, accessFlags := 18, slot := 4, constantValue := 0 }, { name := "cellHeight", type := .double, accessFlags := 18, slot := 5, constantValue := 0 }, { name := "coordinates", type := (.object "com/example/greenweft/greenweft/map/Coordinates"), accessFlags := 18, slot := 6, constantValue := 0 }, { name := "SQUARE_METRES_PER_HECTARE", type := .double, accessFlags := 26, slot := 0, constantValue := 0 }]
  methods := #[k3m0, k3m1]
  instanceTypes := #[.int, .int, .double, .double, .double, .double, (.object "com/example/greenweft/greenweft/map/Coordinates")]
  staticTypes := #[.double]
  resolved := Array.replicate 174 none
  statics := none }

def pool4 : Array CpInfo := pool [(1, .class_ 2), (0, u "java/lang/constant/Constable"), (0, .class_ 4), (0, u "java/lang/Object")] 6

/-- java/lang/constant/Constable -/
def k4 : Class := { plain "java/lang/constant/Constable" (some 0) with
  accessFlags := 1537
  interfaces := #[]
  cf := some (fileOf pool4 1 #[] #[] 1537 3 #[] #[])
  fields := #[]
  methods := #[]
  instanceTypes := #[]
  staticTypes := #[]
  resolved := Array.replicate 11 none
  statics := none }

def pool5 : Array CpInfo := pool [(1, .class_ 2), (0, u "java/lang/Comparable"), (0, .class_ 4), (0, u "java/lang/Object")] 7

/-- java/lang/Comparable -/
def k5 : Class := { plain "java/lang/Comparable" (some 0) with
  accessFlags := 1537
  interfaces := #[]
  cf := some (fileOf pool5 1 #[] #[] 1537 3 #[] #[])
  fields := #[]
  methods := #[]
  instanceTypes := #[]
  staticTypes := #[]
  resolved := Array.replicate 12 none
  statics := none }

def pool6 : Array CpInfo := pool [(1, .class_ 2), (0, u "java/io/Serializable"), (0, .class_ 4), (0, u "java/lang/Object")] 2

/-- java/io/Serializable -/
def k6 : Class := { plain "java/io/Serializable" (some 0) with
  accessFlags := 1537
  interfaces := #[]
  cf := some (fileOf pool6 1 #[] #[] 1537 3 #[] #[])
  fields := #[]
  methods := #[]
  instanceTypes := #[]
  staticTypes := #[]
  resolved := Array.replicate 7 none
  statics := none }

def pool7 : Array CpInfo := pool [(2, .class_ 4), (1, u "java/lang/Enum"), (0, u "name"), (0, u "Ljava/lang/String;"), (2, u "ordinal"), (0, u "I"), (1, .class_ 14), (1, u "java/lang/Object"), (4, u "hash"), (86, .class_ 108), (1, u "java/lang/Enum$EnumDesc"), (2, .class_ 112), (0, u "java/lang/constant/Constable"), (0, .class_ 114), (0, u "java/lang/Comparable"), (0, .class_ 116), (0, u "java/io/Serializable")] 87

/-- java/lang/Enum -/
def k7 : Class := { plain "java/lang/Enum" (some 0) with
  accessFlags := 1057
  interfaces := #[4, 5, 6]
  cf := some (fileOf pool7 2 #[.nestMembers #[106]] #[] 1057 12 #[111, 113, 115] #[{ accessFlags := 18, nameIndex := 5, descriptorIndex := 6, attributes := #[] }, { accessFlags := 18, nameIndex := 9, descriptorIndex := 10, attributes := #[] }, { accessFlags := 2, nameIndex := 19, descriptorIndex := 10, attributes := #[] }])
  fields := #[{ name := "name", type := (.object "java/lang/String"), accessFlags := 18, slot := 0, constantValue := 0 }, { name := "ordinal", type := .int, accessFlags := 18, slot := 1, constantValue := 0 }, { name := "hash", type := .int, accessFlags := 2, slot := 2, constantValue := 0 }]
  methods := #[]
  instanceTypes := #[(.object "java/lang/String"), .int, .int]
  staticTypes := #[]
  resolved := Array.replicate 204 none
  statics := none }

def pool8 : Array CpInfo := pool [(1, .class_ 2), (0, u "com/example/greenweft/greenweft/map/Coordinates"), (2, u "PROJECTED_METRES"), (0, u "Lcom/example/greenweft/greenweft/map/Coordinates;"), (2, u "GEOGRAPHIC"), (2, u "OTHER"), (2, u "$VALUES"), (0, u "[Lcom/example/greenweft/greenweft/map/Coordinates;"), (6, .class_ 25), (1, u "java/lang/Enum"), (8, u "description"), (0, u "Ljava/lang/String;")] 29

/-- com/example/greenweft/greenweft/map/Coordinates -/
def k8 : Class := { plain "com/example/greenweft/greenweft/map/Coordinates" (some 7) with
  accessFlags := 16433
  interfaces := #[]
  cf := some (fileOf pool8 1 #[] #[] 16433 23 #[] #[{ accessFlags := 16409, nameIndex := 5, descriptorIndex := 6, attributes := #[] }, { accessFlags := 16409, nameIndex := 9, descriptorIndex := 6, attributes := #[] }, { accessFlags := 16409, nameIndex := 12, descriptorIndex := 6, attributes := #[] }, { accessFlags := 18, nameIndex := 34, descriptorIndex := 35, attributes := #[] }, { accessFlags := 4122, nameIndex := 15, descriptorIndex := 16, attributes := #[] }])
  fields := #[{ name := "PROJECTED_METRES", type := (.object "com/example/greenweft/greenweft/map/Coordinates"), accessFlags := 16409, slot := 0, constantValue := 0 }, { name := "GEOGRAPHIC", type := (.object "com/example/greenweft/greenweft/map/Coordinates"), accessFlags := 16409, slot := 1, constantValue := 0 }, { name := "OTHER", type := (.object "com/example/greenweft/greenweft/map/Coordinates"), accessFlags := 16409, slot := 2, constantValue := 0 }, { name := "description", type := (.object "java/lang/String"), accessFlags := 18, slot := 3, constantValue := 0 }, { name := "$VALUES", type := (.array (.object "com/example/greenweft/greenweft/map/Coordinates")), accessFlags := 4122, slot := 3, constantValue := 0 }]
  methods := #[]
  instanceTypes := #[(.object "java/lang/String"), .int, .int, (.object "java/lang/String")]
  staticTypes := #[(.object "com/example/greenweft/greenweft/map/Coordinates"), (.object "com/example/greenweft/greenweft/map/Coordinates"), (.object "com/example/greenweft/greenweft/map/Coordinates"), (.array (.object "com/example/greenweft/greenweft/map/Coordinates"))]
  resolved := Array.replicate 65 none
  statics := some 0 }

def pool9 : Array CpInfo := pool [(1, .class_ 2), (0, u "java/lang/Appendable"), (0, .class_ 4), (0, u "java/lang/Object")] 9

/-- java/lang/Appendable -/
def k9 : Class := { plain "java/lang/Appendable" (some 0) with
  accessFlags := 1537
  interfaces := #[]
  cf := some (fileOf pool9 1 #[] #[] 1537 3 #[] #[])
  fields := #[]
  methods := #[]
  instanceTypes := #[]
  staticTypes := #[]
  resolved := Array.replicate 14 none
  statics := none }

def pool10 : Array CpInfo := pool [(2, .class_ 4), (1, u "java/lang/CharSequence"), (42, .class_ 48), (0, u "java/lang/CharSequence$1CodePointIterator"), (10, .class_ 60), (0, u "java/lang/CharSequence$1CharIterator"), (5, .class_ 67), (0, u "java/lang/Object")] 63

/-- java/lang/CharSequence -/
def k10 : Class := { plain "java/lang/CharSequence" (some 0) with
  accessFlags := 1537
  interfaces := #[]
  cf := some (fileOf pool10 2 #[.nestMembers #[47, 59]] #[] 1537 66 #[] #[])
  fields := #[]
  methods := #[]
  instanceTypes := #[]
  staticTypes := #[]
  resolved := Array.replicate 131 none
  statics := none }

def pool11 : Array CpInfo := pool [(1, .class_ 2), (0, u "java/lang/String"), (0, .methodref 4 5), (0, .class_ 6), (0, .nameAndType 7 8), (0, u "java/lang/Object"), (0, u "<init>"), (0, u "()V"), (1, .class_ 12), (1, u "java/lang/AbstractStringBuilder"), (0, u "EMPTYVALUE"), (0, u "[B"), (0, .fieldref 10 16), (0, .nameAndType 17 14), (0, u "value"), (0, .fieldref 1 19), (0, .nameAndType 20 21), (0, u "COMPACT_STRINGS"), (0, u "Z"), (0, .fieldref 10 23), (0, .nameAndType 24 25), (0, u "coder"), (0, u "B"), (6, .methodref 1 33), (0, .nameAndType 34 35), (0, u "length"), (0, u "()I"), (0, .class_ 37), (0, u "java/lang/Integer"), (1, .integer 2147483647), (0, .methodref 1 41), (0, .nameAndType 24 42), (0, u "()B"), (2, u "append"), (0, u "(Ljava/lang/String;)Ljava/lang/AbstractStringBuilder;"), (1, .class_ 49), (0, u "java/lang/CharSequence"), (19, u "(Ljava/lang/String;)V"), (5, u "maybeLatin1"), (3, .fieldref 10 80), (0, .nameAndType 81 82), (0, u "count"), (0, u "I"), (0, .methodref 10 84), (0, .nameAndType 85 86), (0, u "isLatin1"), (0, u "()Z"), (13, .methodref 10 101), (0, .nameAndType 102 103), (0, u "ensureCapacityInternal"), (0, u "(I)V"), (0, .methodref 10 105), (0, .nameAndType 106 107), (0, u "newCapacity"), (0, u "(I)I"), (0, .methodref 109 110), (0, .class_ 111), (0, .nameAndType 112 113), (0, u "java/util/Arrays"), (0, u "copyOf"), (0, u "([BI)[B"), (0, .methodref 115 116), (0, .class_ 117), (0, .nameAndType 118 119), (0, u "jdk/internal/util/ArraysSupport"), (0, u "newLength"), (0, u "(III)I"), (68, u "getChars"), (19, .methodref 10 209), (0, .nameAndType 210 211), (0, u "putStringAt"), (0, u "(ILjava/lang/String;)V"), (5, u "inflateIfNeededFor"), (2, .nameAndType 221 222), (0, u "getBytes"), (0, u "([BIB)V"), (22, .methodref 36 246), (0, .nameAndType 247 107), (0, u "stringSize"), (0, .methodref 36 249), (0, .nameAndType 188 250), (0, u "(II[B)I"), (146, .methodref 10 398), (0, .nameAndType 217 69), (0, .methodref 1 220), (3, u "()[B"), (40, .class_ 445), (0, u "java/lang/Appendable"), (65, u "(I)Ljava/lang/AbstractStringBuilder;"), (40, u "getValue")] 56

def k11m0 : Method := { name := "<init>", desc := "()V", sig := { parameters := [], returnType := none }, accessFlags := 0, code := none }
def k11c1 : Code := { maxStack := 2, maxLocals := 2, code := jdk_68_method_2_code, exceptionTable := #[], attributes := #[] }
def k11m1 : Method := { name := "<init>", desc := "(I)V", sig := { parameters := [.int], returnType := none }, accessFlags := 0, code := some k11c1 }
def k11c2 : Code := { maxStack := 1, maxLocals := 1, code := jdk_68_method_6_code, exceptionTable := #[], attributes := #[] }
def k11m2 : Method := { name := "length", desc := "()I", sig := { parameters := [], returnType := some .int }, accessFlags := 1, code := some k11c2 }
def k11c3 : Code := { maxStack := 4, maxLocals := 3, code := jdk_68_method_9_code, exceptionTable := #[], attributes := #[] }
def k11m3 : Method := { name := "ensureCapacityInternal", desc := "(I)V", sig := { parameters := [.int], returnType := none }, accessFlags := 2, code := some k11c3 }
def k11c4 : Code := { maxStack := 5, maxLocals := 6, code := jdk_68_method_10_code, exceptionTable := #[], attributes := #[] }
def k11m4 : Method := { name := "newCapacity", desc := "(I)I", sig := { parameters := [.int], returnType := some .int }, accessFlags := 2, code := some k11c4 }
def k11c5 : Code := { maxStack := 3, maxLocals := 3, code := jdk_68_method_22_code, exceptionTable := #[], attributes := #[] }
def k11m5 : Method := { name := "append", desc := "(Ljava/lang/String;)Ljava/lang/AbstractStringBuilder;", sig := { parameters := [(.object "java/lang/String")], returnType := some (.object "java/lang/AbstractStringBuilder") }, accessFlags := 1, code := some k11c5 }
def k11c6 : Code := { maxStack := 4, maxLocals := 4, code := jdk_68_method_32_code, exceptionTable := #[], attributes := #[] }
def k11m6 : Method := { name := "append", desc := "(I)Ljava/lang/AbstractStringBuilder;", sig := { parameters := [.int], returnType := some (.object "java/lang/AbstractStringBuilder") }, accessFlags := 1, code := some k11c6 }
def k11c7 : Code := { maxStack := 1, maxLocals := 1, code := jdk_68_method_64_code, exceptionTable := #[], attributes := #[] }
def k11m7 : Method := { name := "getValue", desc := "()[B", sig := { parameters := [], returnType := some (.array .byte) }, accessFlags := 16, code := some k11c7 }
def k11c8 : Code := { maxStack := 1, maxLocals := 1, code := jdk_68_method_68_code, exceptionTable := #[], attributes := #[] }
def k11m8 : Method := { name := "isLatin1", desc := "()Z", sig := { parameters := [], returnType := some .boolean }, accessFlags := 16, code := some k11c8 }
def k11c9 : Code := { maxStack := 2, maxLocals := 2, code := jdk_68_method_71_code, exceptionTable := #[], attributes := #[] }
def k11m9 : Method := { name := "inflateIfNeededFor", desc := "(Ljava/lang/String;)V", sig := { parameters := [(.object "java/lang/String")], returnType := none }, accessFlags := 2, code := some k11c9 }
def k11c10 : Code := { maxStack := 4, maxLocals := 3, code := jdk_68_method_73_code, exceptionTable := #[], attributes := #[] }
def k11m10 : Method := { name := "putStringAt", desc := "(ILjava/lang/String;)V", sig := { parameters := [.int, (.object "java/lang/String")], returnType := none }, accessFlags := 2, code := some k11c10 }
/-- java/lang/AbstractStringBuilder -/
def k11 : Class := { plain "java/lang/AbstractStringBuilder" (some 0) with
  accessFlags := 1056
  interfaces := #[9, 10]
  cf := some (fileOf pool11 10 #[] #[{ accessFlags := 0, nameIndex := 7, descriptorIndex := 8, attributes := #[] }, { accessFlags := 0, nameIndex := 7, descriptorIndex := 103, attributes := #[] }, { accessFlags := 1, nameIndex := 34, descriptorIndex := 35, attributes := #[] }, { accessFlags := 2, nameIndex := 102, descriptorIndex := 103, attributes := #[] }, { accessFlags := 2, nameIndex := 106, descriptorIndex := 107, attributes := #[] }, { accessFlags := 1, nameIndex := 45, descriptorIndex := 46, attributes := #[] }, { accessFlags := 1, nameIndex := 45, descriptorIndex := 511, attributes := #[] }, { accessFlags := 16, nameIndex := 552, descriptorIndex := 403, attributes := #[] }, { accessFlags := 16, nameIndex := 85, descriptorIndex := 86, attributes := #[] }, { accessFlags := 2, nameIndex := 217, descriptorIndex := 69, attributes := #[] }, { accessFlags := 2, nameIndex := 210, descriptorIndex := 211, attributes := #[] }] 1056 4 #[444, 48] #[{ accessFlags := 0, nameIndex := 17, descriptorIndex := 14, attributes := #[] }, { accessFlags := 0, nameIndex := 24, descriptorIndex := 25, attributes := #[] }, { accessFlags := 0, nameIndex := 75, descriptorIndex := 21, attributes := #[] }, { accessFlags := 0, nameIndex := 81, descriptorIndex := 82, attributes := #[] }, { accessFlags := 26, nameIndex := 13, descriptorIndex := 14, attributes := #[] }])
  fields := #[{ name := "value", type := (.array .byte), accessFlags := 0, slot := 0, constantValue := 0 }, { name := "coder", type := .byte, accessFlags := 0, slot := 1, constantValue := 0 }, { name := "maybeLatin1", type := .boolean, accessFlags := 0, slot := 2, constantValue := 0 }, { name := "count", type := .int, accessFlags := 0, slot := 3, constantValue := 0 }, { name := "EMPTYVALUE", type := (.array .byte), accessFlags := 26, slot := 0, constantValue := 0 }]
  methods := #[k11m0, k11m1, k11m2, k11m3, k11m4, k11m5, k11m6, k11m7, k11m8, k11m9, k11m10]
  instanceTypes := #[(.array .byte), .byte, .boolean, .int]
  staticTypes := #[(.array .byte)]
  resolved := Array.replicate 609 none
  statics := none }

def pool12 : Array CpInfo := pool [(1, .methodref 2 3), (0, .class_ 4), (0, .nameAndType 5 6), (0, u "java/lang/AbstractStringBuilder"), (0, u "<init>"), (0, u "(I)V"), (11, .class_ 20), (1, u "java/lang/String"), (3, .class_ 26), (1, u "java/lang/StringBuilder"), (0, u "append"), (0, u "(Ljava/lang/String;)Ljava/lang/StringBuilder;"), (0, .methodref 2 30), (0, .nameAndType 27 31), (0, u "(Ljava/lang/String;)Ljava/lang/AbstractStringBuilder;"), (21, .methodref 2 54), (0, .nameAndType 27 55), (0, u "(I)Ljava/lang/AbstractStringBuilder;"), (81, .methodref 18 138), (0, .nameAndType 5 139), (0, u "(Ljava/lang/StringBuilder;)V"), (5, u "()V"), (10, u "()I"), (111, u "(I)Ljava/lang/StringBuilder;"), (74, .methodref 2 344), (0, .nameAndType 345 156), (0, u "length"), (3, .class_ 350), (0, u "java/lang/Appendable"), (0, .class_ 352), (0, u "java/io/Serializable"), (0, .class_ 354), (0, u "java/lang/Comparable"), (0, .class_ 356), (0, u "java/lang/CharSequence"), (0, u "serialVersionUID"), (0, u "J"), (40, u "toString"), (0, u "()Ljava/lang/String;")] 21

def k12c0 : Code := { maxStack := 2, maxLocals := 1, code := jdk_67_method_1_code, exceptionTable := #[], attributes := #[] }
def k12m0 : Method := { name := "<init>", desc := "()V", sig := { parameters := [], returnType := none }, accessFlags := 1, code := some k12c0 }
def k12c1 : Code := { maxStack := 2, maxLocals := 2, code := jdk_67_method_7_code, exceptionTable := #[], attributes := #[] }
def k12m1 : Method := { name := "append", desc := "(Ljava/lang/String;)Ljava/lang/StringBuilder;", sig := { parameters := [(.object "java/lang/String")], returnType := some (.object "java/lang/StringBuilder") }, accessFlags := 1, code := some k12c1 }
def k12c2 : Code := { maxStack := 2, maxLocals := 2, code := jdk_67_method_15_code, exceptionTable := #[], attributes := #[] }
def k12m2 : Method := { name := "append", desc := "(I)Ljava/lang/StringBuilder;", sig := { parameters := [.int], returnType := some (.object "java/lang/StringBuilder") }, accessFlags := 1, code := some k12c2 }
def k12c3 : Code := { maxStack := 3, maxLocals := 1, code := jdk_67_method_42_code, exceptionTable := #[], attributes := #[] }
def k12m3 : Method := { name := "toString", desc := "()Ljava/lang/String;", sig := { parameters := [], returnType := some (.object "java/lang/String") }, accessFlags := 1, code := some k12c3 }
def k12c4 : Code := { maxStack := 1, maxLocals := 1, code := jdk_67_method_93_code, exceptionTable := #[], attributes := #[] }
def k12m4 : Method := { name := "length", desc := "()I", sig := { parameters := [], returnType := some .int }, accessFlags := 4161, code := some k12c4 }
/-- java/lang/StringBuilder -/
def k12 : Class := { plain "java/lang/StringBuilder" (some 11) with
  accessFlags := 49
  interfaces := #[9, 6, 5, 10]
  cf := some (fileOf pool12 24 #[] #[{ accessFlags := 1, nameIndex := 5, descriptorIndex := 145, attributes := #[] }, { accessFlags := 1, nameIndex := 27, descriptorIndex := 28, attributes := #[] }, { accessFlags := 1, nameIndex := 27, descriptorIndex := 268, attributes := #[] }, { accessFlags := 1, nameIndex := 399, descriptorIndex := 400, attributes := #[] }, { accessFlags := 4161, nameIndex := 345, descriptorIndex := 156, attributes := #[] }] 49 2 #[349, 351, 353, 355] #[{ accessFlags := 24, nameIndex := 357, descriptorIndex := 358, attributes := #[] }])
  fields := #[{ name := "serialVersionUID", type := .long, accessFlags := 24, slot := 0, constantValue := 0 }]
  methods := #[k12m0, k12m1, k12m2, k12m3, k12m4]
  instanceTypes := #[(.array .byte), .byte, .boolean, .int]
  staticTypes := #[.long]
  resolved := Array.replicate 422 none
  statics := none }

def pool13 : Array CpInfo := pool [(1, .class_ 2), (0, u "java/lang/constant/ConstantDesc"), (0, .class_ 4), (0, u "java/lang/Object")] 32

/-- java/lang/constant/ConstantDesc -/
def k13 : Class := { plain "java/lang/constant/ConstantDesc" (some 0) with
  accessFlags := 1537
  interfaces := #[]
  cf := some (fileOf pool13 1 #[] #[] 1537 3 #[] #[])
  fields := #[]
  methods := #[]
  instanceTypes := #[]
  staticTypes := #[]
  resolved := Array.replicate 37 none
  statics := none }

def pool14 : Array CpInfo := pool [(1, .methodref 2 3), (0, .class_ 4), (0, .nameAndType 5 6), (0, u "java/lang/Object"), (0, u "<init>"), (0, u "()V"), (2, .fieldref 10 11), (0, .class_ 12), (0, .nameAndType 13 14), (0, u "java/lang/String"), (0, u "value"), (0, u "[B"), (0, .fieldref 10 16), (0, .nameAndType 17 18), (0, u "coder"), (0, u "B"), (2, u "hash"), (0, u "I"), (2, u "hashIsZero"), (0, u "Z"), (11, .fieldref 10 39), (0, .nameAndType 40 26), (0, u "COMPACT_STRINGS"), (13, .methodref 55 56), (0, .class_ 57), (0, .nameAndType 58 59), (0, u "java/util/Arrays"), (0, u "copyOfRange"), (0, u "([BII)[B"), (82, u "()Z"), (50, .class_ 195), (1, u "java/lang/System"), (16, .methodref 193 213), (0, .nameAndType 214 215), (0, u "arraycopy"), (0, u "(Ljava/lang/Object;ILjava/lang/Object;II)V"), (118, u "()I"), (0, .methodref 10 336), (0, .nameAndType 17 337), (0, u "()B"), (2, u "()[B"), (148, .methodref 10 490), (0, .nameAndType 5 491), (0, u "(Ljava/lang/AbstractStringBuilder;Ljava/lang/Void;)V"), (1, .nameAndType 494 142), (0, u "isLatin1"), (11, .nameAndType 507 334), (0, u "length"), (24, u "getBytes"), (16, .methodref 550 506), (0, .class_ 551), (0, u "java/lang/AbstractStringBuilder"), (0, .methodref 550 553), (0, .nameAndType 554 340), (0, u "getValue"), (20, .class_ 576), (0, u "java/lang/CharSequence"), (22, u "CASE_INSENSITIVE_ORDER"), (0, u "Ljava/util/Comparator;"), (220, u "([BIB)V"), (225, .methodref 550 493), (53, u "serialPersistentFields"), (0, u "[Ljava/io/ObjectStreamField;"), (0, .class_ 1104), (0, u "java/lang/String$CaseInsensitiveComparator"), (1, .class_ 1107), (0, u "java/io/Serializable"), (0, .class_ 1109), (0, u "java/lang/Comparable"), (0, .class_ 1111), (0, u "java/lang/constant/Constable"), (0, .class_ 1113), (0, u "java/lang/constant/ConstantDesc"), (2, u "serialVersionUID"), (0, u "J"), (3, u "REPL"), (0, u "C"), (2, u "LATIN1"), (1, u "UTF16"), (105, u "(Ljava/lang/StringBuilder;)V")] 217

def k14m0 : Method := { name := "<init>", desc := "()V", sig := { parameters := [], returnType := none }, accessFlags := 1, code := none }
def k14c1 : Code := { maxStack := 3, maxLocals := 2, code := jdk_42_method_53_code, exceptionTable := #[], attributes := #[] }
def k14m1 : Method := { name := "<init>", desc := "(Ljava/lang/StringBuilder;)V", sig := { parameters := [(.object "java/lang/StringBuilder")], returnType := none }, accessFlags := 1, code := some k14c1 }
def k14c2 : Code := { maxStack := 2, maxLocals := 1, code := jdk_42_method_54_code, exceptionTable := #[], attributes := #[] }
def k14m2 : Method := { name := "length", desc := "()I", sig := { parameters := [], returnType := some .int }, accessFlags := 1, code := some k14c2 }
def k14c3 : Code := { maxStack := 5, maxLocals := 4, code := jdk_42_method_147_code, exceptionTable := #[], attributes := #[] }
def k14m3 : Method := { name := "getBytes", desc := "([BIB)V", sig := { parameters := [(.array .byte), .int, .byte], returnType := none }, accessFlags := 0, code := some k14c3 }
def k14c4 : Code := { maxStack := 5, maxLocals := 5, code := jdk_42_method_150_code, exceptionTable := #[], attributes := #[] }
def k14m4 : Method := { name := "<init>", desc := "(Ljava/lang/AbstractStringBuilder;Ljava/lang/Void;)V", sig := { parameters := [(.object "java/lang/AbstractStringBuilder"), (.object "java/lang/Void")], returnType := none }, accessFlags := 0, code := some k14c4 }
def k14c5 : Code := { maxStack := 1, maxLocals := 1, code := jdk_42_method_152_code, exceptionTable := #[], attributes := #[] }
def k14m5 : Method := { name := "coder", desc := "()B", sig := { parameters := [], returnType := some .byte }, accessFlags := 0, code := some k14c5 }
/-- java/lang/String -/
def k14 : Class := { plain "java/lang/String" (some 0) with
  accessFlags := 49
  interfaces := #[6, 5, 10, 4, 13]
  cf := some (fileOf pool14 10 #[.nestMembers #[1103]] #[{ accessFlags := 1, nameIndex := 5, descriptorIndex := 6, attributes := #[] }, { accessFlags := 1, nameIndex := 5, descriptorIndex := 1233, attributes := #[] }, { accessFlags := 1, nameIndex := 507, descriptorIndex := 334, attributes := #[] }, { accessFlags := 0, nameIndex := 532, descriptorIndex := 821, attributes := #[] }, { accessFlags := 0, nameIndex := 5, descriptorIndex := 491, attributes := #[] }, { accessFlags := 0, nameIndex := 17, descriptorIndex := 337, attributes := #[] }] 49 2 #[1106, 1108, 575, 1110, 1112] #[{ accessFlags := 18, nameIndex := 13, descriptorIndex := 14, attributes := #[] }, { accessFlags := 18, nameIndex := 17, descriptorIndex := 18, attributes := #[] }, { accessFlags := 2, nameIndex := 21, descriptorIndex := 22, attributes := #[] }, { accessFlags := 2, nameIndex := 25, descriptorIndex := 26, attributes := #[] }, { accessFlags := 26, nameIndex := 1116, descriptorIndex := 1117, attributes := #[] }, { accessFlags := 24, nameIndex := 40, descriptorIndex := 26, attributes := #[] }, { accessFlags := 26, nameIndex := 1101, descriptorIndex := 1102, attributes := #[] }, { accessFlags := 26, nameIndex := 1121, descriptorIndex := 1122, attributes := #[] }, { accessFlags := 25, nameIndex := 599, descriptorIndex := 600, attributes := #[] }, { accessFlags := 24, nameIndex := 1125, descriptorIndex := 18, attributes := #[] }, { accessFlags := 24, nameIndex := 1127, descriptorIndex := 18, attributes := #[] }])
  fields := #[{ name := "value", type := (.array .byte), accessFlags := 18, slot := 0, constantValue := 0 }, { name := "coder", type := .byte, accessFlags := 18, slot := 1, constantValue := 0 }, { name := "hash", type := .int, accessFlags := 2, slot := 2, constantValue := 0 }, { name := "hashIsZero", type := .boolean, accessFlags := 2, slot := 3, constantValue := 0 }, { name := "serialVersionUID", type := .long, accessFlags := 26, slot := 0, constantValue := 0 }, { name := "COMPACT_STRINGS", type := .boolean, accessFlags := 24, slot := 1, constantValue := 0 }, { name := "serialPersistentFields", type := (.array (.object "java/io/ObjectStreamField")), accessFlags := 26, slot := 2, constantValue := 0 }, { name := "REPL", type := .char, accessFlags := 26, slot := 3, constantValue := 0 }, { name := "CASE_INSENSITIVE_ORDER", type := (.object "java/util/Comparator"), accessFlags := 25, slot := 4, constantValue := 0 }, { name := "LATIN1", type := .byte, accessFlags := 24, slot := 5, constantValue := 0 }, { name := "UTF16", type := .byte, accessFlags := 24, slot := 6, constantValue := 0 }]
  methods := #[k14m0, k14m1, k14m2, k14m3, k14m4, k14m5]
  instanceTypes := #[(.array .byte), .byte, .int, .boolean]
  staticTypes := #[.long, .boolean, (.array (.object "java/io/ObjectStreamField")), .char, (.object "java/util/Comparator"), .byte, .byte]
  resolved := Array.replicate 1451 none
  statics := some 1 }

def pool15 : Array CpInfo := pool [(2, .class_ 4), (1, u "java/lang/Object"), (0, u "<init>"), (0, u "()V"), (1, .class_ 10), (1, u "java/lang/System"), (0, u "allowSecurityManager"), (0, u "I"), (16, u "cons"), (0, u "Ljava/io/Console;"), (77, .class_ 110), (1, u "java/lang/System$CallersHolder"), (43, u "initialErrStream"), (0, u "Ljava/io/PrintStream;"), (19, u "security"), (0, u "Ljava/lang/SecurityManager;"), (31, .class_ 209), (0, u "java/lang/System$1"), (7, u "props"), (0, u "Ljava/util/Properties;"), (2, u "lineSeparator"), (0, u "Ljava/lang/String;"), (96, .class_ 321), (1, u "java/lang/System$LoggerFinder"), (5, .class_ 328), (0, u "java/lang/System$Logger"), (67, u "err"), (2, u "out"), (91, u "notSupportedJnuEncoding"), (15, u "in"), (17, u "initialIn"), (0, u "Ljava/io/InputStream;"), (35, u "bootLayer"), (0, u "Ljava/lang/ModuleLayer;"), (99, .class_ 664), (0, u "java/lang/System$2"), (9, u "NEVER"), (2, u "MAYBE"), (49, u "arraycopy"), (0, u "(Ljava/lang/Object;ILjava/lang/Object;II)V"), (72, .class_ 802), (0, u "java/lang/System$Logger$Level")] 31

def k15m0 : Method := { name := "<init>", desc := "()V", sig := { parameters := [], returnType := none }, accessFlags := 2, code := none }
def k15m1 : Method := { name := "arraycopy", desc := "(Ljava/lang/Object;ILjava/lang/Object;II)V", sig := { parameters := [(.object "java/lang/Object"), .int, (.object "java/lang/Object"), .int, .int], returnType := none }, accessFlags := 265, code := none }
/-- java/lang/System -/
def k15 : Class := { plain "java/lang/System" (some 0) with
  accessFlags := 49
  interfaces := #[]
  cf := some (fileOf pool15 8 #[.nestMembers #[319, 327, 801, 108, 663, 208]] #[{ accessFlags := 2, nameIndex := 5, descriptorIndex := 6, attributes := #[] }, { accessFlags := 265, nameIndex := 727, descriptorIndex := 728, attributes := #[] }] 49 2 #[] #[{ accessFlags := 25, nameIndex := 507, descriptorIndex := 526, attributes := #[] }, { accessFlags := 25, nameIndex := 399, descriptorIndex := 155, attributes := #[] }, { accessFlags := 25, nameIndex := 396, descriptorIndex := 155, attributes := #[] }, { accessFlags := 10, nameIndex := 525, descriptorIndex := 526, attributes := #[] }, { accessFlags := 26, nameIndex := 674, descriptorIndex := 12, attributes := #[] }, { accessFlags := 26, nameIndex := 677, descriptorIndex := 12, attributes := #[] }, { accessFlags := 10, nameIndex := 11, descriptorIndex := 12, attributes := #[] }, { accessFlags := 74, nameIndex := 175, descriptorIndex := 176, attributes := #[] }, { accessFlags := 10, nameIndex := 491, descriptorIndex := 222, attributes := #[] }, { accessFlags := 74, nameIndex := 29, descriptorIndex := 30, attributes := #[] }, { accessFlags := 74, nameIndex := 154, descriptorIndex := 155, attributes := #[] }, { accessFlags := 10, nameIndex := 217, descriptorIndex := 218, attributes := #[] }, { accessFlags := 10, nameIndex := 221, descriptorIndex := 222, attributes := #[] }, { accessFlags := 8, nameIndex := 562, descriptorIndex := 563, attributes := #[] }])
  fields := #[{ name := "in", type := (.object "java/io/InputStream"), accessFlags := 25, slot := 0, constantValue := 0 }, { name := "out", type := (.object "java/io/PrintStream"), accessFlags := 25, slot := 1, constantValue := 0 }, { name := "err", type := (.object "java/io/PrintStream"), accessFlags := 25, slot := 2, constantValue := 0 }, { name := "initialIn", type := (.object "java/io/InputStream"), accessFlags := 10, slot := 3, constantValue := 0 }, { name := "NEVER", type := .int, accessFlags := 26, slot := 4, constantValue := 0 }, { name := "MAYBE", type := .int, accessFlags := 26, slot := 5, constantValue := 0 }, { name := "allowSecurityManager", type := .int, accessFlags := 10, slot := 6, constantValue := 0 }, { name := "security", type := (.object "java/lang/SecurityManager"), accessFlags := 74, slot := 7, constantValue := 0 }, { name := "notSupportedJnuEncoding", type := (.object "java/lang/String"), accessFlags := 10, slot := 8, constantValue := 0 }, { name := "cons", type := (.object "java/io/Console"), accessFlags := 74, slot := 9, constantValue := 0 }, { name := "initialErrStream", type := (.object "java/io/PrintStream"), accessFlags := 74, slot := 10, constantValue := 0 }, { name := "props", type := (.object "java/util/Properties"), accessFlags := 10, slot := 11, constantValue := 0 }, { name := "lineSeparator", type := (.object "java/lang/String"), accessFlags := 10, slot := 12, constantValue := 0 }, { name := "bootLayer", type := (.object "java/lang/ModuleLayer"), accessFlags := 8, slot := 13, constantValue := 0 }]
  methods := #[k15m0, k15m1]
  instanceTypes := #[]
  staticTypes := #[(.object "java/io/InputStream"), (.object "java/io/PrintStream"), (.object "java/io/PrintStream"), (.object "java/io/InputStream"), .int, .int, .int, (.object "java/lang/SecurityManager"), (.object "java/lang/String"), (.object "java/io/Console"), (.object "java/io/PrintStream"), (.object "java/util/Properties"), (.object "java/lang/String"), (.object "java/lang/ModuleLayer")]
  resolved := Array.replicate 834 none
  statics := none }

def pool16 : Array CpInfo := pool [(2, .class_ 4), (1, u "java/lang/Object"), (0, u "<init>"), (0, u "()V"), (1, .class_ 10), (1, u "java/lang/Number"), (2, .class_ 14), (0, u "java/io/Serializable"), (0, u "serialVersionUID"), (0, u "J")] 20

def k16m0 : Method := { name := "<init>", desc := "()V", sig := { parameters := [], returnType := none }, accessFlags := 1, code := none }
/-- java/lang/Number -/
def k16 : Class := { plain "java/lang/Number" (some 0) with
  accessFlags := 1057
  interfaces := #[6]
  cf := some (fileOf pool16 8 #[] #[{ accessFlags := 1, nameIndex := 5, descriptorIndex := 6, attributes := #[] }] 1057 2 #[13] #[{ accessFlags := 26, nameIndex := 15, descriptorIndex := 16, attributes := #[] }])
  fields := #[{ name := "serialVersionUID", type := .long, accessFlags := 26, slot := 0, constantValue := 0 }]
  methods := #[k16m0]
  instanceTypes := #[]
  staticTypes := #[.long]
  resolved := Array.replicate 37 none
  statics := none }

def pool17 : Array CpInfo := pool [(1, .class_ 2), (0, u "java/lang/Integer"), (16, u "digits"), (0, u "[C"), (33, u "(I)I"), (19, u "stringSize"), (2, u "getChars"), (0, u "(II[B)I"), (4, .fieldref 1 84), (0, .nameAndType 85 86), (0, u "DigitOnes"), (0, u "[B"), (0, .fieldref 1 88), (0, .nameAndType 89 86), (0, u "DigitTens"), (99, .class_ 190), (0, u "java/lang/Integer$IntegerCache"), (3, u "I"), (8, .class_ 204), (0, u "java/lang/Number"), (2, u "value"), (94, u "TYPE"), (0, u "Ljava/lang/Class;"), (0, .class_ 305), (0, u "java/lang/Comparable"), (0, .class_ 307), (0, u "java/lang/constant/Constable"), (0, .class_ 309), (0, u "java/lang/constant/ConstantDesc"), (0, u "MIN_VALUE"), (1, u "MAX_VALUE"), (3, u "SIZE"), (1, u "BYTES"), (1, u "serialVersionUID"), (0, u "J")] 131

def k17c0 : Code := { maxStack := 4, maxLocals := 7, code := jdk_33_method_12_code, exceptionTable := #[], attributes := #[] }
def k17m0 : Method := { name := "getChars", desc := "(II[B)I", sig := { parameters := [.int, .int, (.array .byte)], returnType := some .int }, accessFlags := 8, code := some k17c0 }
def k17c1 : Code := { maxStack := 2, maxLocals := 4, code := jdk_33_method_13_code, exceptionTable := #[], attributes := #[] }
def k17m1 : Method := { name := "stringSize", desc := "(I)I", sig := { parameters := [.int], returnType := some .int }, accessFlags := 8, code := some k17c1 }
/-- java/lang/Integer -/
def k17 : Class := { plain "java/lang/Integer" (some 16) with
  accessFlags := 49
  interfaces := #[5, 4, 13]
  cf := some (fileOf pool17 1 #[.nestMembers #[189]] #[{ accessFlags := 8, nameIndex := 77, descriptorIndex := 78, attributes := #[] }, { accessFlags := 8, nameIndex := 74, descriptorIndex := 54, attributes := #[] }] 49 203 #[304, 306, 308] #[{ accessFlags := 25, nameIndex := 310, descriptorIndex := 194, attributes := #[] }, { accessFlags := 25, nameIndex := 312, descriptorIndex := 194, attributes := #[] }, { accessFlags := 25, nameIndex := 302, descriptorIndex := 303, attributes := #[] }, { accessFlags := 24, nameIndex := 19, descriptorIndex := 20, attributes := #[] }, { accessFlags := 24, nameIndex := 89, descriptorIndex := 86, attributes := #[] }, { accessFlags := 24, nameIndex := 85, descriptorIndex := 86, attributes := #[] }, { accessFlags := 18, nameIndex := 207, descriptorIndex := 194, attributes := #[] }, { accessFlags := 25, nameIndex := 316, descriptorIndex := 194, attributes := #[] }, { accessFlags := 25, nameIndex := 318, descriptorIndex := 194, attributes := #[] }, { accessFlags := 26, nameIndex := 320, descriptorIndex := 321, attributes := #[] }])
  fields := #[{ name := "MIN_VALUE", type := .int, accessFlags := 25, slot := 0, constantValue := 0 }, { name := "MAX_VALUE", type := .int, accessFlags := 25, slot := 1, constantValue := 0 }, { name := "TYPE", type := (.object "java/lang/Class"), accessFlags := 25, slot := 2, constantValue := 0 }, { name := "digits", type := (.array .char), accessFlags := 24, slot := 3, constantValue := 0 }, { name := "DigitTens", type := (.array .byte), accessFlags := 24, slot := 4, constantValue := 0 }, { name := "DigitOnes", type := (.array .byte), accessFlags := 24, slot := 5, constantValue := 0 }, { name := "value", type := .int, accessFlags := 18, slot := 0, constantValue := 0 }, { name := "SIZE", type := .int, accessFlags := 25, slot := 6, constantValue := 0 }, { name := "BYTES", type := .int, accessFlags := 25, slot := 7, constantValue := 0 }, { name := "serialVersionUID", type := .long, accessFlags := 26, slot := 8, constantValue := 0 }]
  methods := #[k17m0, k17m1]
  instanceTypes := #[.int]
  staticTypes := #[.int, .int, (.object "java/lang/Class"), (.array .char), (.array .byte), (.array .byte), .int, .int, .long]
  resolved := Array.replicate 453 none
  statics := some 2 }

def pool18 : Array CpInfo := pool [(9, u "<init>"), (6, .class_ 18), (1, u "java/lang/Object"), (0, u "()V"), (1, .class_ 23), (1, u "jdk/internal/util/ArraysSupport"), (0, u "LOG2_ARRAY_LONG_INDEX_SCALE"), (0, u "I"), (2, u "U"), (0, u "Ljdk/internal/misc/Unsafe;"), (8, u "BIG_ENDIAN"), (0, u "Z"), (8, u "LOG2_BYTE_BIT_SIZE"), (4, u "LOG2_ARRAY_INT_INDEX_SCALE"), (54, u "JLA"), (0, u "Ljdk/internal/access/JavaLangAccess;"), (11, u "LOG2_ARRAY_BOOLEAN_INDEX_SCALE"), (9, u "LOG2_ARRAY_BYTE_INDEX_SCALE"), (5, u "LOG2_ARRAY_CHAR_INDEX_SCALE"), (5, u "LOG2_ARRAY_SHORT_INDEX_SCALE"), (18, u "LOG2_ARRAY_FLOAT_INDEX_SCALE"), (24, u "LOG2_ARRAY_DOUBLE_INDEX_SCALE"), (6, .methodref 195 196), (0, .class_ 197), (0, .nameAndType 198 199), (0, u "java/lang/Math"), (0, u "max"), (0, u "(II)I"), (0, .integer 2147483639), (76, u "T_BOOLEAN"), (2, u "T_CHAR"), (1, u "T_FLOAT"), (1, u "T_DOUBLE"), (1, u "T_BYTE"), (1, u "T_SHORT"), (1, u "T_INT"), (1, u "T_LONG"), (1, u "SOFT_MAX_ARRAY_LENGTH"), (56, u "newLength"), (0, u "(III)I")] 25

def k18m0 : Method := { name := "<init>", desc := "()V", sig := { parameters := [], returnType := none }, accessFlags := 2, code := none }
def k18c1 : Code := { maxStack := 3, maxLocals := 4, code := jdk_48_method_27_code, exceptionTable := #[], attributes := #[] }
def k18m1 : Method := { name := "newLength", desc := "(III)I", sig := { parameters := [.int, .int, .int], returnType := some .int }, accessFlags := 9, code := some k18c1 }
/-- jdk/internal/util/ArraysSupport -/
def k18 : Class := { plain "jdk/internal/util/ArraysSupport" (some 0) with
  accessFlags := 33
  interfaces := #[]
  cf := some (fileOf pool18 21 #[] #[{ accessFlags := 2, nameIndex := 9, descriptorIndex := 19, attributes := #[] }, { accessFlags := 9, nameIndex := 351, descriptorIndex := 352, attributes := #[] }] 33 16 #[] #[{ accessFlags := 24, nameIndex := 28, descriptorIndex := 29, attributes := #[] }, { accessFlags := 26, nameIndex := 38, descriptorIndex := 39, attributes := #[] }, { accessFlags := 25, nameIndex := 121, descriptorIndex := 25, attributes := #[] }, { accessFlags := 25, nameIndex := 131, descriptorIndex := 25, attributes := #[] }, { accessFlags := 25, nameIndex := 137, descriptorIndex := 25, attributes := #[] }, { accessFlags := 25, nameIndex := 143, descriptorIndex := 25, attributes := #[] }, { accessFlags := 25, nameIndex := 53, descriptorIndex := 25, attributes := #[] }, { accessFlags := 25, nameIndex := 24, descriptorIndex := 25, attributes := #[] }, { accessFlags := 25, nameIndex := 162, descriptorIndex := 25, attributes := #[] }, { accessFlags := 25, nameIndex := 187, descriptorIndex := 25, attributes := #[] }, { accessFlags := 26, nameIndex := 48, descriptorIndex := 25, attributes := #[] }, { accessFlags := 25, nameIndex := 277, descriptorIndex := 25, attributes := #[] }, { accessFlags := 25, nameIndex := 280, descriptorIndex := 25, attributes := #[] }, { accessFlags := 25, nameIndex := 282, descriptorIndex := 25, attributes := #[] }, { accessFlags := 25, nameIndex := 284, descriptorIndex := 25, attributes := #[] }, { accessFlags := 25, nameIndex := 286, descriptorIndex := 25, attributes := #[] }, { accessFlags := 25, nameIndex := 288, descriptorIndex := 25, attributes := #[] }, { accessFlags := 25, nameIndex := 290, descriptorIndex := 25, attributes := #[] }, { accessFlags := 25, nameIndex := 292, descriptorIndex := 25, attributes := #[] }, { accessFlags := 26, nameIndex := 108, descriptorIndex := 109, attributes := #[] }, { accessFlags := 25, nameIndex := 294, descriptorIndex := 25, attributes := #[] }])
  fields := #[{ name := "U", type := (.object "jdk/internal/misc/Unsafe"), accessFlags := 24, slot := 0, constantValue := 0 }, { name := "BIG_ENDIAN", type := .boolean, accessFlags := 26, slot := 1, constantValue := 0 }, { name := "LOG2_ARRAY_BOOLEAN_INDEX_SCALE", type := .int, accessFlags := 25, slot := 2, constantValue := 0 }, { name := "LOG2_ARRAY_BYTE_INDEX_SCALE", type := .int, accessFlags := 25, slot := 3, constantValue := 0 }, { name := "LOG2_ARRAY_CHAR_INDEX_SCALE", type := .int, accessFlags := 25, slot := 4, constantValue := 0 }, { name := "LOG2_ARRAY_SHORT_INDEX_SCALE", type := .int, accessFlags := 25, slot := 5, constantValue := 0 }, { name := "LOG2_ARRAY_INT_INDEX_SCALE", type := .int, accessFlags := 25, slot := 6, constantValue := 0 }, { name := "LOG2_ARRAY_LONG_INDEX_SCALE", type := .int, accessFlags := 25, slot := 7, constantValue := 0 }, { name := "LOG2_ARRAY_FLOAT_INDEX_SCALE", type := .int, accessFlags := 25, slot := 8, constantValue := 0 }, { name := "LOG2_ARRAY_DOUBLE_INDEX_SCALE", type := .int, accessFlags := 25, slot := 9, constantValue := 0 }, { name := "LOG2_BYTE_BIT_SIZE", type := .int, accessFlags := 26, slot := 10, constantValue := 0 }, { name := "T_BOOLEAN", type := .int, accessFlags := 25, slot := 11, constantValue := 0 }, { name := "T_CHAR", type := .int, accessFlags := 25, slot := 12, constantValue := 0 }, { name := "T_FLOAT", type := .int, accessFlags := 25, slot := 13, constantValue := 0 }, { name := "T_DOUBLE", type := .int, accessFlags := 25, slot := 14, constantValue := 0 }, { name := "T_BYTE", type := .int, accessFlags := 25, slot := 15, constantValue := 0 }, { name := "T_SHORT", type := .int, accessFlags := 25, slot := 16, constantValue := 0 }, { name := "T_INT", type := .int, accessFlags := 25, slot := 17, constantValue := 0 }, { name := "T_LONG", type := .int, accessFlags := 25, slot := 18, constantValue := 0 }, { name := "JLA", type := (.object "jdk/internal/access/JavaLangAccess"), accessFlags := 26, slot := 19, constantValue := 0 }, { name := "SOFT_MAX_ARRAY_LENGTH", type := .int, accessFlags := 25, slot := 20, constantValue := 0 }]
  methods := #[k18m0, k18m1]
  instanceTypes := #[]
  staticTypes := #[(.object "jdk/internal/misc/Unsafe"), .boolean, .int, .int, .int, .int, .int, .int, .int, .int, .int, .int, .int, .int, .int, .int, .int, .int, .int, (.object "jdk/internal/access/JavaLangAccess"), .int]
  resolved := Array.replicate 378 none
  statics := none }

def pool19 : Array CpInfo := pool [(1, .class_ 2), (0, u "java/lang/Math"), (1, .class_ 6), (1, u "java/lang/Object"), (0, u "<init>"), (0, u "()V"), (5, u "(D)D"), (83, .class_ 100), (1, u "java/lang/Math$RandomNumberGeneratorHolder"), (23, u "abs"), (47, u "negativeZeroFloatBits"), (0, u "J"), (2, u "negativeZeroDoubleBits"), (21, u "max"), (2, u "min"), (43, u "$assertionsDisabled"), (0, u "Z"), (88, u "(II)I"), (2, u "twoToTheDoubleScaleDown"), (0, u "D"), (4, u "twoToTheDoubleScaleUp"), (9, u "E"), (3, u "PI"), (2, u "TAU"), (2, u "DEGREES_TO_RADIANS"), (0, u "RADIANS_TO_DEGREES")] 94

def k19m0 : Method := { name := "<init>", desc := "()V", sig := { parameters := [], returnType := none }, accessFlags := 2, code := none }
def k19c1 : Code := { maxStack := 4, maxLocals := 2, code := jdk_29_method_64_code, exceptionTable := #[], attributes := #[] }
def k19m1 : Method := { name := "abs", desc := "(D)D", sig := { parameters := [.double], returnType := some .double }, accessFlags := 9, code := some k19c1 }
def k19c2 : Code := { maxStack := 2, maxLocals := 2, code := jdk_29_method_65_code, exceptionTable := #[], attributes := #[] }
def k19m2 : Method := { name := "max", desc := "(II)I", sig := { parameters := [.int, .int], returnType := some .int }, accessFlags := 9, code := some k19c2 }
def k19c3 : Code := { maxStack := 2, maxLocals := 2, code := jdk_29_method_69_code, exceptionTable := #[], attributes := #[] }
def k19m3 : Method := { name := "min", desc := "(II)I", sig := { parameters := [.int, .int], returnType := some .int }, accessFlags := 9, code := some k19c3 }
/-- java/lang/Math -/
def k19 : Class := { plain "java/lang/Math" (some 0) with
  accessFlags := 49
  interfaces := #[]
  cf := some (fileOf pool19 1 #[.nestMembers #[98]] #[{ accessFlags := 2, nameIndex := 7, descriptorIndex := 8, attributes := #[] }, { accessFlags := 9, nameIndex := 124, descriptorIndex := 14, attributes := #[] }, { accessFlags := 9, nameIndex := 198, descriptorIndex := 335, attributes := #[] }, { accessFlags := 9, nameIndex := 201, descriptorIndex := 335, attributes := #[] }] 49 4 #[] #[{ accessFlags := 25, nameIndex := 354, descriptorIndex := 339, attributes := #[] }, { accessFlags := 25, nameIndex := 358, descriptorIndex := 339, attributes := #[] }, { accessFlags := 25, nameIndex := 361, descriptorIndex := 339, attributes := #[] }, { accessFlags := 26, nameIndex := 364, descriptorIndex := 339, attributes := #[] }, { accessFlags := 26, nameIndex := 365, descriptorIndex := 339, attributes := #[] }, { accessFlags := 26, nameIndex := 172, descriptorIndex := 173, attributes := #[] }, { accessFlags := 26, nameIndex := 176, descriptorIndex := 173, attributes := #[] }, { accessFlags := 8, nameIndex := 344, descriptorIndex := 339, attributes := #[] }, { accessFlags := 8, nameIndex := 338, descriptorIndex := 339, attributes := #[] }, { accessFlags := 4120, nameIndex := 245, descriptorIndex := 246, attributes := #[] }])
  fields := #[{ name := "E", type := .double, accessFlags := 25, slot := 0, constantValue := 0 }, { name := "PI", type := .double, accessFlags := 25, slot := 1, constantValue := 0 }, { name := "TAU", type := .double, accessFlags := 25, slot := 2, constantValue := 0 }, { name := "DEGREES_TO_RADIANS", type := .double, accessFlags := 26, slot := 3, constantValue := 0 }, { name := "RADIANS_TO_DEGREES", type := .double, accessFlags := 26, slot := 4, constantValue := 0 }, { name := "negativeZeroFloatBits", type := .long, accessFlags := 26, slot := 5, constantValue := 0 }, { name := "negativeZeroDoubleBits", type := .long, accessFlags := 26, slot := 6, constantValue := 0 }, { name := "twoToTheDoubleScaleUp", type := .double, accessFlags := 8, slot := 7, constantValue := 0 }, { name := "twoToTheDoubleScaleDown", type := .double, accessFlags := 8, slot := 8, constantValue := 0 }, { name := "$assertionsDisabled", type := .boolean, accessFlags := 4120, slot := 9, constantValue := 0 }]
  methods := #[k19m0, k19m1, k19m2, k19m3]
  instanceTypes := #[]
  staticTypes := #[.double, .double, .double, .double, .double, .long, .long, .double, .double, .boolean]
  resolved := Array.replicate 460 none
  statics := none }

def pool20 : Array CpInfo := pool [(2, .class_ 4), (1, u "java/lang/Object"), (0, u "<init>"), (0, u "()V"), (7, .class_ 16), (1, u "java/util/Arrays"), (57, .class_ 76), (1, u "java/util/Arrays$NaturalOrder"), (36, .class_ 115), (1, u "java/util/Arrays$LegacyMergeSort"), (1, u "Z"), (21, u "copyOfRange"), (10, .methodref 151 152), (0, .class_ 153), (0, .nameAndType 154 155), (0, u "java/lang/System"), (0, u "arraycopy"), (0, u "(Ljava/lang/Object;ILjava/lang/Object;II)V"), (146, u "copyOf"), (1, .methodref 305 306), (0, .class_ 307), (0, .nameAndType 308 309), (0, u "java/lang/Math"), (0, u "min"), (0, u "(II)I"), (29, .methodref 14 340), (0, .nameAndType 341 342), (0, u "copyOfRangeByte"), (0, u "([BII)[B"), (0, .methodref 14 344), (0, .nameAndType 345 346), (0, u "checkLength"), (0, u "(II)V"), (28, .class_ 376), (0, u "java/util/Arrays$ArrayList"), (68, u "$assertionsDisabled"), (269, u "MIN_ARRAY_SORT_GRAN"), (0, u "I"), (2, u "INSERTIONSORT_THRESHOLD"), (149, u "([BI)[B"), (105, .class_ 976), (0, u "java/util/Arrays$ArrayItr")] 52

def k20m0 : Method := { name := "<init>", desc := "()V", sig := { parameters := [], returnType := none }, accessFlags := 2, code := none }
def k20c1 : Code := { maxStack := 6, maxLocals := 3, code := jdk_65_method_121_code, exceptionTable := #[], attributes := #[] }
def k20m1 : Method := { name := "copyOf", desc := "([BI)[B", sig := { parameters := [(.array .byte), .int], returnType := some (.array .byte) }, accessFlags := 9, code := some k20c1 }
def k20c2 : Code := { maxStack := 4, maxLocals := 2, code := jdk_65_method_131_code, exceptionTable := #[], attributes := #[] }
def k20m2 : Method := { name := "checkLength", desc := "(II)V", sig := { parameters := [.int, .int], returnType := none }, accessFlags := 10, code := some k20c2 }
def k20c3 : Code := { maxStack := 3, maxLocals := 3, code := jdk_65_method_132_code, exceptionTable := #[], attributes := #[] }
def k20m3 : Method := { name := "copyOfRange", desc := "([BII)[B", sig := { parameters := [(.array .byte), .int, .int], returnType := some (.array .byte) }, accessFlags := 9, code := some k20c3 }
def k20c4 : Code := { maxStack := 6, maxLocals := 5, code := jdk_65_method_133_code, exceptionTable := #[], attributes := #[] }
def k20m4 : Method := { name := "copyOfRangeByte", desc := "([BII)[B", sig := { parameters := [(.array .byte), .int, .int], returnType := some (.array .byte) }, accessFlags := 10, code := some k20c4 }
/-- java/util/Arrays -/
def k20 : Class := { plain "java/util/Arrays" (some 0) with
  accessFlags := 49
  interfaces := #[]
  cf := some (fileOf pool20 14 #[.nestMembers #[975, 375, 113, 74]] #[{ accessFlags := 2, nameIndex := 5, descriptorIndex := 6, attributes := #[] }, { accessFlags := 9, nameIndex := 302, descriptorIndex := 869, attributes := #[] }, { accessFlags := 10, nameIndex := 345, descriptorIndex := 346, attributes := #[] }, { accessFlags := 9, nameIndex := 139, descriptorIndex := 342, attributes := #[] }, { accessFlags := 10, nameIndex := 341, descriptorIndex := 342, attributes := #[] }] 49 2 #[] #[{ accessFlags := 26, nameIndex := 715, descriptorIndex := 716, attributes := #[] }, { accessFlags := 26, nameIndex := 719, descriptorIndex := 716, attributes := #[] }, { accessFlags := 4120, nameIndex := 445, descriptorIndex := 117, attributes := #[] }])
  fields := #[{ name := "MIN_ARRAY_SORT_GRAN", type := .int, accessFlags := 26, slot := 0, constantValue := 0 }, { name := "INSERTIONSORT_THRESHOLD", type := .int, accessFlags := 26, slot := 1, constantValue := 0 }, { name := "$assertionsDisabled", type := .boolean, accessFlags := 4120, slot := 2, constantValue := 0 }]
  methods := #[k20m0, k20m1, k20m2, k20m3, k20m4]
  instanceTypes := #[]
  staticTypes := #[.int, .int, .boolean]
  resolved := Array.replicate 1029 none
  statics := none }

def pool21 : Array CpInfo := pool [(1, .class_ 2), (0, u "java/lang/Double"), (10, u "isFinite"), (0, u "(D)Z"), (8, .class_ 25), (1, u "java/lang/Math"), (12, .methodref 23 39), (0, .nameAndType 40 41), (0, u "abs"), (0, u "(D)D"), (69, .double 9218868437227405311), (2, .class_ 116), (1, u "java/lang/Number"), (3, u "value"), (0, u "D"), (51, u "TYPE"), (0, u "Ljava/lang/Class;"), (0, .class_ 176), (0, u "java/lang/Comparable"), (0, .class_ 178), (0, u "java/lang/constant/Constable"), (0, .class_ 180), (0, u "java/lang/constant/ConstantDesc"), (0, u "POSITIVE_INFINITY"), (3, u "NEGATIVE_INFINITY"), (2, u "NaN"), (2, u "MAX_VALUE"), (0, u "MIN_NORMAL"), (0, u "MIN_VALUE"), (2, u "SIZE"), (0, u "I"), (1, u "PRECISION"), (1, u "MAX_EXPONENT"), (1, u "MIN_EXPONENT"), (1, u "BYTES"), (3, u "serialVersionUID"), (0, u "J")] 79

def k21c0 : Code := { maxStack := 4, maxLocals := 2, code := jdk_117_method_8_code, exceptionTable := #[], attributes := #[] }
def k21m0 : Method := { name := "isFinite", desc := "(D)Z", sig := { parameters := [.double], returnType := some .boolean }, accessFlags := 9, code := some k21c0 }
/-- java/lang/Double -/
def k21 : Class := { plain "java/lang/Double" (some 16) with
  accessFlags := 49
  interfaces := #[5, 4, 13]
  cf := some (fileOf pool21 1 #[] #[{ accessFlags := 9, nameIndex := 13, descriptorIndex := 14, attributes := #[] }] 49 114 #[175, 177, 179] #[{ accessFlags := 25, nameIndex := 181, descriptorIndex := 121, attributes := #[] }, { accessFlags := 25, nameIndex := 185, descriptorIndex := 121, attributes := #[] }, { accessFlags := 25, nameIndex := 188, descriptorIndex := 121, attributes := #[] }, { accessFlags := 25, nameIndex := 191, descriptorIndex := 121, attributes := #[] }, { accessFlags := 25, nameIndex := 192, descriptorIndex := 121, attributes := #[] }, { accessFlags := 25, nameIndex := 193, descriptorIndex := 121, attributes := #[] }, { accessFlags := 25, nameIndex := 196, descriptorIndex := 197, attributes := #[] }, { accessFlags := 25, nameIndex := 199, descriptorIndex := 197, attributes := #[] }, { accessFlags := 25, nameIndex := 201, descriptorIndex := 197, attributes := #[] }, { accessFlags := 25, nameIndex := 203, descriptorIndex := 197, attributes := #[] }, { accessFlags := 25, nameIndex := 205, descriptorIndex := 197, attributes := #[] }, { accessFlags := 25, nameIndex := 173, descriptorIndex := 174, attributes := #[] }, { accessFlags := 18, nameIndex := 120, descriptorIndex := 121, attributes := #[] }, { accessFlags := 26, nameIndex := 209, descriptorIndex := 210, attributes := #[] }])
  fields := #[{ name := "POSITIVE_INFINITY", type := .double, accessFlags := 25, slot := 0, constantValue := 0 }, { name := "NEGATIVE_INFINITY", type := .double, accessFlags := 25, slot := 1, constantValue := 0 }, { name := "NaN", type := .double, accessFlags := 25, slot := 2, constantValue := 0 }, { name := "MAX_VALUE", type := .double, accessFlags := 25, slot := 3, constantValue := 0 }, { name := "MIN_NORMAL", type := .double, accessFlags := 25, slot := 4, constantValue := 0 }, { name := "MIN_VALUE", type := .double, accessFlags := 25, slot := 5, constantValue := 0 }, { name := "SIZE", type := .int, accessFlags := 25, slot := 6, constantValue := 0 }, { name := "PRECISION", type := .int, accessFlags := 25, slot := 7, constantValue := 0 }, { name := "MAX_EXPONENT", type := .int, accessFlags := 25, slot := 8, constantValue := 0 }, { name := "MIN_EXPONENT", type := .int, accessFlags := 25, slot := 9, constantValue := 0 }, { name := "BYTES", type := .int, accessFlags := 25, slot := 10, constantValue := 0 }, { name := "TYPE", type := (.object "java/lang/Class"), accessFlags := 25, slot := 11, constantValue := 0 }, { name := "value", type := .double, accessFlags := 18, slot := 0, constantValue := 0 }, { name := "serialVersionUID", type := .long, accessFlags := 26, slot := 12, constantValue := 0 }]
  methods := #[k21m0]
  instanceTypes := #[.double]
  staticTypes := #[.double, .double, .double, .double, .double, .double, .int, .int, .int, .int, .int, (.object "java/lang/Class"), .long]
  resolved := Array.replicate 290 none
  statics := none }

def pool22 : Array CpInfo := pool [(4, .class_ 6), (1, u "java/lang/Object"), (0, u "<init>"), (0, u "()V"), (5, .class_ 16), (1, u "java/lang/StringLatin1"), (104, u "$assertionsDisabled"), (0, u "Z"), (98, .class_ 223), (1, u "java/lang/StringLatin1$LinesSpliterator"), (166, .class_ 391), (0, u "java/lang/StringLatin1$CharsSpliterator")] 3

def k22m0 : Method := { name := "<init>", desc := "()V", sig := { parameters := [], returnType := none }, accessFlags := 0, code := none }
/-- java/lang/StringLatin1 -/
def k22 : Class := { plain "java/lang/StringLatin1" (some 0) with
  accessFlags := 48
  interfaces := #[]
  cf := some (fileOf pool22 14 #[.nestMembers #[390, 221]] #[{ accessFlags := 0, nameIndex := 7, descriptorIndex := 8, attributes := #[] }] 48 4 #[] #[{ accessFlags := 4120, nameIndex := 121, descriptorIndex := 122, attributes := #[] }])
  fields := #[{ name := "$assertionsDisabled", type := .boolean, accessFlags := 4120, slot := 0, constantValue := 0 }]
  methods := #[k22m0]
  instanceTypes := #[]
  staticTypes := #[.boolean]
  resolved := Array.replicate 395 none
  statics := none }

def pool23 : Array CpInfo := pool [(2, .class_ 4), (1, u "java/lang/Object"), (0, u "<init>"), (0, u "()V"), (17, .class_ 26), (1, u "jdk/internal/util/Preconditions"), (28, .class_ 56), (0, u "jdk/internal/util/Preconditions$4"), (57, .class_ 115), (0, u "jdk/internal/util/Preconditions$1"), (7, u "SIOOBE_FORMATTER"), (0, u "Ljava/util/function/BiFunction;"), (0, .class_ 126), (0, u "jdk/internal/util/Preconditions$2"), (3, u "AIOOBE_FORMATTER"), (0, .class_ 132), (0, u "jdk/internal/util/Preconditions$3"), (3, u "IOOBE_FORMATTER")] 57

def k23m0 : Method := { name := "<init>", desc := "()V", sig := { parameters := [], returnType := none }, accessFlags := 1, code := none }
/-- jdk/internal/util/Preconditions -/
def k23 : Class := { plain "jdk/internal/util/Preconditions" (some 0) with
  accessFlags := 33
  interfaces := #[]
  cf := some (fileOf pool23 24 #[.nestMembers #[55, 131, 125, 114]] #[{ accessFlags := 1, nameIndex := 5, descriptorIndex := 6, attributes := #[] }] 33 2 #[] #[{ accessFlags := 25, nameIndex := 123, descriptorIndex := 124, attributes := #[] }, { accessFlags := 25, nameIndex := 130, descriptorIndex := 124, attributes := #[] }, { accessFlags := 25, nameIndex := 136, descriptorIndex := 124, attributes := #[] }])
  fields := #[{ name := "SIOOBE_FORMATTER", type := (.object "java/util/function/BiFunction"), accessFlags := 25, slot := 0, constantValue := 0 }, { name := "AIOOBE_FORMATTER", type := (.object "java/util/function/BiFunction"), accessFlags := 25, slot := 1, constantValue := 0 }, { name := "IOOBE_FORMATTER", type := (.object "java/util/function/BiFunction"), accessFlags := 25, slot := 2, constantValue := 0 }]
  methods := #[k23m0]
  instanceTypes := #[]
  staticTypes := #[(.object "java/util/function/BiFunction"), (.object "java/util/function/BiFunction"), (.object "java/util/function/BiFunction")]
  resolved := Array.replicate 194 none
  statics := some 3 }

def pool24 : Array CpInfo := pool [(1, u "java/lang/Cloneable"), (0, .class_ 1), (0, u "java/lang/Object"), (0, .class_ 3)] 3

/-- java/lang/Cloneable -/
def k24 : Class := { plain "java/lang/Cloneable" (some 0) with
  accessFlags := 1537
  interfaces := #[]
  cf := some (fileOf pool24 2 #[] #[] 1537 4 #[] #[])
  fields := #[]
  methods := #[]
  instanceTypes := #[]
  staticTypes := #[]
  resolved := Array.replicate 8 none
  statics := none }

/-- the primitive byte -/
def k25 : Class := { plain "byte" none with kind := .primitive 'B', accessFlags := 0x411 }
/-- [B -/
def k26 : Class := { plain "[B" (some 0) with kind := .array 25 .byte, interfaces := #[24, 6], accessFlags := 1041 }

/-- the primitive int -/
def k27 : Class := { plain "int" none with kind := .primitive 'I', accessFlags := 0x411 }
/-- [I -/
def k28 : Class := { plain "[I" (some 0) with kind := .array 27 .int, interfaces := #[24, 6], accessFlags := 1041 }

def heap : Heap := #[{ cls := 8, slots := #[.ref 4, .ref 5, .ref 6, .null], vm := .statics 8 },
  { cls := 14, slots := #[.long 0, .int 1, .null, .int 0, .null, .int 0, .int 0], vm := .statics 14 },
  { cls := 17, slots := #[.int 0, .int 0, .null, .null, .ref 8, .ref 7, .int 0, .int 0, .long 0], vm := .statics 17 },
  { cls := 23, slots := #[.null, .null, .null], vm := .statics 23 },
  { cls := 8, slots := #[.null, .int 0, .int 0, .null], vm := .none },
  { cls := 8, slots := #[.null, .int 0, .int 0, .null], vm := .none },
  { cls := 8, slots := #[.null, .int 0, .int 0, .null], vm := .none },
  { cls := 26, slots := #[.int 48, .int 49, .int 50, .int 51, .int 52, .int 53, .int 54, .int 55, .int 56, .int 57, .int 48, .int 49, .int 50, .int 51, .int 52, .int 53, .int 54, .int 55, .int 56, .int 57, .int 48, .int 49, .int 50, .int 51, .int 52, .int 53, .int 54, .int 55, .int 56, .int 57, .int 48, .int 49, .int 50, .int 51, .int 52, .int 53, .int 54, .int 55, .int 56, .int 57, .int 48, .int 49, .int 50, .int 51, .int 52, .int 53, .int 54, .int 55, .int 56, .int 57, .int 48, .int 49, .int 50, .int 51, .int 52, .int 53, .int 54, .int 55, .int 56, .int 57, .int 48, .int 49, .int 50, .int 51, .int 52, .int 53, .int 54, .int 55, .int 56, .int 57, .int 48, .int 49, .int 50, .int 51, .int 52, .int 53, .int 54, .int 55, .int 56, .int 57, .int 48, .int 49, .int 50, .int 51, .int 52, .int 53, .int 54, .int 55, .int 56, .int 57, .int 48, .int 49, .int 50, .int 51, .int 52, .int 53, .int 54, .int 55, .int 56, .int 57], vm := .none },
  { cls := 26, slots := #[.int 48, .int 48, .int 48, .int 48, .int 48, .int 48, .int 48, .int 48, .int 48, .int 48, .int 49, .int 49, .int 49, .int 49, .int 49, .int 49, .int 49, .int 49, .int 49, .int 49, .int 50, .int 50, .int 50, .int 50, .int 50, .int 50, .int 50, .int 50, .int 50, .int 50, .int 51, .int 51, .int 51, .int 51, .int 51, .int 51, .int 51, .int 51, .int 51, .int 51, .int 52, .int 52, .int 52, .int 52, .int 52, .int 52, .int 52, .int 52, .int 52, .int 52, .int 53, .int 53, .int 53, .int 53, .int 53, .int 53, .int 53, .int 53, .int 53, .int 53, .int 54, .int 54, .int 54, .int 54, .int 54, .int 54, .int 54, .int 54, .int 54, .int 54, .int 55, .int 55, .int 55, .int 55, .int 55, .int 55, .int 55, .int 55, .int 55, .int 55, .int 56, .int 56, .int 56, .int 56, .int 56, .int 56, .int 56, .int 56, .int 56, .int 56, .int 57, .int 57, .int 57, .int 57, .int 57, .int 57, .int 57, .int 57, .int 57, .int 57], vm := .none }]
def classes : Array Class := #[k0, k1, k2, k3, k4, k5, k6, k7, k8, k9, k10, k11, k12, k13, k14, k15, k16, k17, k18, k19, k20, k21, k22, k23, k24, k25, k26, k27, k28]
def interned : List (Array UInt16 × Addr) := []
def slotsUsed : Nat := 235
def theMethod : MethodId := ⟨1, 2⟩
def args0 : Array Value := #[.int 3, .int 2, .int 5, .int 7, .int 65537, .int 0]
def aboutOver (below : List Frame) : State where
  vm := { classes := classes, interned := interned.toArray }
  heap := heap
  slotsUsed := slotsUsed
  threads := #[{ frames := .invoking theMethod args0 :: below }]
def below0 : List Frame := [.native { method := ⟨0, 0⟩, args := #[] }]
def about1 : State := aboutOver below0
def p0 : Program := .bare "" "" ""
def e0 : Env := launch0.env 0 0 0
theorem w_frames : about1.frames = Frame.invoking theMethod args0 :: below0 := rfl
set_option maxRecDepth 65536 in
theorem w_args : argsFit about1.vm theMethod args0 = true := by decide +kernel
set_option maxRecDepth 65536 in
theorem w_heap : heapFits about1 = true := by decide +kernel
set_option maxRecDepth 65536 in
theorem w_runnable : about1.curStatus? = some .runnable := by decide +kernel
set_option maxRecDepth 65536 in
theorem w_alone : about1.alone = true := by decide +kernel
set_option maxRecDepth 65536 in
theorem w_named : about1.methodNamed? x = some theMethod := by decide +kernel
set_option maxRecDepth 65536 in
theorem w_hears : about1.hears theMethod below0 = true := by decide +kernel
set_option maxRecDepth 65536 in
theorem w_ripe : about1.ripe theMethod args0 below0 = true := by decide +kernel
theorem w_running : about1.status = .running := rfl
set_option maxRecDepth 65536 in
theorem w_room : about1.hasRoom e0.platform room_1 = true :=
  launch0.hasRoom_least _ room_1 (by decide +kernel) (by decide +kernel) (by decide +kernel) (by decide +kernel) (by decide +kernel) (by decide +kernel)
theorem allAtoms_all (ts : List Jvm.Cond) (a : Array Jvm.Value) (st : Jvm.State) : (allAtoms ts).before a st = ts.all (fun c => c.before a st) := by
  induction ts with
  | nil => rfl
  | cons c t ih =>
    show (Jvm.Cond.and c (allAtoms t)).before a st = _
    rw [Jvm.Cond.before_and, ih, List.all_cons]
def words1 : List Jvm.Cond := Jvm.Cond.code x code maxLocals ret :: tables_1
/-- a 'code' word, met by the world's own term for the bytes: nothing is compared byte by byte -/
theorem code_word {y : MethodName} {bytes : ByteArray} {mx : Nat} {rt : Option FieldType} {a : Array Value} {s : State} {m : MethodId} {meth : Method} {c : Code} (h1 : s.methodNamed? y = some m) (h2 : s.vm.method? m = some meth) (h3 : meth.code = some c) (h4 : c.code = bytes)
    (h5 : (c.maxLocals == mx && c.exceptionTable.isEmpty && decide (c.maxStack ≤ mostOperands) && decide (meth.sig.returnType = rt) && !meth.locks && decide (parseMethodDescriptor y.desc = some meth.sig)) = true) : (Jvm.Cond.code y bytes mx rt).before a s = true := by
  simp only [Bool.and_eq_true, beq_iff_eq, Bool.not_eq_true', decide_eq_true_eq] at h5
  obtain ⟨⟨⟨⟨⟨g1, g2⟩, g3⟩, g4⟩, g5⟩, g6⟩ := h5
  simp [Cond.before, Cond.holds, Cond.value, h1, h2, h3, h4, g1, g2, g3, g4, g5, g6]
def isCode : Jvm.Cond → Bool
  | .code _ _ _ _ => true
  | _ => false
theorem all_split {L : List Jvm.Cond} {P : Jvm.Cond → Bool} (h1 : L.all (fun c => isCode c || P c) = true) (h2 : ∀ c ∈ L.filter isCode, P c = true) : L.all P = true := by
  refine List.all_eq_true.mpr fun c hc => ?_
  have h := List.all_eq_true.mp h1 c hc
  rcases Bool.eq_false_or_eq_true (isCode c) with hi | hi
  · exact h2 c (List.mem_filter.mpr ⟨hc, hi⟩)
  · simpa [hi] using h
set_option maxRecDepth 65536 in
theorem w_c0 : (Jvm.Cond.code x code maxLocals ret).before args0 about1 = true := code_word (m := ⟨1, 2⟩) (meth := k1m2) (c := k1c2) (by decide +kernel) rfl rfl rfl (by decide +kernel)
set_option maxRecDepth 65536 in
theorem w_c1 : (Jvm.Cond.code ({ cls := "com/example/greenweft/greenweft/map/GridAlignsWithPinLaw", name := "coords", desc := "(I)Lcom/example/greenweft/greenweft/map/Coordinates;" } : Jvm.MethodName) method_2_code (1 : Nat) (Option.some (Jvm.ClassFile.FieldType.object "com/example/greenweft/greenweft/map/Coordinates"))).before args0 about1 = true := code_word (m := ⟨1, 1⟩) (meth := k1m1) (c := k1c1) (by decide +kernel) rfl rfl rfl (by decide +kernel)
set_option maxRecDepth 65536 in
theorem w_c2 : (Jvm.Cond.code ({ cls := "com/example/greenweft/greenweft/map/Grid", name := "<init>", desc := "(IIDDDDLcom/example/greenweft/greenweft/map/Coordinates;)V" } : Jvm.MethodName) prog_8_method_1_code (13 : Nat) (Option.none : Option Jvm.ClassFile.FieldType)).before args0 about1 = true := code_word (m := ⟨3, 0⟩) (meth := k3m0) (c := k3c0) (by decide +kernel) rfl rfl rfl (by decide +kernel)
set_option maxRecDepth 65536 in
theorem w_c3 : (Jvm.Cond.code ({ cls := "java/lang/Record", name := "<init>", desc := "()V" } : Jvm.MethodName) jdk_30_method_1_code (1 : Nat) (Option.none : Option Jvm.ClassFile.FieldType)).before args0 about1 = true := code_word (m := ⟨2, 0⟩) (meth := k2m0) (c := k2c0) (by decide +kernel) rfl rfl rfl (by decide +kernel)
set_option maxRecDepth 65536 in
theorem w_c4 : (Jvm.Cond.code ({ cls := "java/lang/Object", name := "<init>", desc := "()V" } : Jvm.MethodName) object_method_1_code (1 : Nat) (Option.none : Option Jvm.ClassFile.FieldType)).before args0 about1 = true := code_word (m := ⟨0, 0⟩) (meth := k0m0) (c := k0c0) (by decide +kernel) rfl rfl rfl (by decide +kernel)
set_option maxRecDepth 65536 in
theorem w_c5 : (Jvm.Cond.code ({ cls := "java/lang/StringBuilder", name := "<init>", desc := "()V" } : Jvm.MethodName) jdk_67_method_1_code (1 : Nat) (Option.none : Option Jvm.ClassFile.FieldType)).before args0 about1 = true := code_word (m := ⟨12, 0⟩) (meth := k12m0) (c := k12c0) (by decide +kernel) rfl rfl rfl (by decide +kernel)
set_option maxRecDepth 65536 in
theorem w_c6 : (Jvm.Cond.code ({ cls := "java/lang/AbstractStringBuilder", name := "<init>", desc := "(I)V" } : Jvm.MethodName) jdk_68_method_2_code (2 : Nat) (Option.none : Option Jvm.ClassFile.FieldType)).before args0 about1 = true := code_word (m := ⟨11, 1⟩) (meth := k11m1) (c := k11c1) (by decide +kernel) rfl rfl rfl (by decide +kernel)
set_option maxRecDepth 65536 in
theorem w_c7 : (Jvm.Cond.code ({ cls := "java/lang/StringBuilder", name := "append", desc := "(Ljava/lang/String;)Ljava/lang/StringBuilder;" } : Jvm.MethodName) jdk_67_method_7_code (2 : Nat) (Option.some (Jvm.ClassFile.FieldType.object "java/lang/StringBuilder"))).before args0 about1 = true := code_word (m := ⟨12, 1⟩) (meth := k12m1) (c := k12c1) (by decide +kernel) rfl rfl rfl (by decide +kernel)
set_option maxRecDepth 65536 in
theorem w_c8 : (Jvm.Cond.code ({ cls := "java/lang/AbstractStringBuilder", name := "append", desc := "(Ljava/lang/String;)Ljava/lang/AbstractStringBuilder;" } : Jvm.MethodName) jdk_68_method_22_code (3 : Nat) (Option.some (Jvm.ClassFile.FieldType.object "java/lang/AbstractStringBuilder"))).before args0 about1 = true := code_word (m := ⟨11, 5⟩) (meth := k11m5) (c := k11c5) (by decide +kernel) rfl rfl rfl (by decide +kernel)
set_option maxRecDepth 65536 in
theorem w_c9 : (Jvm.Cond.code ({ cls := "java/lang/String", name := "length", desc := "()I" } : Jvm.MethodName) jdk_42_method_54_code (1 : Nat) (Option.some Jvm.ClassFile.FieldType.int)).before args0 about1 = true := code_word (m := ⟨14, 2⟩) (meth := k14m2) (c := k14c2) (by decide +kernel) rfl rfl rfl (by decide +kernel)
set_option maxRecDepth 65536 in
theorem w_c10 : (Jvm.Cond.code ({ cls := "java/lang/String", name := "coder", desc := "()B" } : Jvm.MethodName) jdk_42_method_152_code (1 : Nat) (Option.some Jvm.ClassFile.FieldType.byte)).before args0 about1 = true := code_word (m := ⟨14, 5⟩) (meth := k14m5) (c := k14c5) (by decide +kernel) rfl rfl rfl (by decide +kernel)
set_option maxRecDepth 65536 in
theorem w_c11 : (Jvm.Cond.code ({ cls := "java/lang/AbstractStringBuilder", name := "ensureCapacityInternal", desc := "(I)V" } : Jvm.MethodName) jdk_68_method_9_code (3 : Nat) (Option.none : Option Jvm.ClassFile.FieldType)).before args0 about1 = true := code_word (m := ⟨11, 3⟩) (meth := k11m3) (c := k11c3) (by decide +kernel) rfl rfl rfl (by decide +kernel)
set_option maxRecDepth 65536 in
theorem w_c12 : (Jvm.Cond.code ({ cls := "java/lang/AbstractStringBuilder", name := "putStringAt", desc := "(ILjava/lang/String;)V" } : Jvm.MethodName) jdk_68_method_73_code (3 : Nat) (Option.none : Option Jvm.ClassFile.FieldType)).before args0 about1 = true := code_word (m := ⟨11, 10⟩) (meth := k11m10) (c := k11c10) (by decide +kernel) rfl rfl rfl (by decide +kernel)
set_option maxRecDepth 65536 in
theorem w_c13 : (Jvm.Cond.code ({ cls := "java/lang/AbstractStringBuilder", name := "inflateIfNeededFor", desc := "(Ljava/lang/String;)V" } : Jvm.MethodName) jdk_68_method_71_code (2 : Nat) (Option.none : Option Jvm.ClassFile.FieldType)).before args0 about1 = true := code_word (m := ⟨11, 9⟩) (meth := k11m9) (c := k11c9) (by decide +kernel) rfl rfl rfl (by decide +kernel)
set_option maxRecDepth 65536 in
theorem w_c14 : (Jvm.Cond.code ({ cls := "java/lang/String", name := "getBytes", desc := "([BIB)V" } : Jvm.MethodName) jdk_42_method_147_code (4 : Nat) (Option.none : Option Jvm.ClassFile.FieldType)).before args0 about1 = true := code_word (m := ⟨14, 3⟩) (meth := k14m3) (c := k14c3) (by decide +kernel) rfl rfl rfl (by decide +kernel)
set_option maxRecDepth 65536 in
theorem w_c15 : (Jvm.Cond.code ({ cls := "java/lang/StringBuilder", name := "append", desc := "(I)Ljava/lang/StringBuilder;" } : Jvm.MethodName) jdk_67_method_15_code (2 : Nat) (Option.some (Jvm.ClassFile.FieldType.object "java/lang/StringBuilder"))).before args0 about1 = true := code_word (m := ⟨12, 2⟩) (meth := k12m2) (c := k12c2) (by decide +kernel) rfl rfl rfl (by decide +kernel)
set_option maxRecDepth 65536 in
theorem w_c16 : (Jvm.Cond.code ({ cls := "java/lang/AbstractStringBuilder", name := "append", desc := "(I)Ljava/lang/AbstractStringBuilder;" } : Jvm.MethodName) jdk_68_method_32_code (4 : Nat) (Option.some (Jvm.ClassFile.FieldType.object "java/lang/AbstractStringBuilder"))).before args0 about1 = true := code_word (m := ⟨11, 6⟩) (meth := k11m6) (c := k11c6) (by decide +kernel) rfl rfl rfl (by decide +kernel)
set_option maxRecDepth 65536 in
theorem w_c17 : (Jvm.Cond.code ({ cls := "java/lang/Integer", name := "stringSize", desc := "(I)I" } : Jvm.MethodName) jdk_33_method_13_code (4 : Nat) (Option.some Jvm.ClassFile.FieldType.int)).before args0 about1 = true := code_word (m := ⟨17, 1⟩) (meth := k17m1) (c := k17c1) (by decide +kernel) rfl rfl rfl (by decide +kernel)
set_option maxRecDepth 65536 in
theorem w_c18 : (Jvm.Cond.code ({ cls := "java/lang/AbstractStringBuilder", name := "isLatin1", desc := "()Z" } : Jvm.MethodName) jdk_68_method_68_code (1 : Nat) (Option.some Jvm.ClassFile.FieldType.boolean)).before args0 about1 = true := code_word (m := ⟨11, 8⟩) (meth := k11m8) (c := k11c8) (by decide +kernel) rfl rfl rfl (by decide +kernel)
set_option maxRecDepth 65536 in
theorem w_c19 : (Jvm.Cond.code ({ cls := "java/lang/Integer", name := "getChars", desc := "(II[B)I" } : Jvm.MethodName) jdk_33_method_12_code (7 : Nat) (Option.some Jvm.ClassFile.FieldType.int)).before args0 about1 = true := code_word (m := ⟨17, 0⟩) (meth := k17m0) (c := k17c0) (by decide +kernel) rfl rfl rfl (by decide +kernel)
set_option maxRecDepth 65536 in
theorem w_c20 : (Jvm.Cond.code ({ cls := "java/lang/AbstractStringBuilder", name := "newCapacity", desc := "(I)I" } : Jvm.MethodName) jdk_68_method_10_code (6 : Nat) (Option.some Jvm.ClassFile.FieldType.int)).before args0 about1 = true := code_word (m := ⟨11, 4⟩) (meth := k11m4) (c := k11c4) (by decide +kernel) rfl rfl rfl (by decide +kernel)
set_option maxRecDepth 65536 in
theorem w_c21 : (Jvm.Cond.code ({ cls := "jdk/internal/util/ArraysSupport", name := "newLength", desc := "(III)I" } : Jvm.MethodName) jdk_48_method_27_code (4 : Nat) (Option.some Jvm.ClassFile.FieldType.int)).before args0 about1 = true := code_word (m := ⟨18, 1⟩) (meth := k18m1) (c := k18c1) (by decide +kernel) rfl rfl rfl (by decide +kernel)
set_option maxRecDepth 65536 in
theorem w_c22 : (Jvm.Cond.code ({ cls := "java/lang/Math", name := "max", desc := "(II)I" } : Jvm.MethodName) jdk_29_method_65_code (2 : Nat) (Option.some Jvm.ClassFile.FieldType.int)).before args0 about1 = true := code_word (m := ⟨19, 2⟩) (meth := k19m2) (c := k19c2) (by decide +kernel) rfl rfl rfl (by decide +kernel)
set_option maxRecDepth 65536 in
theorem w_c23 : (Jvm.Cond.code ({ cls := "java/util/Arrays", name := "copyOf", desc := "([BI)[B" } : Jvm.MethodName) jdk_65_method_121_code (3 : Nat) (Option.some (Jvm.ClassFile.FieldType.array Jvm.ClassFile.FieldType.byte))).before args0 about1 = true := code_word (m := ⟨20, 1⟩) (meth := k20m1) (c := k20c1) (by decide +kernel) rfl rfl rfl (by decide +kernel)
set_option maxRecDepth 65536 in
theorem w_c24 : (Jvm.Cond.code ({ cls := "java/lang/Math", name := "min", desc := "(II)I" } : Jvm.MethodName) jdk_29_method_69_code (2 : Nat) (Option.some Jvm.ClassFile.FieldType.int)).before args0 about1 = true := code_word (m := ⟨19, 3⟩) (meth := k19m3) (c := k19c3) (by decide +kernel) rfl rfl rfl (by decide +kernel)
set_option maxRecDepth 65536 in
theorem w_c25 : (Jvm.Cond.code ({ cls := "java/lang/StringBuilder", name := "toString", desc := "()Ljava/lang/String;" } : Jvm.MethodName) jdk_67_method_42_code (1 : Nat) (Option.some (Jvm.ClassFile.FieldType.object "java/lang/String"))).before args0 about1 = true := code_word (m := ⟨12, 3⟩) (meth := k12m3) (c := k12c3) (by decide +kernel) rfl rfl rfl (by decide +kernel)
set_option maxRecDepth 65536 in
theorem w_c26 : (Jvm.Cond.code ({ cls := "java/lang/String", name := "<init>", desc := "(Ljava/lang/StringBuilder;)V" } : Jvm.MethodName) jdk_42_method_53_code (2 : Nat) (Option.none : Option Jvm.ClassFile.FieldType)).before args0 about1 = true := code_word (m := ⟨14, 1⟩) (meth := k14m1) (c := k14c1) (by decide +kernel) rfl rfl rfl (by decide +kernel)
set_option maxRecDepth 65536 in
theorem w_c27 : (Jvm.Cond.code ({ cls := "java/lang/String", name := "<init>", desc := "(Ljava/lang/AbstractStringBuilder;Ljava/lang/Void;)V" } : Jvm.MethodName) jdk_42_method_150_code (5 : Nat) (Option.none : Option Jvm.ClassFile.FieldType)).before args0 about1 = true := code_word (m := ⟨14, 4⟩) (meth := k14m4) (c := k14c4) (by decide +kernel) rfl rfl rfl (by decide +kernel)
set_option maxRecDepth 65536 in
theorem w_c28 : (Jvm.Cond.code ({ cls := "java/lang/AbstractStringBuilder", name := "getValue", desc := "()[B" } : Jvm.MethodName) jdk_68_method_64_code (1 : Nat) (Option.some (Jvm.ClassFile.FieldType.array Jvm.ClassFile.FieldType.byte))).before args0 about1 = true := code_word (m := ⟨11, 7⟩) (meth := k11m7) (c := k11c7) (by decide +kernel) rfl rfl rfl (by decide +kernel)
set_option maxRecDepth 65536 in
theorem w_c29 : (Jvm.Cond.code ({ cls := "java/lang/StringBuilder", name := "length", desc := "()I" } : Jvm.MethodName) jdk_67_method_93_code (1 : Nat) (Option.some Jvm.ClassFile.FieldType.int)).before args0 about1 = true := code_word (m := ⟨12, 4⟩) (meth := k12m4) (c := k12c4) (by decide +kernel) rfl rfl rfl (by decide +kernel)
set_option maxRecDepth 65536 in
theorem w_c30 : (Jvm.Cond.code ({ cls := "java/lang/AbstractStringBuilder", name := "length", desc := "()I" } : Jvm.MethodName) jdk_68_method_6_code (1 : Nat) (Option.some Jvm.ClassFile.FieldType.int)).before args0 about1 = true := code_word (m := ⟨11, 2⟩) (meth := k11m2) (c := k11c2) (by decide +kernel) rfl rfl rfl (by decide +kernel)
set_option maxRecDepth 65536 in
theorem w_c31 : (Jvm.Cond.code ({ cls := "java/util/Arrays", name := "copyOfRange", desc := "([BII)[B" } : Jvm.MethodName) jdk_65_method_132_code (3 : Nat) (Option.some (Jvm.ClassFile.FieldType.array Jvm.ClassFile.FieldType.byte))).before args0 about1 = true := code_word (m := ⟨20, 3⟩) (meth := k20m3) (c := k20c3) (by decide +kernel) rfl rfl rfl (by decide +kernel)
set_option maxRecDepth 65536 in
theorem w_c32 : (Jvm.Cond.code ({ cls := "java/util/Arrays", name := "copyOfRangeByte", desc := "([BII)[B" } : Jvm.MethodName) jdk_65_method_133_code (5 : Nat) (Option.some (Jvm.ClassFile.FieldType.array Jvm.ClassFile.FieldType.byte))).before args0 about1 = true := code_word (m := ⟨20, 4⟩) (meth := k20m4) (c := k20c4) (by decide +kernel) rfl rfl rfl (by decide +kernel)
set_option maxRecDepth 65536 in
theorem w_c33 : (Jvm.Cond.code ({ cls := "java/util/Arrays", name := "checkLength", desc := "(II)V" } : Jvm.MethodName) jdk_65_method_131_code (2 : Nat) (Option.none : Option Jvm.ClassFile.FieldType)).before args0 about1 = true := code_word (m := ⟨20, 2⟩) (meth := k20m2) (c := k20c2) (by decide +kernel) rfl rfl rfl (by decide +kernel)
set_option maxRecDepth 65536 in
theorem w_c34 : (Jvm.Cond.code ({ cls := "java/lang/Double", name := "isFinite", desc := "(D)Z" } : Jvm.MethodName) jdk_117_method_8_code (2 : Nat) (Option.some Jvm.ClassFile.FieldType.boolean)).before args0 about1 = true := code_word (m := ⟨21, 0⟩) (meth := k21m0) (c := k21c0) (by decide +kernel) rfl rfl rfl (by decide +kernel)
set_option maxRecDepth 65536 in
theorem w_c35 : (Jvm.Cond.code ({ cls := "java/lang/Math", name := "abs", desc := "(D)D" } : Jvm.MethodName) jdk_29_method_64_code (2 : Nat) (Option.some Jvm.ClassFile.FieldType.double)).before args0 about1 = true := code_word (m := ⟨19, 1⟩) (meth := k19m1) (c := k19c1) (by decide +kernel) rfl rfl rfl (by decide +kernel)
set_option maxRecDepth 65536 in
theorem w_c36 : (Jvm.Cond.code ({ cls := "com/example/greenweft/greenweft/map/Grid", name := "alignsWith", desc := "(Lcom/example/greenweft/greenweft/map/Grid;)Z" } : Jvm.MethodName) prog_8_method_2_code (2 : Nat) (Option.some Jvm.ClassFile.FieldType.boolean)).before args0 about1 = true := code_word (m := ⟨3, 1⟩) (meth := k3m1) (c := k3c1) (by decide +kernel) rfl rfl rfl (by decide +kernel)
def codes1 : List Jvm.Cond := [Jvm.Cond.code x code maxLocals ret, Jvm.Cond.code ({ cls := "com/example/greenweft/greenweft/map/GridAlignsWithPinLaw", name := "coords", desc := "(I)Lcom/example/greenweft/greenweft/map/Coordinates;" } : Jvm.MethodName) method_2_code (1 : Nat) (Option.some (Jvm.ClassFile.FieldType.object "com/example/greenweft/greenweft/map/Coordinates")), Jvm.Cond.code ({ cls := "com/example/greenweft/greenweft/map/Grid", name := "<init>", desc := "(IIDDDDLcom/example/greenweft/greenweft/map/Coordinates;)V" } : Jvm.MethodName) prog_8_method_1_code (13 : Nat) (Option.none : Option Jvm.ClassFile.FieldType), Jvm.Cond.code ({ cls := "java/lang/Record", name := "<init>", desc := "()V" } : Jvm.MethodName) jdk_30_method_1_code (1 : Nat) (Option.none : Option Jvm.ClassFile.FieldType), Jvm.Cond.code ({ cls := "java/lang/Object", name := "<init>", desc := "()V" } : Jvm.MethodName) object_method_1_code (1 : Nat) (Option.none : Option Jvm.ClassFile.FieldType), Jvm.Cond.code ({ cls := "java/lang/StringBuilder", name := "<init>", desc := "()V" } : Jvm.MethodName) jdk_67_method_1_code (1 : Nat) (Option.none : Option Jvm.ClassFile.FieldType), Jvm.Cond.code ({ cls := "java/lang/AbstractStringBuilder", name := "<init>", desc := "(I)V" } : Jvm.MethodName) jdk_68_method_2_code (2 : Nat) (Option.none : Option Jvm.ClassFile.FieldType), Jvm.Cond.code ({ cls := "java/lang/StringBuilder", name := "append", desc := "(Ljava/lang/String;)Ljava/lang/StringBuilder;" } : Jvm.MethodName) jdk_67_method_7_code (2 : Nat) (Option.some (Jvm.ClassFile.FieldType.object "java/lang/StringBuilder")), Jvm.Cond.code ({ cls := "java/lang/AbstractStringBuilder", name := "append", desc := "(Ljava/lang/String;)Ljava/lang/AbstractStringBuilder;" } : Jvm.MethodName) jdk_68_method_22_code (3 : Nat) (Option.some (Jvm.ClassFile.FieldType.object "java/lang/AbstractStringBuilder")), Jvm.Cond.code ({ cls := "java/lang/String", name := "length", desc := "()I" } : Jvm.MethodName) jdk_42_method_54_code (1 : Nat) (Option.some Jvm.ClassFile.FieldType.int), Jvm.Cond.code ({ cls := "java/lang/String", name := "coder", desc := "()B" } : Jvm.MethodName) jdk_42_method_152_code (1 : Nat) (Option.some Jvm.ClassFile.FieldType.byte), Jvm.Cond.code ({ cls := "java/lang/AbstractStringBuilder", name := "ensureCapacityInternal", desc := "(I)V" } : Jvm.MethodName) jdk_68_method_9_code (3 : Nat) (Option.none : Option Jvm.ClassFile.FieldType), Jvm.Cond.code ({ cls := "java/lang/AbstractStringBuilder", name := "putStringAt", desc := "(ILjava/lang/String;)V" } : Jvm.MethodName) jdk_68_method_73_code (3 : Nat) (Option.none : Option Jvm.ClassFile.FieldType), Jvm.Cond.code ({ cls := "java/lang/AbstractStringBuilder", name := "inflateIfNeededFor", desc := "(Ljava/lang/String;)V" } : Jvm.MethodName) jdk_68_method_71_code (2 : Nat) (Option.none : Option Jvm.ClassFile.FieldType), Jvm.Cond.code ({ cls := "java/lang/String", name := "getBytes", desc := "([BIB)V" } : Jvm.MethodName) jdk_42_method_147_code (4 : Nat) (Option.none : Option Jvm.ClassFile.FieldType), Jvm.Cond.code ({ cls := "java/lang/StringBuilder", name := "append", desc := "(I)Ljava/lang/StringBuilder;" } : Jvm.MethodName) jdk_67_method_15_code (2 : Nat) (Option.some (Jvm.ClassFile.FieldType.object "java/lang/StringBuilder")), Jvm.Cond.code ({ cls := "java/lang/AbstractStringBuilder", name := "append", desc := "(I)Ljava/lang/AbstractStringBuilder;" } : Jvm.MethodName) jdk_68_method_32_code (4 : Nat) (Option.some (Jvm.ClassFile.FieldType.object "java/lang/AbstractStringBuilder")), Jvm.Cond.code ({ cls := "java/lang/Integer", name := "stringSize", desc := "(I)I" } : Jvm.MethodName) jdk_33_method_13_code (4 : Nat) (Option.some Jvm.ClassFile.FieldType.int), Jvm.Cond.code ({ cls := "java/lang/AbstractStringBuilder", name := "isLatin1", desc := "()Z" } : Jvm.MethodName) jdk_68_method_68_code (1 : Nat) (Option.some Jvm.ClassFile.FieldType.boolean), Jvm.Cond.code ({ cls := "java/lang/Integer", name := "getChars", desc := "(II[B)I" } : Jvm.MethodName) jdk_33_method_12_code (7 : Nat) (Option.some Jvm.ClassFile.FieldType.int), Jvm.Cond.code ({ cls := "java/lang/AbstractStringBuilder", name := "newCapacity", desc := "(I)I" } : Jvm.MethodName) jdk_68_method_10_code (6 : Nat) (Option.some Jvm.ClassFile.FieldType.int), Jvm.Cond.code ({ cls := "jdk/internal/util/ArraysSupport", name := "newLength", desc := "(III)I" } : Jvm.MethodName) jdk_48_method_27_code (4 : Nat) (Option.some Jvm.ClassFile.FieldType.int), Jvm.Cond.code ({ cls := "java/lang/Math", name := "max", desc := "(II)I" } : Jvm.MethodName) jdk_29_method_65_code (2 : Nat) (Option.some Jvm.ClassFile.FieldType.int), Jvm.Cond.code ({ cls := "java/util/Arrays", name := "copyOf", desc := "([BI)[B" } : Jvm.MethodName) jdk_65_method_121_code (3 : Nat) (Option.some (Jvm.ClassFile.FieldType.array Jvm.ClassFile.FieldType.byte)), Jvm.Cond.code ({ cls := "java/lang/Math", name := "min", desc := "(II)I" } : Jvm.MethodName) jdk_29_method_69_code (2 : Nat) (Option.some Jvm.ClassFile.FieldType.int), Jvm.Cond.code ({ cls := "java/lang/StringBuilder", name := "toString", desc := "()Ljava/lang/String;" } : Jvm.MethodName) jdk_67_method_42_code (1 : Nat) (Option.some (Jvm.ClassFile.FieldType.object "java/lang/String")), Jvm.Cond.code ({ cls := "java/lang/String", name := "<init>", desc := "(Ljava/lang/StringBuilder;)V" } : Jvm.MethodName) jdk_42_method_53_code (2 : Nat) (Option.none : Option Jvm.ClassFile.FieldType), Jvm.Cond.code ({ cls := "java/lang/String", name := "<init>", desc := "(Ljava/lang/AbstractStringBuilder;Ljava/lang/Void;)V" } : Jvm.MethodName) jdk_42_method_150_code (5 : Nat) (Option.none : Option Jvm.ClassFile.FieldType), Jvm.Cond.code ({ cls := "java/lang/AbstractStringBuilder", name := "getValue", desc := "()[B" } : Jvm.MethodName) jdk_68_method_64_code (1 : Nat) (Option.some (Jvm.ClassFile.FieldType.array Jvm.ClassFile.FieldType.byte)), Jvm.Cond.code ({ cls := "java/lang/StringBuilder", name := "length", desc := "()I" } : Jvm.MethodName) jdk_67_method_93_code (1 : Nat) (Option.some Jvm.ClassFile.FieldType.int), Jvm.Cond.code ({ cls := "java/lang/AbstractStringBuilder", name := "length", desc := "()I" } : Jvm.MethodName) jdk_68_method_6_code (1 : Nat) (Option.some Jvm.ClassFile.FieldType.int), Jvm.Cond.code ({ cls := "java/util/Arrays", name := "copyOfRange", desc := "([BII)[B" } : Jvm.MethodName) jdk_65_method_132_code (3 : Nat) (Option.some (Jvm.ClassFile.FieldType.array Jvm.ClassFile.FieldType.byte)), Jvm.Cond.code ({ cls := "java/util/Arrays", name := "copyOfRangeByte", desc := "([BII)[B" } : Jvm.MethodName) jdk_65_method_133_code (5 : Nat) (Option.some (Jvm.ClassFile.FieldType.array Jvm.ClassFile.FieldType.byte)), Jvm.Cond.code ({ cls := "java/util/Arrays", name := "checkLength", desc := "(II)V" } : Jvm.MethodName) jdk_65_method_131_code (2 : Nat) (Option.none : Option Jvm.ClassFile.FieldType), Jvm.Cond.code ({ cls := "java/lang/Double", name := "isFinite", desc := "(D)Z" } : Jvm.MethodName) jdk_117_method_8_code (2 : Nat) (Option.some Jvm.ClassFile.FieldType.boolean), Jvm.Cond.code ({ cls := "java/lang/Math", name := "abs", desc := "(D)D" } : Jvm.MethodName) jdk_29_method_64_code (2 : Nat) (Option.some Jvm.ClassFile.FieldType.double), Jvm.Cond.code ({ cls := "com/example/greenweft/greenweft/map/Grid", name := "alignsWith", desc := "(Lcom/example/greenweft/greenweft/map/Grid;)Z" } : Jvm.MethodName) prog_8_method_2_code (2 : Nat) (Option.some Jvm.ClassFile.FieldType.boolean)]
set_option maxRecDepth 65536 in
theorem codes_eq : words1.filter isCode = codes1 := rfl
theorem w_codes : ∀ c ∈ words1.filter isCode, c.before args0 about1 = true := by
  rw [codes_eq]
  intro c hc
  simp only [codes1, List.mem_cons, List.not_mem_nil, or_false] at hc
  rcases hc with rfl | rfl | rfl | rfl | rfl | rfl | rfl | rfl | rfl | rfl | rfl | rfl | rfl | rfl | rfl | rfl | rfl | rfl | rfl | rfl | rfl | rfl | rfl | rfl | rfl | rfl | rfl | rfl | rfl | rfl | rfl | rfl | rfl | rfl | rfl | rfl | rfl
  · exact w_c0
  · exact w_c1
  · exact w_c2
  · exact w_c3
  · exact w_c4
  · exact w_c5
  · exact w_c6
  · exact w_c7
  · exact w_c8
  · exact w_c9
  · exact w_c10
  · exact w_c11
  · exact w_c12
  · exact w_c13
  · exact w_c14
  · exact w_c15
  · exact w_c16
  · exact w_c17
  · exact w_c18
  · exact w_c19
  · exact w_c20
  · exact w_c21
  · exact w_c22
  · exact w_c23
  · exact w_c24
  · exact w_c25
  · exact w_c26
  · exact w_c27
  · exact w_c28
  · exact w_c29
  · exact w_c30
  · exact w_c31
  · exact w_c32
  · exact w_c33
  · exact w_c34
  · exact w_c35
  · exact w_c36
set_option maxRecDepth 65536 in
theorem w_t1 : (words1.take 24).all (fun c => isCode c || c.before args0 about1) = true := by decide +kernel
set_option maxRecDepth 65536 in
theorem w_t2 : ((words1.drop 24).take 24).all (fun c => isCode c || c.before args0 about1) = true := by decide +kernel
set_option maxRecDepth 65536 in
theorem w_t3 : (((words1.drop 24).drop 24).take 24).all (fun c => isCode c || c.before args0 about1) = true := by decide +kernel
set_option maxRecDepth 65536 in
theorem w_t4 : ((((words1.drop 24).drop 24).drop 24).take 24).all (fun c => isCode c || c.before args0 about1) = true := by decide +kernel
set_option maxRecDepth 65536 in
theorem w_t5 : (((((words1.drop 24).drop 24).drop 24).drop 24).take 24).all (fun c => isCode c || c.before args0 about1) = true := by decide +kernel
set_option maxRecDepth 65536 in
theorem w_t6 : ((((((words1.drop 24).drop 24).drop 24).drop 24).drop 24).take 24).all (fun c => isCode c || c.before args0 about1) = true := by decide +kernel
set_option maxRecDepth 65536 in
theorem w_t7 : (((((((words1.drop 24).drop 24).drop 24).drop 24).drop 24).drop 24).take 24).all (fun c => isCode c || c.before args0 about1) = true := by decide +kernel
set_option maxRecDepth 65536 in
theorem w_t8 : ((((((((words1.drop 24).drop 24).drop 24).drop 24).drop 24).drop 24).drop 24).take 24).all (fun c => isCode c || c.before args0 about1) = true := by decide +kernel
set_option maxRecDepth 65536 in
theorem w_t9 : (((((((((words1.drop 24).drop 24).drop 24).drop 24).drop 24).drop 24).drop 24).drop 24).take 24).all (fun c => isCode c || c.before args0 about1) = true := by decide +kernel
set_option maxRecDepth 65536 in
theorem w_t10 : (((((((((words1.drop 24).drop 24).drop 24).drop 24).drop 24).drop 24).drop 24).drop 24).drop 24).all (fun c => isCode c || c.before args0 about1) = true := by decide +kernel
theorem w_tables : (allAtoms (Jvm.Cond.code x code maxLocals ret :: tables_1)).before args0 about1 = true := by
  rw [allAtoms_all]
  show words1.all (fun c => c.before args0 about1) = true
  refine all_split ?_ w_codes
  rw [← List.take_append_drop 24 words1, List.all_append, w_t1, ← List.take_append_drop 24 (words1.drop 24), List.all_append, w_t2, ← List.take_append_drop 24 ((words1.drop 24).drop 24), List.all_append, w_t3, ← List.take_append_drop 24 (((words1.drop 24).drop 24).drop 24), List.all_append, w_t4, ← List.take_append_drop 24 ((((words1.drop 24).drop 24).drop 24).drop 24), List.all_append, w_t5, ← List.take_append_drop 24 (((((words1.drop 24).drop 24).drop 24).drop 24).drop 24), List.all_append, w_t6, ← List.take_append_drop 24 ((((((words1.drop 24).drop 24).drop 24).drop 24).drop 24).drop 24), List.all_append, w_t7, ← List.take_append_drop 24 (((((((words1.drop 24).drop 24).drop 24).drop 24).drop 24).drop 24).drop 24), List.all_append, w_t8, ← List.take_append_drop 24 ((((((((words1.drop 24).drop 24).drop 24).drop 24).drop 24).drop 24).drop 24).drop 24), List.all_append, w_t9, w_t10]
  rfl
set_option maxRecDepth 65536 in
theorem w_rest : rest_1_c.before args0 about1 = true := by decide +kernel
set_option maxRecDepth 65536 in
theorem w_case : (Jvm.Cond.and given_1 narrow_1).before args0 about1 = true := by decide +kernel
set_option maxRecDepth 65536 in
theorem w_consts : constsHeld consts_1 about1 := Jvm.Lit.constsHeldB_iff.mp (by decide +kernel)
theorem w_applies : (headSpec (Jvm.Cond.code x code maxLocals ret :: tables_1) room_1).applies x e0.platform about1 = true :=
  (Spec.applies_iff w_frames).mpr ⟨w_running, w_runnable, w_alone, w_named, w_hears, w_ripe, w_room, w_tables⟩
theorem atStart : AtStart classFile x code maxLocals ret World_1 tables_1 room_1 Calls_1 rest_1 Pre_1 launch0 p0 e0 about1 theMethod args0 below0 :=
  ⟨lists_1, trivial, launch0.admits_env _ _ _, launch0.least_env, fairChoices_fair.cas, fairChoices_fair.clock, w_frames, w_args, w_heap, w_applies, ⟨w_consts, trivial⟩, w_rest, w_case⟩
end start1
theorem witness_1 : WitnessClaimed_1 := ⟨start1.p0, start1.e0, start1.about1, start1.theMethod, start1.args0, start1.below0, start1.atStart⟩
end Jvm.Pilot.@@N@@
