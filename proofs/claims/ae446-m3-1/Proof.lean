import JvmDerived
import JvmDerived.Pilot.@@N@@Statement
import JvmDerived.Pilot.@@N@@Code
set_option linter.unusedVariables false
set_option linter.unusedSimpArgs false
namespace Jvm.RoadKit
open Sem ClassFile Op Lib Jvm.Stand Jvm.Free Jvm.LawKit
section New
variable {p : Program} {l : Launch} {e : Env} {R : Room} {s : State} {m : MethodId} {args : Array Value} {below : List Frame} {meth : Method} {c : Code} {T : State} {locs : List Loc} {cells slots : Nat}
theorem retI (X : Stand p l e R s m args below meth c T locs cells slots) (hx : p.tables.exec = Jvm.exec) {pc : Nat} {Ls : Array Slot} {z : Int32} {rest : List Value} (hret : meth.sig.returnType = some .int) (hd : decode c.code pc = .ok (.ireturn, 1)) {fs : List Frame}
    (hl : ∀ (f : JFrame) (acts : List Action), f.method = m → f.locked = none → f.entered = [] → (doReturn e (T.setTop f) acts (some (.int z))).1 = T.setFrames fs) : Steps p.tables e below (T.setTop (mkF m pc Ls (.int z :: rest))) (T.setFrames fs) := by
  have hm' : T.vm.method? m = some meth := X.method'
  have hn : narrow .int (.int z) = .int z := rfl
  show Steps p.tables e below (T.setTop { method := m, pc := pc, locals := Ls, stack := _ :: rest, locked := none }) _
  jvm_step X.here [X.here.top, hx, hd, hm', hret, hn]
  first | (intro acts; rw [hl _ acts rfl rfl rfl]) | rw [hl _ _ rfl rfl rfl]
  exact Steps.refl _
end New
end Jvm.RoadKit
@@BLOCK:NumsL.lean.txt@@
namespace Jvm.Pilot.@@N@@
open Jvm Jvm.ClassFile Sem Op Lib Jvm.Free Jvm.Stand Jvm.LawKit Jvm.RoadKit Bundle Jvm.Pilot.@@N@@.Jvm.D
abbrev oS (p : Program) (e : Env) (b : List Frame) (T : State) (f : JFrame) (t : State) : Prop := Steps p.tables e b (T.setTop f) t
theorem ow {a0 : Array Value} {Z : State} (hw : ∀ d ∈ tables_1, d.before a0 Z = true) (i : Nat) {c : Jvm.Cond} (h : tables_1[i]? = some c) : c.before a0 Z = true := hw _ (List.mem_of_getElem? h)
theorem own_decl {args : Array Value} {s : State} {y : MethodName} {bytes : ByteArray} {ml : Nat} {rt : Option FieldType} (h1 : (Jvm.Cond.instanceMethod y).before args s = true) (h2 : (Jvm.Cond.code y bytes ml rt).before args s = true) : (Jvm.Cond.declares y).before args s = true := by
  obtain ⟨m, meth, q1, q2, q3, -⟩ := Cond.instanceMethod_spec h1
  obtain ⟨meth', c, r1, -, -, -, -, -, -, r2⟩ := Cond.code_spec q1 h2
  cases q2.symm.trans r1
  simp [Cond.before, Cond.holds, Cond.value, q1, q2, q3, r2]
theorem own_same {args : Array Value} {s : State} {y z : MethodName} {C : String} (h1 : (Jvm.Cond.instanceMethod y).before args s = true) (h2 : (Jvm.Cond.selects C z z).before args s = true) (hc : z.cls = y.cls) (hx : y.cls ≠ "java/lang/invoke/MethodHandle" ∧ y.cls ≠ "java/lang/invoke/VarHandle") : (Jvm.Cond.sameMethod y.cls y.cls y.name y.desc).before args s = true := by
  obtain ⟨m, meth, q1, -⟩ := Cond.instanceMethod_spec h1
  obtain ⟨c, r, m', -, -, r3, -, mk, r5, r6⟩ := Cond.selects_spec h2
  have f := State.methodFound?_of_named q1 hx
  have c1 := findClass_of_methodNamed q1
  have c2 := findClass_of_methodNamed r3
  rw [hc, c1] at c2
  have e : m.cls = m'.cls := Option.some.inj c2
  rw [← e] at r5
  have q1' : s.methodNamed? ⟨y.cls, y.name, y.desc⟩ = some m := q1
  simp [Cond.before, Cond.holds, Cond.value, c1, f, q1', r5, r6]
theorem own_nf {args : Array Value} {s : State} {y z : MethodName} {C : String} (h2 : (Jvm.Cond.selects C z z).before args s = true) (hc : z.cls = y.cls) : NotFace s y := fun r0 h0 => by
  obtain ⟨c, r, m', -, -, r3, -, mk, r5, r6⟩ := Cond.selects_spec h2
  have c1 := findClass_of_methodNamed h0
  have c2 := findClass_of_methodNamed r3
  rw [hc, c1] at c2
  have e : r0.cls = m'.cls := Option.some.inj c2
  exact ⟨mk, by rw [e]; exact r5, r6⟩
theorem own_eqi {args : Array Value} {first s : State} {o : Option Outcome} {idx : List Nat} {t : Term} {k : Int32} (h : (Jvm.Cond.eq t (.int k)).value args first o s idx = some true) : t.eval args first o idx s = some (.int k) := by
  simp only [Cond.value, Term.eval] at h
  cases ht : t.eval args first o idx s with
  | none => simp [ht] at h
  | some x => cases x <;> simp [ht] at h ⊢; exact h
theorem own_eql {args : Array Value} {first s : State} {o : Option Outcome} {idx : List Nat} {t : Term} {k : Int64} (h : (Jvm.Cond.eq t (.long k)).value args first o s idx = some true) : t.eval args first o idx s = some (.long k) := by
  simp only [Cond.value, Term.eval] at h
  cases ht : t.eval args first o idx s with
  | none => simp [ht] at h
  | some x => cases x <;> simp [ht] at h ⊢; exact h
theorem own_eqr {args : Array Value} {first s : State} {o : Option Outcome} {idx : List Nat} {t u : Term} {a : Addr} (hu : u.eval args first o idx s = some (.ref a)) (h : (Jvm.Cond.eq t u).value args first o s idx = some true) : t.eval args first o idx s = some (.ref a) := by
  simp only [Cond.value, hu] at h
  cases ht : t.eval args first o idx s with
  | none => simp [ht] at h
  | some x => cases x <;> simp [ht] at h ⊢; exact h
theorem own_fld {args : Array Value} {s : State} {t : Term} {x : Addr} {C n d : String} {v : Value} (ht : t.eval args s none [] s = some (.ref x)) (h : (Term.field t C n d).eval args s none [] s = some v) : Fld s s.heap x C n d v := Fld.start ((fld_at ht).symm.trans h)
theorem own_exa_ns {Z : State} {h : Heap} {a : Addr} {C : String} (F : Exa Z h a C) : ∀ c : Cell, h[a]? = some c → c.vm.isStatics = false := fun c hc => by
  obtain ⟨cell, k, h1, -, -, h4, -⟩ := F
  cases h1.symm.trans hc
  exact h4
theorem own_sta_keep {Z : State} {h h' : Heap} {C n d : String} {v : Value} {ws : List Addr} (F : Sta Z h C n d v) (K : Keep h h' ws) (hn : ∀ x ∈ ws, ∀ c : Cell, h[x]? = some c → c.vm.isStatics = false) : Sta Z h' C n d v := by
  obtain ⟨cf, i, k, f, st, cell, h1, h2, h3, h4, h5, h6, h7⟩ := F
  refine ⟨cf, i, k, f, st, cell, h1, h2, h3, h4, K.2.1 st cell h5 (fun q => ?_), h6, h7⟩
  rw [hn st q cell h5] at h6
  cases h6
theorem own_c255e (x : Int32) : ((x &&& (255 : Int32)).toUInt32.toUInt16.toUInt32.toInt32) = (x &&& (255 : Int32)) := by
  apply Int32.toBitVec_inj.mp
  show ((x.toBitVec &&& 255#32).setWidth 16).setWidth 32 = x.toBitVec &&& 255#32
  apply BitVec.eq_of_toNat_eq
  have h : (x.toBitVec &&& 255#32).toNat < 256 := by
    rw [BitVec.toNat_and]
    exact Nat.lt_of_le_of_lt Nat.and_le_right (by decide)
  simp only [BitVec.toNat_setWidth]
  omega
theorem own_c255 (x : Int32) : ¬ (255 : Int32) < ((x &&& (255 : Int32)).toUInt32.toUInt16.toUInt32.toInt32) := by
  have e : (x &&& (255 : Int32)).toInt = x.toInt % 2 ^ 8 := Jvm.Kit.i32_mask x 255 (k := 8) (by decide) (by decide)
  rw [own_c255e, Int32.lt_iff_toInt_lt, e]
  show ¬ (255 : Int) < _
  omega
theorem own_c255n (x : Int32) : ¬ (255 : Int32) < (nar .char ((x &&& (255 : Int32)).toUInt32.toUInt16.toUInt32.toInt32)) := by
  rw [own_c255e]
  exact own_c255 x
def own_ty (p : Int32) (r0 r1 r2 r3 r4 r5 r6 r7 r8 : Addr) : Addr := if p = 0 then r0 else if p = 1 then r1 else if p = 2 then r2 else if p = 3 then r3 else if p = 4 then r4 else if p = 5 then r5 else if p = 6 then r6 else if p = 7 then r7 else r8
def own_st (p : Int32) (r0 r1 r2 r3 : Addr) : Addr := if p = 0 then r0 else if p = 1 then r1 else if p = 2 then r2 else r3
def own_nz (x : Int32) : Int32 := if x = 0 then 0 else 1
theorem own_nzn (x : Int32) : nar .boolean (own_nz x) = own_nz x := by unfold own_nz; split <;> decide
theorem own_wS {a0 : Array Value} {Z : State} (hw : ∀ d ∈ tables_1, d.before a0 Z = true) : ∀ a ∈ Bundle.stringAtoms, a.before a0 Z = true := by
  intro a ha
  simp only [Bundle.stringAtoms, List.mem_cons, List.not_mem_nil, or_false] at ha
  rcases ha with rfl | rfl | rfl | rfl | rfl | rfl | rfl
  · exact (ow hw 3 rfl)
  · exact (ow hw 2 rfl)
  · exact (ow hw 19 rfl)
  · exact (ow hw 29 rfl)
  · exact (ow hw 27 rfl)
  · exact (ow hw 57 rfl)
  · exact (ow hw 58 rfl)
abbrev lc0 (s : Addr) (d : Addr) : Array Slot := #[.val (.ref s), .val (.int (0 : Int32)), .val (.ref d), .val (.int (0 : Int32)), .val (.int (2 : Int32)), .unset, .unset]
theorem d_jdk_52m21_0 : decode jdk_52_method_21_code 0 = .ok (.iconst 0, 1) := by decide +kernel
theorem d_jdk_52m21_1 : decode jdk_52_method_21_code 1 = .ok (.istore 5, 2) := by decide +kernel
abbrev lc1 (s : Addr) (d : Addr) : Array Slot := #[.val (.ref s), .val (.int (0 : Int32)), .val (.ref d), .val (.int (0 : Int32)), .val (.int (2 : Int32)), .val (.int (0 : Int32)), .unset]
theorem d_jdk_52m21_3 : decode jdk_52_method_21_code 3 = .ok (.iload 5, 2) := by decide +kernel
theorem d_jdk_52m21_5 : decode jdk_52_method_21_code 5 = .ok (.iload 4, 2) := by decide +kernel
theorem d_jdk_52m21_7 : decode jdk_52_method_21_code 7 = .ok (.if_icmp .ge 37, 3) := by decide +kernel
theorem d_jdk_52m21_10 : decode jdk_52_method_21_code 10 = .ok (.aload_n 0, 1) := by decide +kernel
theorem d_jdk_52m21_11 : decode jdk_52_method_21_code 11 = .ok (.iload_n 1, 1) := by decide +kernel
theorem d_jdk_52m21_12 : decode jdk_52_method_21_code 12 = .ok (.caload, 1) := by decide +kernel
theorem d_jdk_52m21_13 : decode jdk_52_method_21_code 13 = .ok (.istore 6, 2) := by decide +kernel
abbrev lc2 (s : Addr) (d : Addr) (c0 : Int32) : Array Slot := #[.val (.ref s), .val (.int (0 : Int32)), .val (.ref d), .val (.int (0 : Int32)), .val (.int (2 : Int32)), .val (.int (0 : Int32)), .val (.int c0)]
theorem d_jdk_52m21_15 : decode jdk_52_method_21_code 15 = .ok (.iload 6, 2) := by decide +kernel
theorem d_jdk_52m21_17 : decode jdk_52_method_21_code 17 = .ok (.sipush 255, 3) := by decide +kernel
theorem d_jdk_52m21_20 : decode jdk_52_method_21_code 20 = .ok (.if_icmp .le 6, 3) := by decide +kernel
theorem d_jdk_52m21_26 : decode jdk_52_method_21_code 26 = .ok (.aload_n 2, 1) := by decide +kernel
theorem d_jdk_52m21_27 : decode jdk_52_method_21_code 27 = .ok (.iload_n 3, 1) := by decide +kernel
theorem d_jdk_52m21_28 : decode jdk_52_method_21_code 28 = .ok (.iload 6, 2) := by decide +kernel
theorem d_jdk_52m21_30 : decode jdk_52_method_21_code 30 = .ok (.i2b, 1) := by decide +kernel
theorem d_jdk_52m21_31 : decode jdk_52_method_21_code 31 = .ok (.bastore, 1) := by decide +kernel
theorem d_jdk_52m21_32 : decode jdk_52_method_21_code 32 = .ok (.iinc 1 1, 3) := by decide +kernel
abbrev lc3 (s : Addr) (d : Addr) (c0 : Int32) : Array Slot := #[.val (.ref s), .val (.int ((0 : Int32) + (1 : Int32))), .val (.ref d), .val (.int (0 : Int32)), .val (.int (2 : Int32)), .val (.int (0 : Int32)), .val (.int c0)]
abbrev lc4 (s : Addr) (d : Addr) (c0 : Int32) : Array Slot := #[.val (.ref s), .val (.int (1 : Int32)), .val (.ref d), .val (.int (0 : Int32)), .val (.int (2 : Int32)), .val (.int (0 : Int32)), .val (.int c0)]
theorem d_jdk_52m21_35 : decode jdk_52_method_21_code 35 = .ok (.iinc 3 1, 3) := by decide +kernel
abbrev lc5 (s : Addr) (d : Addr) (c0 : Int32) : Array Slot := #[.val (.ref s), .val (.int (1 : Int32)), .val (.ref d), .val (.int ((0 : Int32) + (1 : Int32))), .val (.int (2 : Int32)), .val (.int (0 : Int32)), .val (.int c0)]
abbrev lc6 (s : Addr) (d : Addr) (c0 : Int32) : Array Slot := #[.val (.ref s), .val (.int (1 : Int32)), .val (.ref d), .val (.int (1 : Int32)), .val (.int (2 : Int32)), .val (.int (0 : Int32)), .val (.int c0)]
theorem d_jdk_52m21_38 : decode jdk_52_method_21_code 38 = .ok (.iinc 5 1, 3) := by decide +kernel
abbrev lc7 (s : Addr) (d : Addr) (c0 : Int32) : Array Slot := #[.val (.ref s), .val (.int (1 : Int32)), .val (.ref d), .val (.int (1 : Int32)), .val (.int (2 : Int32)), .val (.int ((0 : Int32) + (1 : Int32))), .val (.int c0)]
theorem d_jdk_52m21_41 : decode jdk_52_method_21_code 41 = .ok (.goto (-38), 3) := by decide +kernel
abbrev lc8 (s : Addr) (d : Addr) (c0 : Int32) : Array Slot := #[.val (.ref s), .val (.int (1 : Int32)), .val (.ref d), .val (.int (1 : Int32)), .val (.int (2 : Int32)), .val (.int (1 : Int32)), .val (.int c0)]
abbrev lc9 (s : Addr) (d : Addr) (c1 : Int32) : Array Slot := #[.val (.ref s), .val (.int ((1 : Int32) + (1 : Int32))), .val (.ref d), .val (.int (1 : Int32)), .val (.int (2 : Int32)), .val (.int (1 : Int32)), .val (.int c1)]
abbrev lc10 (s : Addr) (d : Addr) (c1 : Int32) : Array Slot := #[.val (.ref s), .val (.int (2 : Int32)), .val (.ref d), .val (.int (1 : Int32)), .val (.int (2 : Int32)), .val (.int (1 : Int32)), .val (.int c1)]
abbrev lc11 (s : Addr) (d : Addr) (c1 : Int32) : Array Slot := #[.val (.ref s), .val (.int (2 : Int32)), .val (.ref d), .val (.int ((1 : Int32) + (1 : Int32))), .val (.int (2 : Int32)), .val (.int (1 : Int32)), .val (.int c1)]
abbrev lc12 (s : Addr) (d : Addr) (c1 : Int32) : Array Slot := #[.val (.ref s), .val (.int (2 : Int32)), .val (.ref d), .val (.int (2 : Int32)), .val (.int (2 : Int32)), .val (.int (1 : Int32)), .val (.int c1)]
abbrev lc13 (s : Addr) (d : Addr) (c1 : Int32) : Array Slot := #[.val (.ref s), .val (.int (2 : Int32)), .val (.ref d), .val (.int (2 : Int32)), .val (.int (2 : Int32)), .val (.int ((1 : Int32) + (1 : Int32))), .val (.int c1)]
abbrev lc14 (s : Addr) (d : Addr) (c1 : Int32) : Array Slot := #[.val (.ref s), .val (.int (2 : Int32)), .val (.ref d), .val (.int (2 : Int32)), .val (.int (2 : Int32)), .val (.int (2 : Int32)), .val (.int c1)]
theorem d_jdk_52m21_44 : decode jdk_52_method_21_code 44 = .ok (.iload 4, 2) := by decide +kernel
theorem d_jdk_52m21_46 : decode jdk_52_method_21_code 46 = .ok (.ireturn, 1) := by decide +kernel
theorem pn_0 : plainName "java/lang/StringUTF16" = true := by first | (simp [plainName, overriddenIn]; done) | decide +kernel
theorem ef_cmp5_2 (mM : MethodId) (x0 : Addr) (x1 : Int32) (x2 : Addr) (x3 : Int32) (x4 : Int32) : entryFrame mM #[(.ref x0), (.int x1), (.ref x2), (.int x3), (.int x4)] 7 = mkF mM 0 #[.val (.ref x0), .val (.int x1), .val (.ref x2), .val (.int x3), .val (.int x4), .unset, .unset] [] := by first | (simp [entryFrame, mkF, argsToLocals, Value.category]; done) | rfl
def Q_cmp5_2 (Z : State) (s : Addr) (d : Addr) (ks : ClassId) (kd : ClassId) (c0 : Int32) (c1 : Int32) (h0 : Heap) (n0 : Nat) (v_ : Option Value) (h_ : Heap) (L_ : List Loc) : Prop := v_ = some (.int (2 : Int32)) ∧ Fr n0 L_ ∧ Keep h0 h_ [d] ∧ Arv Z h_ d kd .byte (2 : Int32) [(.int (nar .byte (c0.toInt8.toInt32))), (.int (nar .byte (c1.toInt8.toInt32)))] (.int (0 : Int32))
set_option maxRecDepth 65536 in
set_option maxHeartbeats 40000000 in
theorem rm_cmp5_2 (l : Launch) (Z : State) (a0 : Array Value) (hw : ∀ d ∈ tables_1, d.before a0 Z = true) (ws : List Jvm.Cond) (s : Addr) (d : Addr) (ks : ClassId) (kd : ClassId) (c0 : Int32) (c1 : Int32) (h0 : Heap) (n0 : Nat) (Z0 : n0 ≤ h0.size) (V_s : Arv Z h0 s ks .char (2 : Int32) [(.int c0), (.int c1)] (.int (0 : Int32))) (V_d : Arv Z h0 d kd .byte (2 : Int32) [(.int (0 : Int32)), (.int (0 : Int32))] (.int (0 : Int32))) (g_d : n0 ≤ d) (nsd : s ≠ d) (hc0 : ¬ (255 : Int32) < c0) (hc1 : ¬ (255 : Int32) < c1) :
    MetFree l (⟨"java/lang/StringUTF16", "compress", "([CI[BII)I"⟩ : MethodName) (head1 (Jvm.Cond.code (⟨"java/lang/StringUTF16", "compress", "([CI[BII)I"⟩ : MethodName) jdk_52_method_21_code 7 (some .int) :: ws) ({ frames := 0, cells := 0, slots := 0, locals := 0 } : Room)) (fun aa_ U_ => aa_ = #[(.ref s), (.int (0 : Int32)), (.ref d), (.int (0 : Int32)), (.int (2 : Int32))] ∧ Z.Warmed39 U_.vm ∧ U_.heap = h0) (fun _ _ _ _ _ => True) (fun _ U_ o_ U'_ => ∃ v_ L_, o_ = .returned v_ ∧ Q_cmp5_2 Z s d ks kd c0 c1 h0 n0 v_ U'_.heap L_ ∧ FrameEnd U_ o_ U'_ L_ ({ frames := 0, cells := 0, slots := 0, locals := 0 } : Room).cells ({ frames := 0, cells := 0, slots := 0, locals := 0 } : Room).slots) := by
  refine MetFree.of_bodySF (plainFor_of_name pn_0) hisR ?_
  intro pP eE sS mM argsA below meth cC s₁ Bd hml0 hP hK
  obtain ⟨rfl, hZ, hh⟩ := hP
  have hx := Bd.exec
  have hby := Bd.bytes
  have hml : cC.maxLocals = 7 := hml0
  have hown : sS.vm.findClass "java/lang/StringUTF16" = some mM.cls := findClass_of_methodNamed Bd.named
  have hnm := (name_of_methodNamed Bd.named Bd.method).1
  have X0 : Stand pP l eE ({ frames := 0, cells := 0, slots := 0, locals := 0 } : Room) sS mM #[(.ref s), (.int (0 : Int32)), (.ref d), (.int (0 : Int32)), (.int (2 : Int32))] below meth cC s₁ [] 0 0 := Stand.of_body Bd
  have e0 : s₁.heap = h0 := by rw [← hh, Bd.state]; rfl
  have N0 := Fr.nil n0
  have pre0 : ∀ t_, Steps pP.tables eE below (s₁.setTop (mkF mM 0 #[.val (.ref s), .val (.int (0 : Int32)), .val (.ref d), .val (.int (0 : Int32)), .val (.int (2 : Int32)), .unset, .unset] [])) t_ → Steps pP.tables eE below (s₁.setTop (entryFrame mM #[(.ref s), (.int (0 : Int32)), (.ref d), (.int (0 : Int32)), (.int (2 : Int32))] 7)) t_ := fun t_ k_ => castTop (ef_cmp5_2 mM s (0 : Int32) d (0 : Int32) (2 : Int32)) k_
  obtain ⟨cl_1, Ar_1, qa_1, Sa_1, Na_1, Ha_1, Ga_1⟩ := id V_s
  have hin_1 : ¬ ((0 : Int32) < 0 ∨ cl_1.slots.size ≤ ((0 : Int32)).toNatClampNeg) := inb_of Sa_1 ⟨by decide, by decide⟩
  have hat_1 : cl_1.slots[((0 : Int32)).toNatClampNeg]? = some (.int c0) := Has.at Ha_1 hin_1 rfl
  obtain ⟨cl_2, Ar_2, qa_2, Sa_2, Na_2, Ha_2, Ga_2⟩ := id V_d
  have hin_2 : ¬ ((0 : Int32) < 0 ∨ cl_2.slots.size ≤ ((0 : Int32)).toNatClampNeg) := inb_of Sa_2 ⟨by decide, by decide⟩
  obtain ⟨T_2, h_2, X_2, e_2, W_2, st_2⟩ := stB X0 hx hZ e0 Ar_2 (j := (0 : Int32)) hin_2 (g := (mkF mM 31 (lc2 s d c0) [(.int (c0.toInt8.toInt32)), (.int (0 : Int32)), (.ref d)])) rfl rfl (hb hby d_jdk_52m21_31)
  have V_2 : Arv Z h_2 d kd .byte (2 : Int32) [(.int (nar .byte (c0.toInt8.toInt32))), (.int (0 : Int32))] (.int (0 : Int32)) := Arv.set Ar_2 qa_2 Sa_2 Na_2 Ha_2 Ga_2 (fits_nar_byte _) W_2 0 rfl (Nat.le_of_ble_eq_true rfl)
  have Z_2 : n0 ≤ h_2.size := (Nat.le_trans Z0 (Keep.of_wr W_2).1)
  have K_2 : Keep h0 h_2 [d] := (Keep.refl h0 [d]).wr W_2 (Or.inl (List.mem_of_getElem? (i := 0) rfl))
  have N_2 := Fr.snoc X_2 N0 g_d
  obtain ⟨cl_3, Ar_3, qa_3, Sa_3, Na_3, Ha_3, Ga_3⟩ := id (V_s.other W_2 nsd)
  have hin_3 : ¬ ((1 : Int32) < 0 ∨ cl_3.slots.size ≤ ((1 : Int32)).toNatClampNeg) := inb_of Sa_3 ⟨by decide, by decide⟩
  have hat_3 : cl_3.slots[((1 : Int32)).toNatClampNeg]? = some (.int c1) := Has.at Ha_3 hin_3 rfl
  obtain ⟨cl_4, Ar_4, qa_4, Sa_4, Na_4, Ha_4, Ga_4⟩ := id V_2
  have hin_4 : ¬ ((1 : Int32) < 0 ∨ cl_4.slots.size ≤ ((1 : Int32)).toNatClampNeg) := inb_of Sa_4 ⟨by decide, by decide⟩
  obtain ⟨T_4, h_4, X_4, e_4, W_4, st_4⟩ := stB X_2 hx hZ e_2 Ar_4 (j := (1 : Int32)) hin_4 (g := (mkF mM 31 (lc8 s d c1) [(.int (c1.toInt8.toInt32)), (.int (1 : Int32)), (.ref d)])) rfl rfl (hb hby d_jdk_52m21_31)
  have V_4 : Arv Z h_4 d kd .byte (2 : Int32) [(.int (nar .byte (c0.toInt8.toInt32))), (.int (nar .byte (c1.toInt8.toInt32)))] (.int (0 : Int32)) := Arv.set Ar_4 qa_4 Sa_4 Na_4 Ha_4 Ga_4 (fits_nar_byte _) W_4 1 rfl (Nat.le_of_ble_eq_true rfl)
  have Z_4 : n0 ≤ h_4.size := (Nat.le_trans Z_2 (Keep.of_wr W_4).1)
  have K_4 : Keep h0 h_4 [d] := K_2.wr W_4 (Or.inl (List.mem_of_getElem? (i := 0) rfl))
  have N_4 := Fr.snoc X_4 N_2 g_d
  obtain ⟨fs, hr, hrun, hended, hW, hsame⟩ := X_4.leave (v := some (.int (2 : Int32))) (fun h => by rw [Bd.returns] at h; cases h)
  refine ⟨_, _, pre0 _ ?_, hrun, hended, _, _, rfl, ?_, ⟨_, rfl⟩, hW, hsame.mono (by decide) (by decide)⟩
  · show oS pP eE below s₁ (mkF mM 0 (lc0 s d) []) _
    refine XS.iconst X0.here hx rfl (hb hby d_jdk_52m21_0) ?_
    refine XS.istore X0.here hx rfl (hb hby d_jdk_52m21_1) rfl (l' := (lc1 s d)) rfl ?_
    refine XS.iload X0.here hx rfl (hb hby d_jdk_52m21_3) rfl ?_
    refine XS.iload X0.here hx rfl (hb hby d_jdk_52m21_5) rfl ?_
    show oS pP eE below s₁ (mkF mM 7 (lc1 s d) [(.int (2 : Int32)), (.int (0 : Int32))]) _
    refine XS.icmpNo X0.here hx rfl (hb hby d_jdk_52m21_7) rfl (by decide) ?_
    refine XS.aloadN X0.here hx rfl (hb hby d_jdk_52m21_10) rfl rfl ?_
    refine XS.iloadN X0.here hx rfl (hb hby d_jdk_52m21_11) rfl ?_
    show oS pP eE below s₁ (mkF mM 12 (lc1 s d) [(.int (0 : Int32)), (.ref s)]) _
    refine X0.caload hx (j := (0 : Int32)) (v := (.int c0)) (by rw [e0]; exact Ar_1.1) (State.isArrayOf_alike hZ.alike Ar_1.2.1) Ar_1.2.2 hin_1 hat_1 (g := (mkF mM 12 (lc1 s d) [(.int (0 : Int32)), (.ref s)])) rfl rfl (hb hby d_jdk_52m21_12) _ ?_
    refine XS.istore X0.here hx rfl (hb hby d_jdk_52m21_13) rfl (l' := (lc2 s d c0)) rfl ?_
    refine XS.iload X0.here hx rfl (hb hby d_jdk_52m21_15) rfl ?_
    refine XS.sipush X0.here hx rfl (hb hby d_jdk_52m21_17) ?_
    show oS pP eE below s₁ (mkF mM 20 (lc2 s d c0) [(.int (255 : Int32)), (.int c0)]) _
    refine XS.icmpYes X0.here hx rfl (pc0 := 20) (pc' := 26) rfl (hb hby d_jdk_52m21_20) rfl (XT.ii_le_t hc0) (by decide) (by decide) ?_
    refine XS.aloadN X0.here hx rfl (hb hby d_jdk_52m21_26) rfl rfl ?_
    refine XS.iloadN X0.here hx rfl (hb hby d_jdk_52m21_27) rfl ?_
    refine XS.iload X0.here hx rfl (hb hby d_jdk_52m21_28) rfl ?_
    show oS pP eE below s₁ (mkF mM 30 (lc2 s d c0) [(.int c0), (.int (0 : Int32)), (.ref d)]) _
    refine XT.i2b X0.here hx rfl (hb hby d_jdk_52m21_30) rfl ?_
    show oS pP eE below s₁ (mkF mM 31 (lc2 s d c0) [(.int (c0.toInt8.toInt32)), (.int (0 : Int32)), (.ref d)]) _
    refine st_2 _ ?_
    show oS pP eE below T_2 (mkF mM 32 (lc2 s d c0) []) _
    refine XS.iinc X_2.here hx rfl (hb hby d_jdk_52m21_32) rfl (l' := (lc3 s d c0)) rfl ?_
    show Steps pP.tables eE below (T_2.setTop (mkF mM 35 #[.val (.ref s), .val (.int ((0 : Int32) + (1 : Int32))), .val (.ref d), .val (.int (0 : Int32)), .val (.int (2 : Int32)), .val (.int (0 : Int32)), .val (.int c0)] [])) _
    rw [(by decide : ((0 : Int32) + (1 : Int32)) = (1 : Int32))]
    show oS pP eE below T_2 (mkF mM 35 (lc4 s d c0) []) _
    refine XS.iinc X_2.here hx rfl (hb hby d_jdk_52m21_35) rfl (l' := (lc5 s d c0)) rfl ?_
    show Steps pP.tables eE below (T_2.setTop (mkF mM 38 #[.val (.ref s), .val (.int (1 : Int32)), .val (.ref d), .val (.int ((0 : Int32) + (1 : Int32))), .val (.int (2 : Int32)), .val (.int (0 : Int32)), .val (.int c0)] [])) _
    rw [(by decide : ((0 : Int32) + (1 : Int32)) = (1 : Int32))]
    show oS pP eE below T_2 (mkF mM 38 (lc6 s d c0) []) _
    refine XS.iinc X_2.here hx rfl (hb hby d_jdk_52m21_38) rfl (l' := (lc7 s d c0)) rfl ?_
    show Steps pP.tables eE below (T_2.setTop (mkF mM 41 #[.val (.ref s), .val (.int (1 : Int32)), .val (.ref d), .val (.int (1 : Int32)), .val (.int (2 : Int32)), .val (.int ((0 : Int32) + (1 : Int32))), .val (.int c0)] [])) _
    rw [(by decide : ((0 : Int32) + (1 : Int32)) = (1 : Int32))]
    refine XS.goto X_2.here hx rfl (pc0 := 41) (pc' := 3) rfl (hb hby d_jdk_52m21_41) (by decide) (by decide) ?_
    refine XS.iload X_2.here hx rfl (hb hby d_jdk_52m21_3) rfl ?_
    refine XS.iload X_2.here hx rfl (hb hby d_jdk_52m21_5) rfl ?_
    show oS pP eE below T_2 (mkF mM 7 (lc8 s d c0) [(.int (2 : Int32)), (.int (1 : Int32))]) _
    refine XS.icmpNo X_2.here hx rfl (hb hby d_jdk_52m21_7) rfl (by decide) ?_
    refine XS.aloadN X_2.here hx rfl (hb hby d_jdk_52m21_10) rfl rfl ?_
    refine XS.iloadN X_2.here hx rfl (hb hby d_jdk_52m21_11) rfl ?_
    show oS pP eE below T_2 (mkF mM 12 (lc8 s d c0) [(.int (1 : Int32)), (.ref s)]) _
    refine X_2.caload hx (j := (1 : Int32)) (v := (.int c1)) (by rw [e_2]; exact Ar_3.1) (State.isArrayOf_alike hZ.alike Ar_3.2.1) Ar_3.2.2 hin_3 hat_3 (g := (mkF mM 12 (lc8 s d c0) [(.int (1 : Int32)), (.ref s)])) rfl rfl (hb hby d_jdk_52m21_12) _ ?_
    refine XS.istore X_2.here hx rfl (hb hby d_jdk_52m21_13) rfl (l' := (lc8 s d c1)) rfl ?_
    refine XS.iload X_2.here hx rfl (hb hby d_jdk_52m21_15) rfl ?_
    refine XS.sipush X_2.here hx rfl (hb hby d_jdk_52m21_17) ?_
    show oS pP eE below T_2 (mkF mM 20 (lc8 s d c1) [(.int (255 : Int32)), (.int c1)]) _
    refine XS.icmpYes X_2.here hx rfl (pc0 := 20) (pc' := 26) rfl (hb hby d_jdk_52m21_20) rfl (XT.ii_le_t hc1) (by decide) (by decide) ?_
    refine XS.aloadN X_2.here hx rfl (hb hby d_jdk_52m21_26) rfl rfl ?_
    refine XS.iloadN X_2.here hx rfl (hb hby d_jdk_52m21_27) rfl ?_
    refine XS.iload X_2.here hx rfl (hb hby d_jdk_52m21_28) rfl ?_
    show oS pP eE below T_2 (mkF mM 30 (lc8 s d c1) [(.int c1), (.int (1 : Int32)), (.ref d)]) _
    refine XT.i2b X_2.here hx rfl (hb hby d_jdk_52m21_30) rfl ?_
    show oS pP eE below T_2 (mkF mM 31 (lc8 s d c1) [(.int (c1.toInt8.toInt32)), (.int (1 : Int32)), (.ref d)]) _
    refine st_4 _ ?_
    show oS pP eE below T_4 (mkF mM 32 (lc8 s d c1) []) _
    refine XS.iinc X_4.here hx rfl (hb hby d_jdk_52m21_32) rfl (l' := (lc9 s d c1)) rfl ?_
    show Steps pP.tables eE below (T_4.setTop (mkF mM 35 #[.val (.ref s), .val (.int ((1 : Int32) + (1 : Int32))), .val (.ref d), .val (.int (1 : Int32)), .val (.int (2 : Int32)), .val (.int (1 : Int32)), .val (.int c1)] [])) _
    rw [(by decide : ((1 : Int32) + (1 : Int32)) = (2 : Int32))]
    show oS pP eE below T_4 (mkF mM 35 (lc10 s d c1) []) _
    refine XS.iinc X_4.here hx rfl (hb hby d_jdk_52m21_35) rfl (l' := (lc11 s d c1)) rfl ?_
    show Steps pP.tables eE below (T_4.setTop (mkF mM 38 #[.val (.ref s), .val (.int (2 : Int32)), .val (.ref d), .val (.int ((1 : Int32) + (1 : Int32))), .val (.int (2 : Int32)), .val (.int (1 : Int32)), .val (.int c1)] [])) _
    rw [(by decide : ((1 : Int32) + (1 : Int32)) = (2 : Int32))]
    show oS pP eE below T_4 (mkF mM 38 (lc12 s d c1) []) _
    refine XS.iinc X_4.here hx rfl (hb hby d_jdk_52m21_38) rfl (l' := (lc13 s d c1)) rfl ?_
    show Steps pP.tables eE below (T_4.setTop (mkF mM 41 #[.val (.ref s), .val (.int (2 : Int32)), .val (.ref d), .val (.int (2 : Int32)), .val (.int (2 : Int32)), .val (.int ((1 : Int32) + (1 : Int32))), .val (.int c1)] [])) _
    rw [(by decide : ((1 : Int32) + (1 : Int32)) = (2 : Int32))]
    refine XS.goto X_4.here hx rfl (pc0 := 41) (pc' := 3) rfl (hb hby d_jdk_52m21_41) (by decide) (by decide) ?_
    refine XS.iload X_4.here hx rfl (hb hby d_jdk_52m21_3) rfl ?_
    refine XS.iload X_4.here hx rfl (hb hby d_jdk_52m21_5) rfl ?_
    show oS pP eE below T_4 (mkF mM 7 (lc14 s d c1) [(.int (2 : Int32)), (.int (2 : Int32))]) _
    refine XS.icmpYes X_4.here hx rfl (pc0 := 7) (pc' := 44) rfl (hb hby d_jdk_52m21_7) rfl (by decide) (by decide) (by decide) ?_
    refine XS.iload X_4.here hx rfl (hb hby d_jdk_52m21_44) rfl ?_
    show oS pP eE below T_4 (mkF mM 46 (lc14 s d c1) [(.int (2 : Int32))]) _
    exact retI X_4 hx Bd.returns (hb hby d_jdk_52m21_46) hr
  · show Q_cmp5_2 Z s d ks kd c0 c1 h0 n0 _ T_4.heap _
    rw [e_4]
    exact ⟨rfl, N_4, K_4, V_4⟩
abbrev lc15 (s : Addr) : Array Slot := #[.val (.ref s), .val (.int (0 : Int32)), .val (.int (2 : Int32)), .unset, .unset, .unset]
theorem d_jdk_52m16_0 : decode jdk_52_method_16_code 0 = .ok (.iload_n 2, 1) := by decide +kernel
theorem d_jdk_52m16_1 : decode jdk_52_method_16_code 1 = .ok (.newarray .byte, 2) := by decide +kernel
theorem d_jdk_52m16_3 : decode jdk_52_method_16_code 3 = .ok (.astore_n 3, 1) := by decide +kernel
abbrev lc16 (s : Addr) (b_1 : Addr) : Array Slot := #[.val (.ref s), .val (.int (0 : Int32)), .val (.int (2 : Int32)), .val (.ref b_1), .unset, .unset]
theorem d_jdk_52m16_4 : decode jdk_52_method_16_code 4 = .ok (.aload_n 0, 1) := by decide +kernel
theorem d_jdk_52m16_5 : decode jdk_52_method_16_code 5 = .ok (.iload_n 1, 1) := by decide +kernel
theorem d_jdk_52m16_6 : decode jdk_52_method_16_code 6 = .ok (.aload_n 3, 1) := by decide +kernel
theorem d_jdk_52m16_7 : decode jdk_52_method_16_code 7 = .ok (.iconst 0, 1) := by decide +kernel
theorem d_jdk_52m16_8 : decode jdk_52_method_16_code 8 = .ok (.iload_n 2, 1) := by decide +kernel
theorem d_jdk_52m16_9 : decode jdk_52_method_16_code 9 = .ok (.invokestatic 115, 3) := by decide +kernel
theorem pd_0 : parseMethodDescriptor "([CI[BII)I" = some ⟨[(.array .char), .int, (.array .byte), .int, .int], some .int⟩ := by decide +kernel
abbrev MN0 : MethodName := ⟨"java/lang/StringUTF16", "compress", "([CI[BII)I"⟩
theorem d_jdk_52m16_12 : decode jdk_52_method_16_code 12 = .ok (.istore 4, 2) := by decide +kernel
abbrev lc17 (s : Addr) (b_1 : Addr) : Array Slot := #[.val (.ref s), .val (.int (0 : Int32)), .val (.int (2 : Int32)), .val (.ref b_1), .val (.int (2 : Int32)), .unset]
theorem d_jdk_52m16_14 : decode jdk_52_method_16_code 14 = .ok (.iload 4, 2) := by decide +kernel
theorem d_jdk_52m16_16 : decode jdk_52_method_16_code 16 = .ok (.iload_n 2, 1) := by decide +kernel
theorem d_jdk_52m16_17 : decode jdk_52_method_16_code 17 = .ok (.if_icmp .eq 40, 3) := by decide +kernel
theorem d_jdk_52m16_57 : decode jdk_52_method_16_code 57 = .ok (.aload_n 3, 1) := by decide +kernel
theorem d_jdk_52m16_58 : decode jdk_52_method_16_code 58 = .ok (.areturn, 1) := by decide +kernel
theorem ef_cmp3_2 (mM : MethodId) (x0 : Addr) (x1 : Int32) (x2 : Int32) : entryFrame mM #[(.ref x0), (.int x1), (.int x2)] 6 = mkF mM 0 #[.val (.ref x0), .val (.int x1), .val (.int x2), .unset, .unset, .unset] [] := by first | (simp [entryFrame, mkF, argsToLocals, Value.category]; done) | rfl
def Q_cmp3_2 (Z : State) (s : Addr) (ks : ClassId) (c0 : Int32) (c1 : Int32) (h0 : Heap) (n0 : Nat) (v_ : Option Value) (h_ : Heap) (L_ : List Loc) : Prop := ∃ d : Addr, ∃ kd : ClassId, v_ = some (.ref d) ∧ Fr n0 L_ ∧ Keep h0 h_ [] ∧ h0.size ≤ d ∧ Arv Z h_ d kd .byte (2 : Int32) [(.int (nar .byte (c0.toInt8.toInt32))), (.int (nar .byte (c1.toInt8.toInt32)))] (.int (0 : Int32))
set_option maxRecDepth 65536 in
set_option maxHeartbeats 40000000 in
theorem rm_cmp3_2 (l : Launch) (Z : State) (a0 : Array Value) (hw : ∀ d ∈ tables_1, d.before a0 Z = true) (ws : List Jvm.Cond) (s : Addr) (ks : ClassId) (c0 : Int32) (c1 : Int32) (h0 : Heap) (n0 : Nat) (Z0 : n0 ≤ h0.size) (V_s : Arv Z h0 s ks .char (2 : Int32) [(.int c0), (.int c1)] (.int (0 : Int32))) (hc0 : ¬ (255 : Int32) < c0) (hc1 : ¬ (255 : Int32) < c1) :
    MetFree l (⟨"java/lang/StringUTF16", "compress", "([CII)[B"⟩ : MethodName) (head1 (Jvm.Cond.code (⟨"java/lang/StringUTF16", "compress", "([CII)[B"⟩ : MethodName) jdk_52_method_16_code 6 (some (.array .byte)) :: ws) ({ frames := 1, cells := 1, slots := 2, locals := 18 } : Room)) (fun aa_ U_ => aa_ = #[(.ref s), (.int (0 : Int32)), (.int (2 : Int32))] ∧ Z.Warmed39 U_.vm ∧ U_.heap = h0) (fun _ _ _ _ _ => True) (fun _ U_ o_ U'_ => ∃ v_ L_, o_ = .returned v_ ∧ Q_cmp3_2 Z s ks c0 c1 h0 n0 v_ U'_.heap L_ ∧ FrameEnd U_ o_ U'_ L_ ({ frames := 1, cells := 1, slots := 2, locals := 18 } : Room).cells ({ frames := 1, cells := 1, slots := 2, locals := 18 } : Room).slots) := by
  refine MetFree.of_bodySF (plainFor_of_name pn_0) hisR ?_
  intro pP eE sS mM argsA below meth cC s₁ Bd hml0 hP hK
  obtain ⟨rfl, hZ, hh⟩ := hP
  have hx := Bd.exec
  have hby := Bd.bytes
  have hml : cC.maxLocals = 6 := hml0
  have hown : sS.vm.findClass "java/lang/StringUTF16" = some mM.cls := findClass_of_methodNamed Bd.named
  have hnm := (name_of_methodNamed Bd.named Bd.method).1
  have X0 : Stand pP l eE ({ frames := 1, cells := 1, slots := 2, locals := 18 } : Room) sS mM #[(.ref s), (.int (0 : Int32)), (.int (2 : Int32))] below meth cC s₁ [] 0 0 := Stand.of_body Bd
  have e0 : s₁.heap = h0 := by rw [← hh, Bd.state]; rfl
  have N0 := Fr.nil n0
  have pre0 : ∀ t_, Steps pP.tables eE below (s₁.setTop (mkF mM 0 #[.val (.ref s), .val (.int (0 : Int32)), .val (.int (2 : Int32)), .unset, .unset, .unset] [])) t_ → Steps pP.tables eE below (s₁.setTop (entryFrame mM #[(.ref s), (.int (0 : Int32)), (.int (2 : Int32))] 6)) t_ := fun t_ k_ => castTop (ef_cmp3_2 mM s (0 : Int32) (2 : Int32)) k_
  obtain ⟨T_1, h_1, k_1, X_1, e_1, E_1, A_1, st_1⟩ := newP X0 hx hZ (ow hw 19 rfl) e0 (g := (mkF mM 1 (lc15 s) [(.int (2 : Int32))])) rfl (hb hby d_jdk_52m16_1) rfl (by decide) (cap := 2) (by decide) (by decide) (by decide) (by decide)
  obtain ⟨b_1, g_1⟩ : ∃ z, z = h0.size := ⟨_, rfl⟩
  rw [← g_1] at A_1 st_1
  have g_b_1 : n0 ≤ b_1 := Nat.le_trans Z0 (Nat.le_of_eq g_1.symm)
  have sz_b_1 : h0.size ≤ b_1 := Nat.le_trans (Keep.refl h0 []).1 (Nat.le_of_eq g_1.symm)
  have Z_1 : n0 ≤ h_1.size := (Nat.le_trans Z0 E_1.1)
  have K_1 : Keep h0 h_1 [] := (Keep.refl h0 []).ext E_1
  have V_b_1 : Arv Z h_1 b_1 k_1 .byte (2 : Int32) [(.int (0 : Int32)), (.int (0 : Int32))] (.int (0 : Int32)) := (Arv.new A_1 (by decide)).pad (pad_rep [] (.int (0 : Int32)) 2)
  obtain ⟨_, _, ⟨T_2, L_2, k_2, n_2⟩, -, X_2, ⟨Lc_2, hQ_2, l_2, y_2, z_2⟩, st_2⟩ := Jvm.LawKit.callS X_1 hx (y := MN0) hown (mvT hZ (ow hw 20 rfl)) (mvT hZ (ow hw 21 rfl)) (mvT hZ (ow hw 17 rfl)) (mvT hZ (ow hw 22 rfl)) (by decide) (backOf (W := 0) (rm_cmp5_2 l Z a0 hw [] s b_1 ks k_1 c0 c1 h_1 n0 Z_1 (V_s.ext E_1) V_b_1 g_b_1 (Nat.ne_of_lt (Nat.lt_of_lt_of_le V_s.lt (Nat.le_of_eq g_1.symm))) hc0 hc1) hZ (ow hw 22 rfl) (ow hw 17 rfl) (by decide) (by decide)) (g := (mkF mM 9 (lc16 s b_1) [(.int (2 : Int32)), (.int (0 : Int32)), (.ref b_1), (.int (0 : Int32)), (.ref s)])) rfl (by rw [hml]; rfl) (argsL := [(.ref s), (.int (0 : Int32)), (.ref b_1), (.int (0 : Int32)), (.int (2 : Int32))]) (rest := []) (lenOf pd_0 rfl) rfl (by show 2 * 0 + _ ≤ _; exact Nat.le_of_eq rfl) (hb hby d_jdk_52m16_9) (fun _ _ => ⟨rfl, e_1, (by decide : 1 + 0 ≤ _), (by decide : 2 + 0 ≤ _)⟩)
  dsimp only [Pt.U, Pt.locs, Pt.cells, Pt.slots] at X_2 l_2 y_2 z_2 st_2 hQ_2
  subst l_2 y_2 z_2
  obtain ⟨rfl, N_2q, Kc_2, pfV_d_2⟩ := hQ_2
  have Z_2 : n0 ≤ T_2.heap.size := (Nat.le_trans Z_1 Kc_2.1)
  have K_2 : Keep h0 T_2.heap [] := K_1.trans Kc_2 (allS (Or.inr sz_b_1) all0)
  have N_2 := Fr.app N0 N_2q
  obtain ⟨fs, hr, hrun, hended, hW, hsame⟩ := X_2.leave (v := some (.ref b_1)) (fun h => by rw [Bd.returns] at h; cases h)
  refine ⟨_, _, pre0 _ ?_, hrun, hended, _, _, rfl, ?_, ⟨_, rfl⟩, hW, hsame.mono (by decide) (by decide)⟩
  · show oS pP eE below s₁ (mkF mM 0 (lc15 s) []) _
    refine XS.iloadN X0.here hx rfl (hb hby d_jdk_52m16_0) rfl ?_
    show oS pP eE below s₁ (mkF mM 1 (lc15 s) [(.int (2 : Int32))]) _
    refine st_1 _ ?_
    show oS pP eE below T_1 (mkF mM 3 (lc15 s) [(.ref b_1)]) _
    refine XS.astoreN X_1.here hx rfl (hb hby d_jdk_52m16_3) rfl rfl (l' := (lc16 s b_1)) rfl ?_
    refine XS.aloadN X_1.here hx rfl (hb hby d_jdk_52m16_4) rfl rfl ?_
    refine XS.iloadN X_1.here hx rfl (hb hby d_jdk_52m16_5) rfl ?_
    refine XS.aloadN X_1.here hx rfl (hb hby d_jdk_52m16_6) rfl rfl ?_
    show oS pP eE below T_1 (mkF mM 7 (lc16 s b_1) [(.ref b_1), (.int (0 : Int32)), (.ref s)]) _
    refine XS.iconst X_1.here hx rfl (hb hby d_jdk_52m16_7) ?_
    refine XS.iloadN X_1.here hx rfl (hb hby d_jdk_52m16_8) rfl ?_
    show oS pP eE below T_1 (mkF mM 9 (lc16 s b_1) [(.int (2 : Int32)), (.int (0 : Int32)), (.ref b_1), (.int (0 : Int32)), (.ref s)]) _
    refine st_2 _ ?_
    show oS pP eE below T_2 (mkF mM 12 (lc16 s b_1) [(.int (2 : Int32))]) _
    refine XS.istore X_2.here hx rfl (hb hby d_jdk_52m16_12) rfl (l' := (lc17 s b_1)) rfl ?_
    refine XS.iload X_2.here hx rfl (hb hby d_jdk_52m16_14) rfl ?_
    refine XS.iloadN X_2.here hx rfl (hb hby d_jdk_52m16_16) rfl ?_
    refine XS.icmpYes X_2.here hx rfl (pc0 := 17) (pc' := 57) rfl (hb hby d_jdk_52m16_17) rfl (by decide) (by decide) (by decide) ?_
    show oS pP eE below T_2 (mkF mM 57 (lc17 s b_1) []) _
    refine XS.aloadN X_2.here hx rfl (hb hby d_jdk_52m16_57) rfl rfl ?_
    show oS pP eE below T_2 (mkF mM 58 (lc17 s b_1) [(.ref b_1)]) _
    exact retOut X_2 hx Bd.returns rfl (Or.inr (Or.inr (Or.inr (Or.inr ⟨rfl, rfl, rfl⟩)))) (hb hby d_jdk_52m16_58) hr
  · show Q_cmp3_2 Z s ks c0 c1 h0 n0 _ T_2.heap _
    exact ⟨b_1, k_1, rfl, N_2, K_2, sz_b_1, pfV_d_2⟩
theorem d_jdk_52m15_0 : decode jdk_52_method_15_code 0 = .ok (.iload_n 1, 1) := by decide +kernel
theorem d_jdk_52m15_1 : decode jdk_52_method_15_code 1 = .ok (.aload_n 0, 1) := by decide +kernel
theorem d_jdk_52m15_2 : decode jdk_52_method_15_code 2 = .ok (.arraylength, 1) := by decide +kernel
theorem d_jdk_52m15_3 : decode jdk_52_method_15_code 3 = .ok (.isub, 1) := by decide +kernel
theorem d_jdk_52m15_4 : decode jdk_52_method_15_code 4 = .ok (.bipush 31, 2) := by decide +kernel
theorem d_jdk_52m15_6 : decode jdk_52_method_15_code 6 = .ok (.iushr, 1) := by decide +kernel
theorem d_jdk_52m15_7 : decode jdk_52_method_15_code 7 = .ok (.i2b, 1) := by decide +kernel
theorem d_jdk_52m15_8 : decode jdk_52_method_15_code 8 = .ok (.ireturn, 1) := by decide +kernel
theorem ef_cfl_2 (mM : MethodId) (x0 : Addr) (x1 : Int32) : entryFrame mM #[(.ref x0), (.int x1)] 2 = mkF mM 0 #[.val (.ref x0), .val (.int x1)] [] := by first | (simp [entryFrame, mkF, argsToLocals, Value.category]; done) | rfl
def Q_cfl_2 (Z : State) (d : Addr) (kd : ClassId) (w0 : Int32) (w1 : Int32) (h0 : Heap) (n0 : Nat) (v_ : Option Value) (h_ : Heap) (L_ : List Loc) : Prop := v_ = some (.int (0 : Int32)) ∧ Fr n0 L_ ∧ h_ = h0
set_option maxRecDepth 65536 in
set_option maxHeartbeats 40000000 in
theorem rm_cfl_2 (l : Launch) (Z : State) (a0 : Array Value) (hw : ∀ d ∈ tables_1, d.before a0 Z = true) (ws : List Jvm.Cond) (d : Addr) (kd : ClassId) (w0 : Int32) (w1 : Int32) (h0 : Heap) (n0 : Nat) (Z0 : n0 ≤ h0.size) (V_d : Arv Z h0 d kd .byte (2 : Int32) [(.int w0), (.int w1)] (.int (0 : Int32))) :
    MetFree l (⟨"java/lang/StringUTF16", "coderFromArrayLen", "([BI)B"⟩ : MethodName) (head1 (Jvm.Cond.code (⟨"java/lang/StringUTF16", "coderFromArrayLen", "([BI)B"⟩ : MethodName) jdk_52_method_15_code 2 (some .byte) :: ws) ({ frames := 0, cells := 0, slots := 0, locals := 0 } : Room)) (fun aa_ U_ => aa_ = #[(.ref d), (.int (2 : Int32))] ∧ Z.Warmed39 U_.vm ∧ U_.heap = h0) (fun _ _ _ _ _ => True) (fun _ U_ o_ U'_ => ∃ v_ L_, o_ = .returned v_ ∧ Q_cfl_2 Z d kd w0 w1 h0 n0 v_ U'_.heap L_ ∧ FrameEnd U_ o_ U'_ L_ ({ frames := 0, cells := 0, slots := 0, locals := 0 } : Room).cells ({ frames := 0, cells := 0, slots := 0, locals := 0 } : Room).slots) := by
  refine MetFree.of_bodySF (plainFor_of_name pn_0) hisR ?_
  intro pP eE sS mM argsA below meth cC s₁ Bd hml0 hP hK
  obtain ⟨rfl, hZ, hh⟩ := hP
  have hx := Bd.exec
  have hby := Bd.bytes
  have hml : cC.maxLocals = 2 := hml0
  have hown : sS.vm.findClass "java/lang/StringUTF16" = some mM.cls := findClass_of_methodNamed Bd.named
  have hnm := (name_of_methodNamed Bd.named Bd.method).1
  have X0 : Stand pP l eE ({ frames := 0, cells := 0, slots := 0, locals := 0 } : Room) sS mM #[(.ref d), (.int (2 : Int32))] below meth cC s₁ [] 0 0 := Stand.of_body Bd
  have e0 : s₁.heap = h0 := by rw [← hh, Bd.state]; rfl
  have N0 := Fr.nil n0
  have pre0 : ∀ t_, Steps pP.tables eE below (s₁.setTop (mkF mM 0 #[.val (.ref d), .val (.int (2 : Int32))] [])) t_ → Steps pP.tables eE below (s₁.setTop (entryFrame mM #[(.ref d), (.int (2 : Int32))] 2)) t_ := fun t_ k_ => castTop (ef_cfl_2 mM d (2 : Int32)) k_
  obtain ⟨cl_1, Ar_1, -, Sa_1, Na_1, -, -⟩ := id V_d
  obtain ⟨fs, hr, hrun, hended, hW, hsame⟩ := X0.leave (v := some (.int (0 : Int32))) (fun h => by rw [Bd.returns] at h; cases h)
  refine ⟨_, _, pre0 _ ?_, hrun, hended, _, _, rfl, ?_, ⟨_, rfl⟩, hW, hsame.mono (by decide) (by decide)⟩
  · show oS pP eE below s₁ (mkF mM 0 #[.val (.ref d), .val (.int (2 : Int32))] []) _
    refine XS.iloadN X0.here hx rfl (hb hby d_jdk_52m15_0) rfl ?_
    refine XS.aloadN X0.here hx rfl (hb hby d_jdk_52m15_1) rfl rfl ?_
    show oS pP eE below s₁ (mkF mM 2 #[.val (.ref d), .val (.int (2 : Int32))] [(.ref d), (.int (2 : Int32))]) _
    refine X0.arraylength hx (by rw [e0]; exact Ar_1.1) (State.isArrayOf_alike hZ.alike Ar_1.2.1) (g := (mkF mM 2 #[.val (.ref d), .val (.int (2 : Int32))] [(.ref d), (.int (2 : Int32))])) rfl rfl (hb hby d_jdk_52m15_2) _ ?_
    rw [len_of Sa_1 Na_1]
    show oS pP eE below s₁ (mkF mM 3 #[.val (.ref d), .val (.int (2 : Int32))] [(.int (2 : Int32)), (.int (2 : Int32))]) _
    refine XS.isub X0.here hx rfl (hb hby d_jdk_52m15_3) rfl ?_
    show Steps pP.tables eE below (s₁.setTop (mkF mM 4 #[.val (.ref d), .val (.int (2 : Int32))] [(.int ((2 : Int32) - (2 : Int32)))])) _
    rw [(by decide : ((2 : Int32) - (2 : Int32)) = (0 : Int32))]
    refine XS.bipush X0.here hx rfl (hb hby d_jdk_52m15_4) ?_
    show oS pP eE below s₁ (mkF mM 6 #[.val (.ref d), .val (.int (2 : Int32))] [(.int (31 : Int32)), (.int (0 : Int32))]) _
    refine XT.iushr X0.here hx rfl (hb hby d_jdk_52m15_6) rfl ?_
    show Steps pP.tables eE below (s₁.setTop (mkF mM 7 #[.val (.ref d), .val (.int (2 : Int32))] [(.int (XT.ushr (0 : Int32) (31 : Int32)))])) _
    rw [(by decide : (XT.ushr (0 : Int32) (31 : Int32)) = (0 : Int32))]
    show oS pP eE below s₁ (mkF mM 7 #[.val (.ref d), .val (.int (2 : Int32))] [(.int (0 : Int32))]) _
    refine XT.i2b X0.here hx rfl (hb hby d_jdk_52m15_7) rfl ?_
    show Steps pP.tables eE below (s₁.setTop (mkF mM 8 #[.val (.ref d), .val (.int (2 : Int32))] [(.int ((0 : Int32).toInt8.toInt32))])) _
    rw [(by decide : ((0 : Int32).toInt8.toInt32) = (0 : Int32))]
    show oS pP eE below s₁ (mkF mM 8 #[.val (.ref d), .val (.int (2 : Int32))] [(.int (0 : Int32))]) _
    exact retN X0 hx (t := .byte) Bd.returns (by simp) (hb hby d_jdk_52m15_8) hr
  · show Q_cfl_2 Z d kd w0 w1 h0 n0 _ s₁.heap _
    rw [e0]
    exact ⟨rfl, N0, rfl⟩
abbrev lc18 (a : Addr) (s : Addr) : Array Slot := #[.val (.ref a), .val (.ref s), .val (.int (0 : Int32)), .val (.int (2 : Int32)), .val .null, .unset]
theorem d_jdk_42m149_0 : decode jdk_42_method_149_code 0 = .ok (.aload_n 0, 1) := by decide +kernel
theorem d_jdk_42m149_1 : decode jdk_42_method_149_code 1 = .ok (.invokespecial 1, 3) := by decide +kernel
theorem d_jdk_42m149_4 : decode jdk_42_method_149_code 4 = .ok (.iload_n 3, 1) := by decide +kernel
theorem d_jdk_42m149_5 : decode jdk_42_method_149_code 5 = .ok (.ifCond .ne 22, 3) := by decide +kernel
theorem d_jdk_42m149_27 : decode jdk_42_method_149_code 27 = .ok (.getstatic 38, 3) := by decide +kernel
theorem d_jdk_42m149_30 : decode jdk_42_method_149_code 30 = .ok (.ifCond .eq 28, 3) := by decide +kernel
theorem d_jdk_42m149_33 : decode jdk_42_method_149_code 33 = .ok (.aload_n 1, 1) := by decide +kernel
theorem d_jdk_42m149_34 : decode jdk_42_method_149_code 34 = .ok (.iload_n 2, 1) := by decide +kernel
theorem d_jdk_42m149_35 : decode jdk_42_method_149_code 35 = .ok (.iload_n 3, 1) := by decide +kernel
theorem d_jdk_42m149_36 : decode jdk_42_method_149_code 36 = .ok (.invokestatic 177, 3) := by decide +kernel
theorem pd_1 : parseMethodDescriptor "([CII)[B" = some ⟨[(.array .char), .int, .int], some (.array .byte)⟩ := by decide +kernel
abbrev MN1 : MethodName := ⟨"java/lang/StringUTF16", "compress", "([CII)[B"⟩
theorem d_jdk_42m149_39 : decode jdk_42_method_149_code 39 = .ok (.astore 5, 2) := by decide +kernel
abbrev lc19 (a : Addr) (s : Addr) (d__3 : Addr) : Array Slot := #[.val (.ref a), .val (.ref s), .val (.int (0 : Int32)), .val (.int (2 : Int32)), .val .null, .val (.ref d__3)]
theorem d_jdk_42m149_41 : decode jdk_42_method_149_code 41 = .ok (.aload_n 0, 1) := by decide +kernel
theorem d_jdk_42m149_42 : decode jdk_42_method_149_code 42 = .ok (.aload 5, 2) := by decide +kernel
theorem d_jdk_42m149_44 : decode jdk_42_method_149_code 44 = .ok (.iload_n 3, 1) := by decide +kernel
theorem d_jdk_42m149_45 : decode jdk_42_method_149_code 45 = .ok (.invokestatic 47, 3) := by decide +kernel
theorem pd_2 : parseMethodDescriptor "([BI)B" = some ⟨[(.array .byte), .int], some .byte⟩ := by decide +kernel
abbrev MN2 : MethodName := ⟨"java/lang/StringUTF16", "coderFromArrayLen", "([BI)B"⟩
theorem d_jdk_42m149_48 : decode jdk_42_method_149_code 48 = .ok (.putfield 15, 3) := by decide +kernel
theorem d_jdk_42m149_51 : decode jdk_42_method_149_code 51 = .ok (.aload_n 0, 1) := by decide +kernel
theorem d_jdk_42m149_52 : decode jdk_42_method_149_code 52 = .ok (.aload 5, 2) := by decide +kernel
theorem d_jdk_42m149_54 : decode jdk_42_method_149_code 54 = .ok (.putfield 9, 3) := by decide +kernel
theorem d_jdk_42m149_57 : decode jdk_42_method_149_code 57 = .ok (.return_, 1) := by decide +kernel
theorem pn_1 : plainName "java/lang/String" = true := by first | (simp [plainName, overriddenIn]; done) | decide +kernel
theorem ef_str5_2 (mM : MethodId) (x0 : Addr) (x1 : Addr) (x2 : Int32) (x3 : Int32) : entryFrame mM #[(.ref x0), (.ref x1), (.int x2), (.int x3), .null] 6 = mkF mM 0 #[.val (.ref x0), .val (.ref x1), .val (.int x2), .val (.int x3), .val .null, .unset] [] := by first | (simp [entryFrame, mkF, argsToLocals, Value.category]; done) | rfl
def Q_str5_2 (Z : State) (a : Addr) (s : Addr) (ks : ClassId) (cs : Int32) (c0 : Int32) (c1 : Int32) (h0 : Heap) (n0 : Nat) (v_ : Option Value) (h_ : Heap) (L_ : List Loc) : Prop := ∃ d : Addr, ∃ kd : ClassId, v_ = none ∧ Fr n0 L_ ∧ Keep h0 h_ [a] ∧ h0.size ≤ d ∧ Exa Z h_ a "java/lang/String" ∧ Fld Z h_ a "java/lang/String" "value" "[B" (.ref d) ∧ Fld Z h_ a "java/lang/String" "coder" "B" (.int (0 : Int32)) ∧ Arv Z h_ d kd .byte (2 : Int32) [(.int (nar .byte (c0.toInt8.toInt32))), (.int (nar .byte (c1.toInt8.toInt32)))] (.int (0 : Int32))
set_option maxRecDepth 65536 in
set_option maxHeartbeats 40000000 in
theorem rm_str5_2 (l : Launch) (Z : State) (a0 : Array Value) (hw : ∀ d ∈ tables_1, d.before a0 Z = true) (ws : List Jvm.Cond) (a : Addr) (s : Addr) (ks : ClassId) (cs : Int32) (c0 : Int32) (c1 : Int32) (h0 : Heap) (n0 : Nat) (Z0 : n0 ≤ h0.size) (F_value_a : Fld Z h0 a "java/lang/String" "value" "[B" .null) (F_coder_a : Fld Z h0 a "java/lang/String" "coder" "B" (.int (0 : Int32))) (E_a : Exa Z h0 a "java/lang/String") (g_a : n0 ≤ a) (S_String_COMPACT_STRINGS : Sta Z h0 "java/lang/String" "COMPACT_STRINGS" "Z" (.int cs)) (hcs : ¬ cs = 0) (V_s : Arv Z h0 s ks .char (2 : Int32) [(.int c0), (.int c1)] (.int (0 : Int32))) (nas : a ≠ s) (hc0 : ¬ (255 : Int32) < c0) (hc1 : ¬ (255 : Int32) < c1) :
    MetFree l (⟨"java/lang/String", "<init>", "([CIILjava/lang/Void;)V"⟩ : MethodName) (head1 (Jvm.Cond.code (⟨"java/lang/String", "<init>", "([CIILjava/lang/Void;)V"⟩ : MethodName) jdk_42_method_149_code 6 none :: ws) ({ frames := 2, cells := 1, slots := 2, locals := 35 } : Room)) (fun aa_ U_ => aa_ = #[(.ref a), (.ref s), (.int (0 : Int32)), (.int (2 : Int32)), .null] ∧ Z.Warmed39 U_.vm ∧ U_.heap = h0) (fun _ _ _ _ _ => True) (fun _ U_ o_ U'_ => ∃ v_ L_, o_ = .returned v_ ∧ Q_str5_2 Z a s ks cs c0 c1 h0 n0 v_ U'_.heap L_ ∧ FrameEnd U_ o_ U'_ L_ ({ frames := 2, cells := 1, slots := 2, locals := 35 } : Room).cells ({ frames := 2, cells := 1, slots := 2, locals := 35 } : Room).slots) := by
  refine MetFree.of_bodySF (plainFor_of_name pn_1) hisR ?_
  intro pP eE sS mM argsA below meth cC s₁ Bd hml0 hP hK
  obtain ⟨rfl, hZ, hh⟩ := hP
  have hx := Bd.exec
  have hby := Bd.bytes
  have hml : cC.maxLocals = 6 := hml0
  have hown : sS.vm.findClass "java/lang/String" = some mM.cls := findClass_of_methodNamed Bd.named
  have hnm := (name_of_methodNamed Bd.named Bd.method).1
  have X0 : Stand pP l eE ({ frames := 2, cells := 1, slots := 2, locals := 35 } : Room) sS mM #[(.ref a), (.ref s), (.int (0 : Int32)), (.int (2 : Int32)), .null] below meth cC s₁ [] 0 0 := Stand.of_body Bd
  have e0 : s₁.heap = h0 := by rw [← hh, Bd.state]; rfl
  have N0 := Fr.nil n0
  have pre0 : ∀ t_, Steps pP.tables eE below (s₁.setTop (mkF mM 0 #[.val (.ref a), .val (.ref s), .val (.int (0 : Int32)), .val (.int (2 : Int32)), .val .null, .unset] [])) t_ → Steps pP.tables eE below (s₁.setTop (entryFrame mM #[(.ref a), (.ref s), (.int (0 : Int32)), (.int (2 : Int32)), .null] 6)) t_ := fun t_ k_ => castTop (ef_str5_2 mM a s (0 : Int32) (2 : Int32)) k_
  obtain ⟨T_1, X_1, e_1, st_1⟩ := initO X0 hx hZ hown (ow hw 11 rfl) (ow hw 12 rfl) (ow hw 13 rfl) e0 (g := (mkF mM 1 (lc18 a s) [(.ref a)])) rfl (by rw [hml]; rfl) rfl (hb hby d_jdk_42m149_1) (by decide) (W := 0) (by show 2 * 0 + _ ≤ _; exact Nat.le_of_eq rfl) (by decide)
  obtain ⟨T_2, X_2, e_2, st_2⟩ := getS2 X_1 hx hZ hown (host := "") (Or.inl (ow hw 14 rfl)) Via.refl e_1 S_String_COMPACT_STRINGS (g := (mkF mM 27 (lc18 a s) [])) rfl (hb hby d_jdk_42m149_27)
  obtain ⟨_, _, ⟨T_3, L_3, k_3, n_3⟩, -, X_3, ⟨Lc_3, hQ_3, l_3, y_3, z_3⟩, st_3⟩ := Jvm.LawKit.callS X_2 hx (y := MN1) hown (mvT hZ (ow hw 15 rfl)) (mvT hZ (ow hw 16 rfl)) (mvT hZ (ow hw 17 rfl)) (mvT hZ (ow hw 18 rfl)) (by decide) (backOf (W := 0) (rm_cmp3_2 l Z a0 hw [] s ks c0 c1 h0 n0 Z0 V_s hc0 hc1) hZ (ow hw 18 rfl) (ow hw 17 rfl) (by decide) (by decide)) (g := (mkF mM 36 (lc18 a s) [(.int (2 : Int32)), (.int (0 : Int32)), (.ref s)])) rfl (by rw [hml]; rfl) (argsL := [(.ref s), (.int (0 : Int32)), (.int (2 : Int32))]) (rest := []) (lenOf pd_1 rfl) rfl (by show 2 * 0 + _ ≤ _; exact Nat.le_of_eq rfl) (hb hby d_jdk_42m149_36) (fun _ _ => ⟨rfl, e_2, (by decide : 0 + 1 ≤ _), (by decide : 0 + 2 ≤ _)⟩)
  dsimp only [Pt.U, Pt.locs, Pt.cells, Pt.slots] at X_3 l_3 y_3 z_3 st_3 hQ_3
  subst l_3 y_3 z_3
  obtain ⟨d__3, ⟨kd__3, ⟨rfl, N_3q, Kc_3, pfsz_d_3, pfV_d_3⟩⟩⟩ := hQ_3
  have Z_3 : n0 ≤ T_3.heap.size := (Nat.le_trans Z0 Kc_3.1)
  have K_3 : Keep h0 T_3.heap [a] := (Keep.refl h0 [a]).trans Kc_3 all0
  have sz_d__3 : h0.size ≤ d__3 := Nat.le_trans (Keep.refl h0 [a]).1 pfsz_d_3
  have g_d__3 : n0 ≤ d__3 := Nat.le_trans Z0 pfsz_d_3
  have N_3 := Fr.app N0 N_3q
  obtain ⟨_, _, ⟨T_4, L_4, k_4, n_4⟩, -, X_4, ⟨Lc_4, hQ_4, l_4, y_4, z_4⟩, st_4⟩ := Jvm.LawKit.callS X_3 hx (y := MN2) hown (mvT hZ (ow hw 23 rfl)) (mvT hZ (ow hw 24 rfl)) (mvT hZ (ow hw 17 rfl)) (mvT hZ (ow hw 25 rfl)) (by decide) (backOf (W := 1) (rm_cfl_2 l Z a0 hw [] d__3 kd__3 (nar .byte (c0.toInt8.toInt32)) (nar .byte (c1.toInt8.toInt32)) T_3.heap n0 Z_3 pfV_d_3) hZ (ow hw 25 rfl) (ow hw 17 rfl) (by decide) (by decide)) (g := (mkF mM 45 (lc19 a s d__3) [(.int (2 : Int32)), (.ref d__3), (.ref a)])) rfl (by rw [hml]; rfl) (argsL := [(.ref d__3), (.int (2 : Int32))]) (rest := [(.ref a)]) (lenOf pd_2 rfl) rfl (by show 2 * 0 + _ ≤ _; exact Nat.le_of_eq rfl) (hb hby d_jdk_42m149_45) (fun _ _ => ⟨rfl, rfl, (by decide : 1 + 0 ≤ _), (by decide : 2 + 0 ≤ _)⟩)
  dsimp only [Pt.U, Pt.locs, Pt.cells, Pt.slots] at X_4 l_4 y_4 z_4 st_4 hQ_4
  subst l_4 y_4 z_4
  obtain ⟨rfl, N_4q, eh_4⟩ := hQ_4
  have N_4 := Fr.app N_3 N_4q
  obtain ⟨T_5, h_5, X_5, e_5, W_5, st_5⟩ := putFN X_4 hx hZ hown (ow hw 26 rfl) Via.refl eh_4 (F_coder_a.keep Kc_3 nin0) (E_a.keep Kc_3) (Or.inr ⟨(ow hw 27 rfl), rfl, hnm⟩) (ow hw 2 rfl) (ty := .byte) (v' := (.int (0 : Int32))) (by decide) rfl rfl (g := (mkF mM 48 (lc19 a s d__3) [(.int (0 : Int32)), (.ref a)])) rfl rfl (hb hby d_jdk_42m149_48)
  have Fw_5 := (F_coder_a.keep Kc_3 nin0).same W_5
  have Z_5 : n0 ≤ h_5.size := (Nat.le_trans Z_3 (Keep.of_wr W_5).1)
  have K_5 : Keep h0 h_5 [a] := K_3.wr W_5 (Or.inl (List.mem_of_getElem? (i := 0) rfl))
  have N_5 := Fr.snoc X_5 N_4 g_a
  obtain ⟨T_6, h_6, X_6, e_6, W_6, st_6⟩ := putF X_5 hx hZ hown (host := "") (Or.inl (ow hw 28 rfl)) Via.refl e_5 ((F_value_a.keep Kc_3 nin0).other W_5 (Or.inr (slot_ne (Or.inr (ow hw 29 rfl)) (Or.inr (ow hw 27 rfl)) (by decide) (t := (.array .byte)) (t' := .byte) (by decide) (by decide)))) ((E_a.keep Kc_3).wr W_5) (Or.inr ⟨(ow hw 29 rfl), rfl, hnm⟩) (ow hw 2 rfl) (ty := (.array .byte)) (by decide) rfl rfl (g := (mkF mM 54 (lc19 a s d__3) [(.ref d__3), (.ref a)])) rfl rfl (hb hby d_jdk_42m149_54)
  have Fw_6 := ((F_value_a.keep Kc_3 nin0).other W_5 (Or.inr (slot_ne (Or.inr (ow hw 29 rfl)) (Or.inr (ow hw 27 rfl)) (by decide) (t := (.array .byte)) (t' := .byte) (by decide) (by decide)))).same W_6
  have Z_6 : n0 ≤ h_6.size := (Nat.le_trans Z_5 (Keep.of_wr W_6).1)
  have K_6 : Keep h0 h_6 [a] := K_5.wr W_6 (Or.inl (List.mem_of_getElem? (i := 0) rfl))
  have N_6 := Fr.snoc X_6 N_5 g_a
  obtain ⟨fs, hr, hrun, hended, hW, hsame⟩ := X_6.leave (v := none) (fun _ => rfl)
  refine ⟨_, _, pre0 _ ?_, hrun, hended, _, _, rfl, ?_, ⟨_, rfl⟩, hW, hsame.mono (by decide) (by decide)⟩
  · show oS pP eE below s₁ (mkF mM 0 (lc18 a s) []) _
    refine XS.aloadN X0.here hx rfl (hb hby d_jdk_42m149_0) rfl rfl ?_
    show oS pP eE below s₁ (mkF mM 1 (lc18 a s) [(.ref a)]) _
    refine st_1 _ ?_
    show oS pP eE below T_1 (mkF mM 4 (lc18 a s) []) _
    refine XS.iloadN X_1.here hx rfl (hb hby d_jdk_42m149_4) rfl ?_
    refine XS.ifYes X_1.here hx rfl (pc0 := 5) (pc' := 27) rfl (hb hby d_jdk_42m149_5) rfl (by decide) (by decide) (by decide) ?_
    show oS pP eE below T_1 (mkF mM 27 (lc18 a s) []) _
    refine st_2 _ ?_
    show oS pP eE below T_2 (mkF mM 30 (lc18 a s) [(.int cs)]) _
    refine XS.ifNo X_2.here hx rfl (hb hby d_jdk_42m149_30) rfl (XT.i0_eq_f hcs) ?_
    refine XS.aloadN X_2.here hx rfl (hb hby d_jdk_42m149_33) rfl rfl ?_
    refine XS.iloadN X_2.here hx rfl (hb hby d_jdk_42m149_34) rfl ?_
    refine XS.iloadN X_2.here hx rfl (hb hby d_jdk_42m149_35) rfl ?_
    show oS pP eE below T_2 (mkF mM 36 (lc18 a s) [(.int (2 : Int32)), (.int (0 : Int32)), (.ref s)]) _
    refine st_3 _ ?_
    show oS pP eE below T_3 (mkF mM 39 (lc18 a s) [(.ref d__3)]) _
    refine XS.astore X_3.here hx rfl (hb hby d_jdk_42m149_39) rfl rfl (l' := (lc19 a s d__3)) rfl ?_
    refine XS.aloadN X_3.here hx rfl (hb hby d_jdk_42m149_41) rfl rfl ?_
    refine XS.aload X_3.here hx rfl (hb hby d_jdk_42m149_42) rfl rfl ?_
    refine XS.iloadN X_3.here hx rfl (hb hby d_jdk_42m149_44) rfl ?_
    show oS pP eE below T_3 (mkF mM 45 (lc19 a s d__3) [(.int (2 : Int32)), (.ref d__3), (.ref a)]) _
    refine st_4 _ ?_
    show oS pP eE below T_4 (mkF mM 48 (lc19 a s d__3) [(.int (0 : Int32)), (.ref a)]) _
    refine st_5 _ ?_
    show oS pP eE below T_5 (mkF mM 51 (lc19 a s d__3) []) _
    refine XS.aloadN X_5.here hx rfl (hb hby d_jdk_42m149_51) rfl rfl ?_
    refine XS.aload X_5.here hx rfl (hb hby d_jdk_42m149_52) rfl rfl ?_
    show oS pP eE below T_5 (mkF mM 54 (lc19 a s d__3) [(.ref d__3), (.ref a)]) _
    refine st_6 _ ?_
    show oS pP eE below T_6 (mkF mM 57 (lc19 a s d__3) []) _
    exact X_6.returnOut hx Bd.returns (hb hby d_jdk_42m149_57) hr
  · show Q_str5_2 Z a s ks cs c0 c1 h0 n0 _ T_6.heap _
    rw [e_6]
    exact ⟨d__3, kd__3, rfl, N_6, K_6, sz_d__3, (((E_a.keep Kc_3).wr W_5).wr W_6), Fw_6, (Fw_5.other W_6 (Or.inr (slot_ne (Or.inr (ow hw 27 rfl)) (Or.inr (ow hw 29 rfl)) (by decide) (t := .byte) (t' := (.array .byte)) (by decide) (by decide)))), ((pfV_d_3.other W_5 (Ne.symm (Nat.ne_of_lt (Nat.lt_of_lt_of_le E_a.lt pfsz_d_3)))).other W_6 (Ne.symm (Nat.ne_of_lt (Nat.lt_of_lt_of_le E_a.lt pfsz_d_3))))⟩
theorem d_jdk_42m3_0 : decode jdk_42_method_3_code 0 = .ok (.aload_n 0, 1) := by decide +kernel
theorem d_jdk_42m3_1 : decode jdk_42_method_3_code 1 = .ok (.aload_n 1, 1) := by decide +kernel
theorem d_jdk_42m3_2 : decode jdk_42_method_3_code 2 = .ok (.iconst 0, 1) := by decide +kernel
theorem d_jdk_42m3_3 : decode jdk_42_method_3_code 3 = .ok (.aload_n 1, 1) := by decide +kernel
theorem d_jdk_42m3_4 : decode jdk_42_method_3_code 4 = .ok (.arraylength, 1) := by decide +kernel
theorem d_jdk_42m3_5 : decode jdk_42_method_3_code 5 = .ok (.aconst_null, 1) := by decide +kernel
theorem d_jdk_42m3_6 : decode jdk_42_method_3_code 6 = .ok (.invokespecial 27, 3) := by decide +kernel
theorem pd_3 : parseMethodDescriptor "([CIILjava/lang/Void;)V" = some ⟨[(.array .char), .int, .int, (.object "java/lang/Void")], none⟩ := by decide +kernel
abbrev MN3 : MethodName := ⟨"java/lang/String", "<init>", "([CIILjava/lang/Void;)V"⟩
theorem d_jdk_42m3_9 : decode jdk_42_method_3_code 9 = .ok (.return_, 1) := by decide +kernel
theorem ef_str_2 (mM : MethodId) (x0 : Addr) (x1 : Addr) : entryFrame mM #[(.ref x0), (.ref x1)] 2 = mkF mM 0 #[.val (.ref x0), .val (.ref x1)] [] := by first | (simp [entryFrame, mkF, argsToLocals, Value.category]; done) | rfl
def Q_str_2 (Z : State) (a : Addr) (s : Addr) (ks : ClassId) (cs : Int32) (c0 : Int32) (c1 : Int32) (h0 : Heap) (n0 : Nat) (v_ : Option Value) (h_ : Heap) (L_ : List Loc) : Prop := ∃ d : Addr, ∃ kd : ClassId, v_ = none ∧ Fr n0 L_ ∧ Keep h0 h_ [a] ∧ h0.size ≤ d ∧ Exa Z h_ a "java/lang/String" ∧ Fld Z h_ a "java/lang/String" "value" "[B" (.ref d) ∧ Fld Z h_ a "java/lang/String" "coder" "B" (.int (0 : Int32)) ∧ Arv Z h_ d kd .byte (2 : Int32) [(.int (nar .byte (c0.toInt8.toInt32))), (.int (nar .byte (c1.toInt8.toInt32)))] (.int (0 : Int32))
set_option maxRecDepth 65536 in
set_option maxHeartbeats 40000000 in
theorem rm_str_2 (l : Launch) (Z : State) (a0 : Array Value) (hw : ∀ d ∈ tables_1, d.before a0 Z = true) (ws : List Jvm.Cond) (a : Addr) (s : Addr) (ks : ClassId) (cs : Int32) (c0 : Int32) (c1 : Int32) (h0 : Heap) (n0 : Nat) (Z0 : n0 ≤ h0.size) (F_value_a : Fld Z h0 a "java/lang/String" "value" "[B" .null) (F_coder_a : Fld Z h0 a "java/lang/String" "coder" "B" (.int (0 : Int32))) (E_a : Exa Z h0 a "java/lang/String") (g_a : n0 ≤ a) (S_String_COMPACT_STRINGS : Sta Z h0 "java/lang/String" "COMPACT_STRINGS" "Z" (.int cs)) (hcs : ¬ cs = 0) (V_s : Arv Z h0 s ks .char (2 : Int32) [(.int c0), (.int c1)] (.int (0 : Int32))) (nas : a ≠ s) (hc0 : ¬ (255 : Int32) < c0) (hc1 : ¬ (255 : Int32) < c1) :
    MetFree l (⟨"java/lang/String", "<init>", "([C)V"⟩ : MethodName) (head1 (Jvm.Cond.code (⟨"java/lang/String", "<init>", "([C)V"⟩ : MethodName) jdk_42_method_3_code 2 none :: ws) ({ frames := 3, cells := 1, slots := 2, locals := 52 } : Room)) (fun aa_ U_ => aa_ = #[(.ref a), (.ref s)] ∧ Z.Warmed39 U_.vm ∧ U_.heap = h0) (fun _ _ _ _ _ => True) (fun _ U_ o_ U'_ => ∃ v_ L_, o_ = .returned v_ ∧ Q_str_2 Z a s ks cs c0 c1 h0 n0 v_ U'_.heap L_ ∧ FrameEnd U_ o_ U'_ L_ ({ frames := 3, cells := 1, slots := 2, locals := 52 } : Room).cells ({ frames := 3, cells := 1, slots := 2, locals := 52 } : Room).slots) := by
  refine MetFree.of_bodySF (plainFor_of_name pn_1) hisR ?_
  intro pP eE sS mM argsA below meth cC s₁ Bd hml0 hP hK
  obtain ⟨rfl, hZ, hh⟩ := hP
  have hx := Bd.exec
  have hby := Bd.bytes
  have hml : cC.maxLocals = 2 := hml0
  have hown : sS.vm.findClass "java/lang/String" = some mM.cls := findClass_of_methodNamed Bd.named
  have hnm := (name_of_methodNamed Bd.named Bd.method).1
  have X0 : Stand pP l eE ({ frames := 3, cells := 1, slots := 2, locals := 52 } : Room) sS mM #[(.ref a), (.ref s)] below meth cC s₁ [] 0 0 := Stand.of_body Bd
  have e0 : s₁.heap = h0 := by rw [← hh, Bd.state]; rfl
  have N0 := Fr.nil n0
  have pre0 : ∀ t_, Steps pP.tables eE below (s₁.setTop (mkF mM 0 #[.val (.ref a), .val (.ref s)] [])) t_ → Steps pP.tables eE below (s₁.setTop (entryFrame mM #[(.ref a), (.ref s)] 2)) t_ := fun t_ k_ => castTop (ef_str_2 mM a s) k_
  obtain ⟨cl_1, Ar_1, -, Sa_1, Na_1, -, -⟩ := id V_s
  obtain ⟨_, _, ⟨T_2, L_2, k_2, n_2⟩, -, X_2, ⟨Lc_2, hQ_2, l_2, y_2, z_2⟩, st_2⟩ := X0.specialBack hx (y := MN3) rfl hown (mvT hZ (ow hw 7 rfl)) (mvT hZ (ow hw 8 rfl)) (mvT hZ (ow hw 10 rfl)) (by decide) (backOf (W := 0) (rm_str5_2 l Z a0 hw [] a s ks cs c0 c1 h0 n0 Z0 F_value_a F_coder_a E_a g_a S_String_COMPACT_STRINGS hcs V_s nas hc0 hc1) hZ (ow hw 10 rfl) (ow hw 3 rfl) (by decide) (by decide)) (g := (mkF mM 6 #[.val (.ref a), .val (.ref s)] [.null, (.int (2 : Int32)), (.int (0 : Int32)), (.ref s), (.ref a)])) rfl (by rw [hml]; rfl) (Steps.refl _) (a := a) (argsL := [(.ref s), (.int (0 : Int32)), (.int (2 : Int32)), .null]) (rest := []) (lenOf pd_3 rfl) rfl (by show 2 * 0 + _ ≤ _; exact Nat.le_of_eq rfl) (hb hby d_jdk_42m3_6) (fun _ _ => ⟨rfl, e0, (by decide : 0 + 1 ≤ _), (by decide : 0 + 2 ≤ _)⟩)
  dsimp only [Pt.U, Pt.locs, Pt.cells, Pt.slots] at X_2 l_2 y_2 z_2 st_2 hQ_2
  subst l_2 y_2 z_2
  obtain ⟨d__2, ⟨kd__2, ⟨rfl, N_2q, Kc_2, pfsz_d_2, pfE_a_2, pfF_value_a_2, pfF_coder_a_2, pfV_d_2⟩⟩⟩ := hQ_2
  have Z_2 : n0 ≤ T_2.heap.size := (Nat.le_trans Z0 Kc_2.1)
  have K_2 : Keep h0 T_2.heap [a] := (Keep.refl h0 [a]).trans Kc_2 (allS (Or.inl (List.mem_of_getElem? (i := 0) rfl)) all0)
  have sz_d__2 : h0.size ≤ d__2 := Nat.le_trans (Keep.refl h0 [a]).1 pfsz_d_2
  have g_d__2 : n0 ≤ d__2 := Nat.le_trans Z0 pfsz_d_2
  have N_2 := Fr.app N0 N_2q
  obtain ⟨fs, hr, hrun, hended, hW, hsame⟩ := X_2.leave (v := none) (fun _ => rfl)
  refine ⟨_, _, pre0 _ ?_, hrun, hended, _, _, rfl, ?_, ⟨_, rfl⟩, hW, hsame.mono (by decide) (by decide)⟩
  · show oS pP eE below s₁ (mkF mM 0 #[.val (.ref a), .val (.ref s)] []) _
    refine XS.aloadN X0.here hx rfl (hb hby d_jdk_42m3_0) rfl rfl ?_
    refine XS.aloadN X0.here hx rfl (hb hby d_jdk_42m3_1) rfl rfl ?_
    refine XS.iconst X0.here hx rfl (hb hby d_jdk_42m3_2) ?_
    refine XS.aloadN X0.here hx rfl (hb hby d_jdk_42m3_3) rfl rfl ?_
    show oS pP eE below s₁ (mkF mM 4 #[.val (.ref a), .val (.ref s)] [(.ref s), (.int (0 : Int32)), (.ref s), (.ref a)]) _
    refine X0.arraylength hx (by rw [e0]; exact Ar_1.1) (State.isArrayOf_alike hZ.alike Ar_1.2.1) (g := (mkF mM 4 #[.val (.ref a), .val (.ref s)] [(.ref s), (.int (0 : Int32)), (.ref s), (.ref a)])) rfl rfl (hb hby d_jdk_42m3_4) _ ?_
    rw [len_of Sa_1 Na_1]
    refine XS.aconstNull X0.here hx rfl (hb hby d_jdk_42m3_5) ?_
    show oS pP eE below s₁ (mkF mM 6 #[.val (.ref a), .val (.ref s)] [.null, (.int (2 : Int32)), (.int (0 : Int32)), (.ref s), (.ref a)]) _
    refine st_2.trans ?_
    show oS pP eE below T_2 (mkF mM 9 #[.val (.ref a), .val (.ref s)] []) _
    exact X_2.returnOut hx Bd.returns (hb hby d_jdk_42m3_9) hr
  · show Q_str_2 Z a s ks cs c0 c1 h0 n0 _ T_2.heap _
    exact ⟨d__2, kd__2, rfl, N_2, K_2, sz_d__2, pfE_a_2, pfF_value_a_2, pfF_coder_a_2, pfV_d_2⟩
def Q_typ (Z : State) (p : Int32) (r0 : Addr) (r1 : Addr) (r2 : Addr) (r3 : Addr) (r4 : Addr) (r5 : Addr) (r6 : Addr) (r7 : Addr) (r8 : Addr) (h0 : Heap) (n0 : Nat) (v_ : Option Value) (h_ : Heap) (L_ : List Loc) : Prop := v_ = some (.ref (own_ty p r0 r1 r2 r3 r4 r5 r6 r7 r8)) ∧ Fr n0 L_ ∧ h_ = h0
theorem d_method_3_0 : decode method_3_code 0 = .ok (.iload_n 0, 1) := by decide +kernel
theorem d_method_3_1 : decode method_3_code 1 = .ok (.ifCond .ne 7, 3) := by decide +kernel
theorem d_method_3_4 : decode method_3_code 4 = .ok (.getstatic 59, 3) := by decide +kernel
theorem d_method_3_7 : decode method_3_code 7 = .ok (.areturn, 1) := by decide +kernel
theorem pn_2 : plainName "com/example/rolling_rung/rollingrung/schema/FieldWithStatePinLaw" = true := by first | (simp [plainName, overriddenIn]; done) | decide +kernel
theorem ef_typ_0 (mM : MethodId) (x0 : Int32) : entryFrame mM #[(.int x0)] 1 = mkF mM 0 #[.val (.int x0)] [] := by first | (simp [entryFrame, mkF, argsToLocals, Value.category]; done) | rfl
set_option maxRecDepth 65536 in
set_option maxHeartbeats 40000000 in
theorem rm_typ_0 (l : Launch) (Z : State) (a0 : Array Value) (hw : ∀ d ∈ tables_1, d.before a0 Z = true) (ws : List Jvm.Cond) (p : Int32) (r0 : Addr) (r1 : Addr) (r2 : Addr) (r3 : Addr) (r4 : Addr) (r5 : Addr) (r6 : Addr) (r7 : Addr) (r8 : Addr) (h0 : Heap) (n0 : Nat) (Z0 : n0 ≤ h0.size) (S_FieldType_STRING : Sta Z h0 "com/example/rolling_rung/rollingrung/schema/FieldType" "STRING" "Lcom/example/rolling_rung/rollingrung/schema/FieldType;" (.ref r0)) (S_FieldType_BYTES : Sta Z h0 "com/example/rolling_rung/rollingrung/schema/FieldType" "BYTES" "Lcom/example/rolling_rung/rollingrung/schema/FieldType;" (.ref r1)) (S_FieldType_BOOL : Sta Z h0 "com/example/rolling_rung/rollingrung/schema/FieldType" "BOOL" "Lcom/example/rolling_rung/rollingrung/schema/FieldType;" (.ref r2)) (S_FieldType_INT32 : Sta Z h0 "com/example/rolling_rung/rollingrung/schema/FieldType" "INT32" "Lcom/example/rolling_rung/rollingrung/schema/FieldType;" (.ref r3)) (S_FieldType_INT64 : Sta Z h0 "com/example/rolling_rung/rollingrung/schema/FieldType" "INT64" "Lcom/example/rolling_rung/rollingrung/schema/FieldType;" (.ref r4)) (S_FieldType_SINT32 : Sta Z h0 "com/example/rolling_rung/rollingrung/schema/FieldType" "SINT32" "Lcom/example/rolling_rung/rollingrung/schema/FieldType;" (.ref r5)) (S_FieldType_SINT64 : Sta Z h0 "com/example/rolling_rung/rollingrung/schema/FieldType" "SINT64" "Lcom/example/rolling_rung/rollingrung/schema/FieldType;" (.ref r6)) (S_FieldType_DOUBLE : Sta Z h0 "com/example/rolling_rung/rollingrung/schema/FieldType" "DOUBLE" "Lcom/example/rolling_rung/rollingrung/schema/FieldType;" (.ref r7)) (S_FieldType_FLOAT : Sta Z h0 "com/example/rolling_rung/rollingrung/schema/FieldType" "FLOAT" "Lcom/example/rolling_rung/rollingrung/schema/FieldType;" (.ref r8)) (he : p = 0) :
    MetFree l (⟨"com/example/rolling_rung/rollingrung/schema/FieldWithStatePinLaw", "typeOf", "(I)Lcom/example/rolling_rung/rollingrung/schema/FieldType;"⟩ : MethodName) (head1 (Jvm.Cond.code (⟨"com/example/rolling_rung/rollingrung/schema/FieldWithStatePinLaw", "typeOf", "(I)Lcom/example/rolling_rung/rollingrung/schema/FieldType;"⟩ : MethodName) method_3_code 1 (some (.object "com/example/rolling_rung/rollingrung/schema/FieldType")) :: ws) ({ frames := 0, cells := 0, slots := 0, locals := 0 } : Room)) (fun aa_ U_ => aa_ = #[(.int p)] ∧ Z.Warmed39 U_.vm ∧ U_.heap = h0) (fun _ _ _ _ _ => True) (fun _ U_ o_ U'_ => ∃ v_ L_, o_ = .returned v_ ∧ Q_typ Z p r0 r1 r2 r3 r4 r5 r6 r7 r8 h0 n0 v_ U'_.heap L_ ∧ FrameEnd U_ o_ U'_ L_ ({ frames := 0, cells := 0, slots := 0, locals := 0 } : Room).cells ({ frames := 0, cells := 0, slots := 0, locals := 0 } : Room).slots) := by
  refine MetFree.of_bodySF (plainFor_of_name pn_2) hisR ?_
  intro pP eE sS mM argsA below meth cC s₁ Bd hml0 hP hK
  obtain ⟨rfl, hZ, hh⟩ := hP
  have hx := Bd.exec
  have hby := Bd.bytes
  have hml : cC.maxLocals = 1 := hml0
  have hown : sS.vm.findClass "com/example/rolling_rung/rollingrung/schema/FieldWithStatePinLaw" = some mM.cls := findClass_of_methodNamed Bd.named
  have hnm := (name_of_methodNamed Bd.named Bd.method).1
  have X0 : Stand pP l eE ({ frames := 0, cells := 0, slots := 0, locals := 0 } : Room) sS mM #[(.int p)] below meth cC s₁ [] 0 0 := Stand.of_body Bd
  have e0 : s₁.heap = h0 := by rw [← hh, Bd.state]; rfl
  have N0 := Fr.nil n0
  have pre0 : ∀ t_, Steps pP.tables eE below (s₁.setTop (mkF mM 0 #[.val (.int p)] [])) t_ → Steps pP.tables eE below (s₁.setTop (entryFrame mM #[(.int p)] 1)) t_ := fun t_ k_ => castTop (ef_typ_0 mM p) k_
  obtain ⟨T_1, X_1, e_1, st_1⟩ := getS2 X0 hx hZ hown (host := "") (Or.inl (ow hw 129 rfl)) Via.refl e0 S_FieldType_STRING (g := (mkF mM 4 #[.val (.int p)] [])) rfl (hb hby d_method_3_4)
  obtain ⟨fs, hr, hrun, hended, hW, hsame⟩ := X_1.leave (v := some (.ref r0)) (fun h => by rw [Bd.returns] at h; cases h)
  refine ⟨_, _, pre0 _ ?_, hrun, hended, _, _, rfl, ?_, ⟨_, rfl⟩, hW, hsame.mono (by decide) (by decide)⟩
  · show oS pP eE below s₁ (mkF mM 0 #[.val (.int p)] []) _
    refine XS.iloadN X0.here hx rfl (hb hby d_method_3_0) rfl ?_
    refine XS.ifNo X0.here hx rfl (hb hby d_method_3_1) rfl (XT.i0_ne_f he) ?_
    show oS pP eE below s₁ (mkF mM 4 #[.val (.int p)] []) _
    refine st_1 _ ?_
    show oS pP eE below T_1 (mkF mM 7 #[.val (.int p)] [(.ref r0)]) _
    exact retOut X_1 hx Bd.returns rfl (Or.inr (Or.inr (Or.inr (Or.inr ⟨rfl, rfl, rfl⟩)))) (hb hby d_method_3_7) hr
  · show Q_typ Z p r0 r1 r2 r3 r4 r5 r6 r7 r8 h0 n0 _ T_1.heap _
    rw [e_1]
    exact ⟨(congrArg (fun z => some (Value.ref z)) (by simp [own_ty, he] : r0 = (own_ty p r0 r1 r2 r3 r4 r5 r6 r7 r8))), N0, rfl⟩
theorem d_method_3_8 : decode method_3_code 8 = .ok (.iload_n 0, 1) := by decide +kernel
theorem d_method_3_9 : decode method_3_code 9 = .ok (.iconst 1, 1) := by decide +kernel
theorem d_method_3_10 : decode method_3_code 10 = .ok (.if_icmp .ne 7, 3) := by decide +kernel
theorem d_method_3_13 : decode method_3_code 13 = .ok (.getstatic 65, 3) := by decide +kernel
theorem d_method_3_16 : decode method_3_code 16 = .ok (.areturn, 1) := by decide +kernel
theorem ef_typ_1 (mM : MethodId) (x0 : Int32) : entryFrame mM #[(.int x0)] 1 = mkF mM 0 #[.val (.int x0)] [] := by first | (simp [entryFrame, mkF, argsToLocals, Value.category]; done) | rfl
set_option maxRecDepth 65536 in
set_option maxHeartbeats 40000000 in
theorem rm_typ_1 (l : Launch) (Z : State) (a0 : Array Value) (hw : ∀ d ∈ tables_1, d.before a0 Z = true) (ws : List Jvm.Cond) (p : Int32) (r0 : Addr) (r1 : Addr) (r2 : Addr) (r3 : Addr) (r4 : Addr) (r5 : Addr) (r6 : Addr) (r7 : Addr) (r8 : Addr) (h0 : Heap) (n0 : Nat) (Z0 : n0 ≤ h0.size) (S_FieldType_STRING : Sta Z h0 "com/example/rolling_rung/rollingrung/schema/FieldType" "STRING" "Lcom/example/rolling_rung/rollingrung/schema/FieldType;" (.ref r0)) (S_FieldType_BYTES : Sta Z h0 "com/example/rolling_rung/rollingrung/schema/FieldType" "BYTES" "Lcom/example/rolling_rung/rollingrung/schema/FieldType;" (.ref r1)) (S_FieldType_BOOL : Sta Z h0 "com/example/rolling_rung/rollingrung/schema/FieldType" "BOOL" "Lcom/example/rolling_rung/rollingrung/schema/FieldType;" (.ref r2)) (S_FieldType_INT32 : Sta Z h0 "com/example/rolling_rung/rollingrung/schema/FieldType" "INT32" "Lcom/example/rolling_rung/rollingrung/schema/FieldType;" (.ref r3)) (S_FieldType_INT64 : Sta Z h0 "com/example/rolling_rung/rollingrung/schema/FieldType" "INT64" "Lcom/example/rolling_rung/rollingrung/schema/FieldType;" (.ref r4)) (S_FieldType_SINT32 : Sta Z h0 "com/example/rolling_rung/rollingrung/schema/FieldType" "SINT32" "Lcom/example/rolling_rung/rollingrung/schema/FieldType;" (.ref r5)) (S_FieldType_SINT64 : Sta Z h0 "com/example/rolling_rung/rollingrung/schema/FieldType" "SINT64" "Lcom/example/rolling_rung/rollingrung/schema/FieldType;" (.ref r6)) (S_FieldType_DOUBLE : Sta Z h0 "com/example/rolling_rung/rollingrung/schema/FieldType" "DOUBLE" "Lcom/example/rolling_rung/rollingrung/schema/FieldType;" (.ref r7)) (S_FieldType_FLOAT : Sta Z h0 "com/example/rolling_rung/rollingrung/schema/FieldType" "FLOAT" "Lcom/example/rolling_rung/rollingrung/schema/FieldType;" (.ref r8)) (hn0 : ¬ p = 0) (he : p = 1) :
    MetFree l (⟨"com/example/rolling_rung/rollingrung/schema/FieldWithStatePinLaw", "typeOf", "(I)Lcom/example/rolling_rung/rollingrung/schema/FieldType;"⟩ : MethodName) (head1 (Jvm.Cond.code (⟨"com/example/rolling_rung/rollingrung/schema/FieldWithStatePinLaw", "typeOf", "(I)Lcom/example/rolling_rung/rollingrung/schema/FieldType;"⟩ : MethodName) method_3_code 1 (some (.object "com/example/rolling_rung/rollingrung/schema/FieldType")) :: ws) ({ frames := 0, cells := 0, slots := 0, locals := 0 } : Room)) (fun aa_ U_ => aa_ = #[(.int p)] ∧ Z.Warmed39 U_.vm ∧ U_.heap = h0) (fun _ _ _ _ _ => True) (fun _ U_ o_ U'_ => ∃ v_ L_, o_ = .returned v_ ∧ Q_typ Z p r0 r1 r2 r3 r4 r5 r6 r7 r8 h0 n0 v_ U'_.heap L_ ∧ FrameEnd U_ o_ U'_ L_ ({ frames := 0, cells := 0, slots := 0, locals := 0 } : Room).cells ({ frames := 0, cells := 0, slots := 0, locals := 0 } : Room).slots) := by
  refine MetFree.of_bodySF (plainFor_of_name pn_2) hisR ?_
  intro pP eE sS mM argsA below meth cC s₁ Bd hml0 hP hK
  obtain ⟨rfl, hZ, hh⟩ := hP
  have hx := Bd.exec
  have hby := Bd.bytes
  have hml : cC.maxLocals = 1 := hml0
  have hown : sS.vm.findClass "com/example/rolling_rung/rollingrung/schema/FieldWithStatePinLaw" = some mM.cls := findClass_of_methodNamed Bd.named
  have hnm := (name_of_methodNamed Bd.named Bd.method).1
  have X0 : Stand pP l eE ({ frames := 0, cells := 0, slots := 0, locals := 0 } : Room) sS mM #[(.int p)] below meth cC s₁ [] 0 0 := Stand.of_body Bd
  have e0 : s₁.heap = h0 := by rw [← hh, Bd.state]; rfl
  have N0 := Fr.nil n0
  have pre0 : ∀ t_, Steps pP.tables eE below (s₁.setTop (mkF mM 0 #[.val (.int p)] [])) t_ → Steps pP.tables eE below (s₁.setTop (entryFrame mM #[(.int p)] 1)) t_ := fun t_ k_ => castTop (ef_typ_1 mM p) k_
  obtain ⟨T_1, X_1, e_1, st_1⟩ := getS2 X0 hx hZ hown (host := "") (Or.inl (ow hw 119 rfl)) Via.refl e0 S_FieldType_BYTES (g := (mkF mM 13 #[.val (.int p)] [])) rfl (hb hby d_method_3_13)
  obtain ⟨fs, hr, hrun, hended, hW, hsame⟩ := X_1.leave (v := some (.ref r1)) (fun h => by rw [Bd.returns] at h; cases h)
  refine ⟨_, _, pre0 _ ?_, hrun, hended, _, _, rfl, ?_, ⟨_, rfl⟩, hW, hsame.mono (by decide) (by decide)⟩
  · show oS pP eE below s₁ (mkF mM 0 #[.val (.int p)] []) _
    refine XS.iloadN X0.here hx rfl (hb hby d_method_3_0) rfl ?_
    refine XS.ifYes X0.here hx rfl (pc0 := 1) (pc' := 8) rfl (hb hby d_method_3_1) rfl (XT.i0_ne_t hn0) (by decide) (by decide) ?_
    refine XS.iloadN X0.here hx rfl (hb hby d_method_3_8) rfl ?_
    refine XS.iconst X0.here hx rfl (hb hby d_method_3_9) ?_
    show oS pP eE below s₁ (mkF mM 10 #[.val (.int p)] [(.int (1 : Int32)), (.int p)]) _
    refine XS.icmpNo X0.here hx rfl (hb hby d_method_3_10) rfl (XT.ii_ne_f he) ?_
    show oS pP eE below s₁ (mkF mM 13 #[.val (.int p)] []) _
    refine st_1 _ ?_
    show oS pP eE below T_1 (mkF mM 16 #[.val (.int p)] [(.ref r1)]) _
    exact retOut X_1 hx Bd.returns rfl (Or.inr (Or.inr (Or.inr (Or.inr ⟨rfl, rfl, rfl⟩)))) (hb hby d_method_3_16) hr
  · show Q_typ Z p r0 r1 r2 r3 r4 r5 r6 r7 r8 h0 n0 _ T_1.heap _
    rw [e_1]
    exact ⟨(congrArg (fun z => some (Value.ref z)) (by simp [own_ty, hn0, he] : r1 = (own_ty p r0 r1 r2 r3 r4 r5 r6 r7 r8))), N0, rfl⟩
theorem d_method_3_17 : decode method_3_code 17 = .ok (.iload_n 0, 1) := by decide +kernel
theorem d_method_3_18 : decode method_3_code 18 = .ok (.iconst 2, 1) := by decide +kernel
theorem d_method_3_19 : decode method_3_code 19 = .ok (.if_icmp .ne 7, 3) := by decide +kernel
theorem d_method_3_22 : decode method_3_code 22 = .ok (.getstatic 68, 3) := by decide +kernel
theorem d_method_3_25 : decode method_3_code 25 = .ok (.areturn, 1) := by decide +kernel
theorem ef_typ_2 (mM : MethodId) (x0 : Int32) : entryFrame mM #[(.int x0)] 1 = mkF mM 0 #[.val (.int x0)] [] := by first | (simp [entryFrame, mkF, argsToLocals, Value.category]; done) | rfl
set_option maxRecDepth 65536 in
set_option maxHeartbeats 40000000 in
theorem rm_typ_2 (l : Launch) (Z : State) (a0 : Array Value) (hw : ∀ d ∈ tables_1, d.before a0 Z = true) (ws : List Jvm.Cond) (p : Int32) (r0 : Addr) (r1 : Addr) (r2 : Addr) (r3 : Addr) (r4 : Addr) (r5 : Addr) (r6 : Addr) (r7 : Addr) (r8 : Addr) (h0 : Heap) (n0 : Nat) (Z0 : n0 ≤ h0.size) (S_FieldType_STRING : Sta Z h0 "com/example/rolling_rung/rollingrung/schema/FieldType" "STRING" "Lcom/example/rolling_rung/rollingrung/schema/FieldType;" (.ref r0)) (S_FieldType_BYTES : Sta Z h0 "com/example/rolling_rung/rollingrung/schema/FieldType" "BYTES" "Lcom/example/rolling_rung/rollingrung/schema/FieldType;" (.ref r1)) (S_FieldType_BOOL : Sta Z h0 "com/example/rolling_rung/rollingrung/schema/FieldType" "BOOL" "Lcom/example/rolling_rung/rollingrung/schema/FieldType;" (.ref r2)) (S_FieldType_INT32 : Sta Z h0 "com/example/rolling_rung/rollingrung/schema/FieldType" "INT32" "Lcom/example/rolling_rung/rollingrung/schema/FieldType;" (.ref r3)) (S_FieldType_INT64 : Sta Z h0 "com/example/rolling_rung/rollingrung/schema/FieldType" "INT64" "Lcom/example/rolling_rung/rollingrung/schema/FieldType;" (.ref r4)) (S_FieldType_SINT32 : Sta Z h0 "com/example/rolling_rung/rollingrung/schema/FieldType" "SINT32" "Lcom/example/rolling_rung/rollingrung/schema/FieldType;" (.ref r5)) (S_FieldType_SINT64 : Sta Z h0 "com/example/rolling_rung/rollingrung/schema/FieldType" "SINT64" "Lcom/example/rolling_rung/rollingrung/schema/FieldType;" (.ref r6)) (S_FieldType_DOUBLE : Sta Z h0 "com/example/rolling_rung/rollingrung/schema/FieldType" "DOUBLE" "Lcom/example/rolling_rung/rollingrung/schema/FieldType;" (.ref r7)) (S_FieldType_FLOAT : Sta Z h0 "com/example/rolling_rung/rollingrung/schema/FieldType" "FLOAT" "Lcom/example/rolling_rung/rollingrung/schema/FieldType;" (.ref r8)) (hn0 : ¬ p = 0) (hn1 : ¬ p = 1) (he : p = 2) :
    MetFree l (⟨"com/example/rolling_rung/rollingrung/schema/FieldWithStatePinLaw", "typeOf", "(I)Lcom/example/rolling_rung/rollingrung/schema/FieldType;"⟩ : MethodName) (head1 (Jvm.Cond.code (⟨"com/example/rolling_rung/rollingrung/schema/FieldWithStatePinLaw", "typeOf", "(I)Lcom/example/rolling_rung/rollingrung/schema/FieldType;"⟩ : MethodName) method_3_code 1 (some (.object "com/example/rolling_rung/rollingrung/schema/FieldType")) :: ws) ({ frames := 0, cells := 0, slots := 0, locals := 0 } : Room)) (fun aa_ U_ => aa_ = #[(.int p)] ∧ Z.Warmed39 U_.vm ∧ U_.heap = h0) (fun _ _ _ _ _ => True) (fun _ U_ o_ U'_ => ∃ v_ L_, o_ = .returned v_ ∧ Q_typ Z p r0 r1 r2 r3 r4 r5 r6 r7 r8 h0 n0 v_ U'_.heap L_ ∧ FrameEnd U_ o_ U'_ L_ ({ frames := 0, cells := 0, slots := 0, locals := 0 } : Room).cells ({ frames := 0, cells := 0, slots := 0, locals := 0 } : Room).slots) := by
  refine MetFree.of_bodySF (plainFor_of_name pn_2) hisR ?_
  intro pP eE sS mM argsA below meth cC s₁ Bd hml0 hP hK
  obtain ⟨rfl, hZ, hh⟩ := hP
  have hx := Bd.exec
  have hby := Bd.bytes
  have hml : cC.maxLocals = 1 := hml0
  have hown : sS.vm.findClass "com/example/rolling_rung/rollingrung/schema/FieldWithStatePinLaw" = some mM.cls := findClass_of_methodNamed Bd.named
  have hnm := (name_of_methodNamed Bd.named Bd.method).1
  have X0 : Stand pP l eE ({ frames := 0, cells := 0, slots := 0, locals := 0 } : Room) sS mM #[(.int p)] below meth cC s₁ [] 0 0 := Stand.of_body Bd
  have e0 : s₁.heap = h0 := by rw [← hh, Bd.state]; rfl
  have N0 := Fr.nil n0
  have pre0 : ∀ t_, Steps pP.tables eE below (s₁.setTop (mkF mM 0 #[.val (.int p)] [])) t_ → Steps pP.tables eE below (s₁.setTop (entryFrame mM #[(.int p)] 1)) t_ := fun t_ k_ => castTop (ef_typ_2 mM p) k_
  obtain ⟨T_1, X_1, e_1, st_1⟩ := getS2 X0 hx hZ hown (host := "") (Or.inl (ow hw 35 rfl)) Via.refl e0 S_FieldType_BOOL (g := (mkF mM 22 #[.val (.int p)] [])) rfl (hb hby d_method_3_22)
  obtain ⟨fs, hr, hrun, hended, hW, hsame⟩ := X_1.leave (v := some (.ref r2)) (fun h => by rw [Bd.returns] at h; cases h)
  refine ⟨_, _, pre0 _ ?_, hrun, hended, _, _, rfl, ?_, ⟨_, rfl⟩, hW, hsame.mono (by decide) (by decide)⟩
  · show oS pP eE below s₁ (mkF mM 0 #[.val (.int p)] []) _
    refine XS.iloadN X0.here hx rfl (hb hby d_method_3_0) rfl ?_
    refine XS.ifYes X0.here hx rfl (pc0 := 1) (pc' := 8) rfl (hb hby d_method_3_1) rfl (XT.i0_ne_t hn0) (by decide) (by decide) ?_
    refine XS.iloadN X0.here hx rfl (hb hby d_method_3_8) rfl ?_
    refine XS.iconst X0.here hx rfl (hb hby d_method_3_9) ?_
    show oS pP eE below s₁ (mkF mM 10 #[.val (.int p)] [(.int (1 : Int32)), (.int p)]) _
    refine XS.icmpYes X0.here hx rfl (pc0 := 10) (pc' := 17) rfl (hb hby d_method_3_10) rfl (XT.ii_ne_t hn1) (by decide) (by decide) ?_
    refine XS.iloadN X0.here hx rfl (hb hby d_method_3_17) rfl ?_
    refine XS.iconst X0.here hx rfl (hb hby d_method_3_18) ?_
    refine XS.icmpNo X0.here hx rfl (hb hby d_method_3_19) rfl (XT.ii_ne_f he) ?_
    show oS pP eE below s₁ (mkF mM 22 #[.val (.int p)] []) _
    refine st_1 _ ?_
    show oS pP eE below T_1 (mkF mM 25 #[.val (.int p)] [(.ref r2)]) _
    exact retOut X_1 hx Bd.returns rfl (Or.inr (Or.inr (Or.inr (Or.inr ⟨rfl, rfl, rfl⟩)))) (hb hby d_method_3_25) hr
  · show Q_typ Z p r0 r1 r2 r3 r4 r5 r6 r7 r8 h0 n0 _ T_1.heap _
    rw [e_1]
    exact ⟨(congrArg (fun z => some (Value.ref z)) (by simp [own_ty, hn0, hn1, he] : r2 = (own_ty p r0 r1 r2 r3 r4 r5 r6 r7 r8))), N0, rfl⟩
theorem d_method_3_26 : decode method_3_code 26 = .ok (.iload_n 0, 1) := by decide +kernel
theorem d_method_3_27 : decode method_3_code 27 = .ok (.iconst 3, 1) := by decide +kernel
theorem d_method_3_28 : decode method_3_code 28 = .ok (.if_icmp .ne 7, 3) := by decide +kernel
theorem d_method_3_31 : decode method_3_code 31 = .ok (.getstatic 71, 3) := by decide +kernel
theorem d_method_3_34 : decode method_3_code 34 = .ok (.areturn, 1) := by decide +kernel
theorem ef_typ_3 (mM : MethodId) (x0 : Int32) : entryFrame mM #[(.int x0)] 1 = mkF mM 0 #[.val (.int x0)] [] := by first | (simp [entryFrame, mkF, argsToLocals, Value.category]; done) | rfl
set_option maxRecDepth 65536 in
set_option maxHeartbeats 40000000 in
theorem rm_typ_3 (l : Launch) (Z : State) (a0 : Array Value) (hw : ∀ d ∈ tables_1, d.before a0 Z = true) (ws : List Jvm.Cond) (p : Int32) (r0 : Addr) (r1 : Addr) (r2 : Addr) (r3 : Addr) (r4 : Addr) (r5 : Addr) (r6 : Addr) (r7 : Addr) (r8 : Addr) (h0 : Heap) (n0 : Nat) (Z0 : n0 ≤ h0.size) (S_FieldType_STRING : Sta Z h0 "com/example/rolling_rung/rollingrung/schema/FieldType" "STRING" "Lcom/example/rolling_rung/rollingrung/schema/FieldType;" (.ref r0)) (S_FieldType_BYTES : Sta Z h0 "com/example/rolling_rung/rollingrung/schema/FieldType" "BYTES" "Lcom/example/rolling_rung/rollingrung/schema/FieldType;" (.ref r1)) (S_FieldType_BOOL : Sta Z h0 "com/example/rolling_rung/rollingrung/schema/FieldType" "BOOL" "Lcom/example/rolling_rung/rollingrung/schema/FieldType;" (.ref r2)) (S_FieldType_INT32 : Sta Z h0 "com/example/rolling_rung/rollingrung/schema/FieldType" "INT32" "Lcom/example/rolling_rung/rollingrung/schema/FieldType;" (.ref r3)) (S_FieldType_INT64 : Sta Z h0 "com/example/rolling_rung/rollingrung/schema/FieldType" "INT64" "Lcom/example/rolling_rung/rollingrung/schema/FieldType;" (.ref r4)) (S_FieldType_SINT32 : Sta Z h0 "com/example/rolling_rung/rollingrung/schema/FieldType" "SINT32" "Lcom/example/rolling_rung/rollingrung/schema/FieldType;" (.ref r5)) (S_FieldType_SINT64 : Sta Z h0 "com/example/rolling_rung/rollingrung/schema/FieldType" "SINT64" "Lcom/example/rolling_rung/rollingrung/schema/FieldType;" (.ref r6)) (S_FieldType_DOUBLE : Sta Z h0 "com/example/rolling_rung/rollingrung/schema/FieldType" "DOUBLE" "Lcom/example/rolling_rung/rollingrung/schema/FieldType;" (.ref r7)) (S_FieldType_FLOAT : Sta Z h0 "com/example/rolling_rung/rollingrung/schema/FieldType" "FLOAT" "Lcom/example/rolling_rung/rollingrung/schema/FieldType;" (.ref r8)) (hn0 : ¬ p = 0) (hn1 : ¬ p = 1) (hn2 : ¬ p = 2) (he : p = 3) :
    MetFree l (⟨"com/example/rolling_rung/rollingrung/schema/FieldWithStatePinLaw", "typeOf", "(I)Lcom/example/rolling_rung/rollingrung/schema/FieldType;"⟩ : MethodName) (head1 (Jvm.Cond.code (⟨"com/example/rolling_rung/rollingrung/schema/FieldWithStatePinLaw", "typeOf", "(I)Lcom/example/rolling_rung/rollingrung/schema/FieldType;"⟩ : MethodName) method_3_code 1 (some (.object "com/example/rolling_rung/rollingrung/schema/FieldType")) :: ws) ({ frames := 0, cells := 0, slots := 0, locals := 0 } : Room)) (fun aa_ U_ => aa_ = #[(.int p)] ∧ Z.Warmed39 U_.vm ∧ U_.heap = h0) (fun _ _ _ _ _ => True) (fun _ U_ o_ U'_ => ∃ v_ L_, o_ = .returned v_ ∧ Q_typ Z p r0 r1 r2 r3 r4 r5 r6 r7 r8 h0 n0 v_ U'_.heap L_ ∧ FrameEnd U_ o_ U'_ L_ ({ frames := 0, cells := 0, slots := 0, locals := 0 } : Room).cells ({ frames := 0, cells := 0, slots := 0, locals := 0 } : Room).slots) := by
  refine MetFree.of_bodySF (plainFor_of_name pn_2) hisR ?_
  intro pP eE sS mM argsA below meth cC s₁ Bd hml0 hP hK
  obtain ⟨rfl, hZ, hh⟩ := hP
  have hx := Bd.exec
  have hby := Bd.bytes
  have hml : cC.maxLocals = 1 := hml0
  have hown : sS.vm.findClass "com/example/rolling_rung/rollingrung/schema/FieldWithStatePinLaw" = some mM.cls := findClass_of_methodNamed Bd.named
  have hnm := (name_of_methodNamed Bd.named Bd.method).1
  have X0 : Stand pP l eE ({ frames := 0, cells := 0, slots := 0, locals := 0 } : Room) sS mM #[(.int p)] below meth cC s₁ [] 0 0 := Stand.of_body Bd
  have e0 : s₁.heap = h0 := by rw [← hh, Bd.state]; rfl
  have N0 := Fr.nil n0
  have pre0 : ∀ t_, Steps pP.tables eE below (s₁.setTop (mkF mM 0 #[.val (.int p)] [])) t_ → Steps pP.tables eE below (s₁.setTop (entryFrame mM #[(.int p)] 1)) t_ := fun t_ k_ => castTop (ef_typ_3 mM p) k_
  obtain ⟨T_1, X_1, e_1, st_1⟩ := getS2 X0 hx hZ hown (host := "") (Or.inl (ow hw 125 rfl)) Via.refl e0 S_FieldType_INT32 (g := (mkF mM 31 #[.val (.int p)] [])) rfl (hb hby d_method_3_31)
  obtain ⟨fs, hr, hrun, hended, hW, hsame⟩ := X_1.leave (v := some (.ref r3)) (fun h => by rw [Bd.returns] at h; cases h)
  refine ⟨_, _, pre0 _ ?_, hrun, hended, _, _, rfl, ?_, ⟨_, rfl⟩, hW, hsame.mono (by decide) (by decide)⟩
  · show oS pP eE below s₁ (mkF mM 0 #[.val (.int p)] []) _
    refine XS.iloadN X0.here hx rfl (hb hby d_method_3_0) rfl ?_
    refine XS.ifYes X0.here hx rfl (pc0 := 1) (pc' := 8) rfl (hb hby d_method_3_1) rfl (XT.i0_ne_t hn0) (by decide) (by decide) ?_
    refine XS.iloadN X0.here hx rfl (hb hby d_method_3_8) rfl ?_
    refine XS.iconst X0.here hx rfl (hb hby d_method_3_9) ?_
    show oS pP eE below s₁ (mkF mM 10 #[.val (.int p)] [(.int (1 : Int32)), (.int p)]) _
    refine XS.icmpYes X0.here hx rfl (pc0 := 10) (pc' := 17) rfl (hb hby d_method_3_10) rfl (XT.ii_ne_t hn1) (by decide) (by decide) ?_
    refine XS.iloadN X0.here hx rfl (hb hby d_method_3_17) rfl ?_
    refine XS.iconst X0.here hx rfl (hb hby d_method_3_18) ?_
    refine XS.icmpYes X0.here hx rfl (pc0 := 19) (pc' := 26) rfl (hb hby d_method_3_19) rfl (XT.ii_ne_t hn2) (by decide) (by decide) ?_
    show oS pP eE below s₁ (mkF mM 26 #[.val (.int p)] []) _
    refine XS.iloadN X0.here hx rfl (hb hby d_method_3_26) rfl ?_
    refine XS.iconst X0.here hx rfl (hb hby d_method_3_27) ?_
    refine XS.icmpNo X0.here hx rfl (hb hby d_method_3_28) rfl (XT.ii_ne_f he) ?_
    show oS pP eE below s₁ (mkF mM 31 #[.val (.int p)] []) _
    refine st_1 _ ?_
    show oS pP eE below T_1 (mkF mM 34 #[.val (.int p)] [(.ref r3)]) _
    exact retOut X_1 hx Bd.returns rfl (Or.inr (Or.inr (Or.inr (Or.inr ⟨rfl, rfl, rfl⟩)))) (hb hby d_method_3_34) hr
  · show Q_typ Z p r0 r1 r2 r3 r4 r5 r6 r7 r8 h0 n0 _ T_1.heap _
    rw [e_1]
    exact ⟨(congrArg (fun z => some (Value.ref z)) (by simp [own_ty, hn0, hn1, hn2, he] : r3 = (own_ty p r0 r1 r2 r3 r4 r5 r6 r7 r8))), N0, rfl⟩
theorem d_method_3_35 : decode method_3_code 35 = .ok (.iload_n 0, 1) := by decide +kernel
theorem d_method_3_36 : decode method_3_code 36 = .ok (.iconst 4, 1) := by decide +kernel
theorem d_method_3_37 : decode method_3_code 37 = .ok (.if_icmp .ne 7, 3) := by decide +kernel
theorem d_method_3_40 : decode method_3_code 40 = .ok (.getstatic 74, 3) := by decide +kernel
theorem d_method_3_43 : decode method_3_code 43 = .ok (.areturn, 1) := by decide +kernel
theorem ef_typ_4 (mM : MethodId) (x0 : Int32) : entryFrame mM #[(.int x0)] 1 = mkF mM 0 #[.val (.int x0)] [] := by first | (simp [entryFrame, mkF, argsToLocals, Value.category]; done) | rfl
set_option maxRecDepth 65536 in
set_option maxHeartbeats 40000000 in
theorem rm_typ_4 (l : Launch) (Z : State) (a0 : Array Value) (hw : ∀ d ∈ tables_1, d.before a0 Z = true) (ws : List Jvm.Cond) (p : Int32) (r0 : Addr) (r1 : Addr) (r2 : Addr) (r3 : Addr) (r4 : Addr) (r5 : Addr) (r6 : Addr) (r7 : Addr) (r8 : Addr) (h0 : Heap) (n0 : Nat) (Z0 : n0 ≤ h0.size) (S_FieldType_STRING : Sta Z h0 "com/example/rolling_rung/rollingrung/schema/FieldType" "STRING" "Lcom/example/rolling_rung/rollingrung/schema/FieldType;" (.ref r0)) (S_FieldType_BYTES : Sta Z h0 "com/example/rolling_rung/rollingrung/schema/FieldType" "BYTES" "Lcom/example/rolling_rung/rollingrung/schema/FieldType;" (.ref r1)) (S_FieldType_BOOL : Sta Z h0 "com/example/rolling_rung/rollingrung/schema/FieldType" "BOOL" "Lcom/example/rolling_rung/rollingrung/schema/FieldType;" (.ref r2)) (S_FieldType_INT32 : Sta Z h0 "com/example/rolling_rung/rollingrung/schema/FieldType" "INT32" "Lcom/example/rolling_rung/rollingrung/schema/FieldType;" (.ref r3)) (S_FieldType_INT64 : Sta Z h0 "com/example/rolling_rung/rollingrung/schema/FieldType" "INT64" "Lcom/example/rolling_rung/rollingrung/schema/FieldType;" (.ref r4)) (S_FieldType_SINT32 : Sta Z h0 "com/example/rolling_rung/rollingrung/schema/FieldType" "SINT32" "Lcom/example/rolling_rung/rollingrung/schema/FieldType;" (.ref r5)) (S_FieldType_SINT64 : Sta Z h0 "com/example/rolling_rung/rollingrung/schema/FieldType" "SINT64" "Lcom/example/rolling_rung/rollingrung/schema/FieldType;" (.ref r6)) (S_FieldType_DOUBLE : Sta Z h0 "com/example/rolling_rung/rollingrung/schema/FieldType" "DOUBLE" "Lcom/example/rolling_rung/rollingrung/schema/FieldType;" (.ref r7)) (S_FieldType_FLOAT : Sta Z h0 "com/example/rolling_rung/rollingrung/schema/FieldType" "FLOAT" "Lcom/example/rolling_rung/rollingrung/schema/FieldType;" (.ref r8)) (hn0 : ¬ p = 0) (hn1 : ¬ p = 1) (hn2 : ¬ p = 2) (hn3 : ¬ p = 3) (he : p = 4) :
    MetFree l (⟨"com/example/rolling_rung/rollingrung/schema/FieldWithStatePinLaw", "typeOf", "(I)Lcom/example/rolling_rung/rollingrung/schema/FieldType;"⟩ : MethodName) (head1 (Jvm.Cond.code (⟨"com/example/rolling_rung/rollingrung/schema/FieldWithStatePinLaw", "typeOf", "(I)Lcom/example/rolling_rung/rollingrung/schema/FieldType;"⟩ : MethodName) method_3_code 1 (some (.object "com/example/rolling_rung/rollingrung/schema/FieldType")) :: ws) ({ frames := 0, cells := 0, slots := 0, locals := 0 } : Room)) (fun aa_ U_ => aa_ = #[(.int p)] ∧ Z.Warmed39 U_.vm ∧ U_.heap = h0) (fun _ _ _ _ _ => True) (fun _ U_ o_ U'_ => ∃ v_ L_, o_ = .returned v_ ∧ Q_typ Z p r0 r1 r2 r3 r4 r5 r6 r7 r8 h0 n0 v_ U'_.heap L_ ∧ FrameEnd U_ o_ U'_ L_ ({ frames := 0, cells := 0, slots := 0, locals := 0 } : Room).cells ({ frames := 0, cells := 0, slots := 0, locals := 0 } : Room).slots) := by
  refine MetFree.of_bodySF (plainFor_of_name pn_2) hisR ?_
  intro pP eE sS mM argsA below meth cC s₁ Bd hml0 hP hK
  obtain ⟨rfl, hZ, hh⟩ := hP
  have hx := Bd.exec
  have hby := Bd.bytes
  have hml : cC.maxLocals = 1 := hml0
  have hown : sS.vm.findClass "com/example/rolling_rung/rollingrung/schema/FieldWithStatePinLaw" = some mM.cls := findClass_of_methodNamed Bd.named
  have hnm := (name_of_methodNamed Bd.named Bd.method).1
  have X0 : Stand pP l eE ({ frames := 0, cells := 0, slots := 0, locals := 0 } : Room) sS mM #[(.int p)] below meth cC s₁ [] 0 0 := Stand.of_body Bd
  have e0 : s₁.heap = h0 := by rw [← hh, Bd.state]; rfl
  have N0 := Fr.nil n0
  have pre0 : ∀ t_, Steps pP.tables eE below (s₁.setTop (mkF mM 0 #[.val (.int p)] [])) t_ → Steps pP.tables eE below (s₁.setTop (entryFrame mM #[(.int p)] 1)) t_ := fun t_ k_ => castTop (ef_typ_4 mM p) k_
  obtain ⟨T_1, X_1, e_1, st_1⟩ := getS2 X0 hx hZ hown (host := "") (Or.inl (ow hw 137 rfl)) Via.refl e0 S_FieldType_INT64 (g := (mkF mM 40 #[.val (.int p)] [])) rfl (hb hby d_method_3_40)
  obtain ⟨fs, hr, hrun, hended, hW, hsame⟩ := X_1.leave (v := some (.ref r4)) (fun h => by rw [Bd.returns] at h; cases h)
  refine ⟨_, _, pre0 _ ?_, hrun, hended, _, _, rfl, ?_, ⟨_, rfl⟩, hW, hsame.mono (by decide) (by decide)⟩
  · show oS pP eE below s₁ (mkF mM 0 #[.val (.int p)] []) _
    refine XS.iloadN X0.here hx rfl (hb hby d_method_3_0) rfl ?_
    refine XS.ifYes X0.here hx rfl (pc0 := 1) (pc' := 8) rfl (hb hby d_method_3_1) rfl (XT.i0_ne_t hn0) (by decide) (by decide) ?_
    refine XS.iloadN X0.here hx rfl (hb hby d_method_3_8) rfl ?_
    refine XS.iconst X0.here hx rfl (hb hby d_method_3_9) ?_
    show oS pP eE below s₁ (mkF mM 10 #[.val (.int p)] [(.int (1 : Int32)), (.int p)]) _
    refine XS.icmpYes X0.here hx rfl (pc0 := 10) (pc' := 17) rfl (hb hby d_method_3_10) rfl (XT.ii_ne_t hn1) (by decide) (by decide) ?_
    refine XS.iloadN X0.here hx rfl (hb hby d_method_3_17) rfl ?_
    refine XS.iconst X0.here hx rfl (hb hby d_method_3_18) ?_
    refine XS.icmpYes X0.here hx rfl (pc0 := 19) (pc' := 26) rfl (hb hby d_method_3_19) rfl (XT.ii_ne_t hn2) (by decide) (by decide) ?_
    show oS pP eE below s₁ (mkF mM 26 #[.val (.int p)] []) _
    refine XS.iloadN X0.here hx rfl (hb hby d_method_3_26) rfl ?_
    refine XS.iconst X0.here hx rfl (hb hby d_method_3_27) ?_
    refine XS.icmpYes X0.here hx rfl (pc0 := 28) (pc' := 35) rfl (hb hby d_method_3_28) rfl (XT.ii_ne_t hn3) (by decide) (by decide) ?_
    refine XS.iloadN X0.here hx rfl (hb hby d_method_3_35) rfl ?_
    show oS pP eE below s₁ (mkF mM 36 #[.val (.int p)] [(.int p)]) _
    refine XS.iconst X0.here hx rfl (hb hby d_method_3_36) ?_
    refine XS.icmpNo X0.here hx rfl (hb hby d_method_3_37) rfl (XT.ii_ne_f he) ?_
    show oS pP eE below s₁ (mkF mM 40 #[.val (.int p)] []) _
    refine st_1 _ ?_
    show oS pP eE below T_1 (mkF mM 43 #[.val (.int p)] [(.ref r4)]) _
    exact retOut X_1 hx Bd.returns rfl (Or.inr (Or.inr (Or.inr (Or.inr ⟨rfl, rfl, rfl⟩)))) (hb hby d_method_3_43) hr
  · show Q_typ Z p r0 r1 r2 r3 r4 r5 r6 r7 r8 h0 n0 _ T_1.heap _
    rw [e_1]
    exact ⟨(congrArg (fun z => some (Value.ref z)) (by simp [own_ty, hn0, hn1, hn2, hn3, he] : r4 = (own_ty p r0 r1 r2 r3 r4 r5 r6 r7 r8))), N0, rfl⟩
theorem d_method_3_44 : decode method_3_code 44 = .ok (.iload_n 0, 1) := by decide +kernel
theorem d_method_3_45 : decode method_3_code 45 = .ok (.iconst 5, 1) := by decide +kernel
theorem d_method_3_46 : decode method_3_code 46 = .ok (.if_icmp .ne 7, 3) := by decide +kernel
theorem d_method_3_49 : decode method_3_code 49 = .ok (.getstatic 77, 3) := by decide +kernel
theorem d_method_3_52 : decode method_3_code 52 = .ok (.areturn, 1) := by decide +kernel
theorem ef_typ_5 (mM : MethodId) (x0 : Int32) : entryFrame mM #[(.int x0)] 1 = mkF mM 0 #[.val (.int x0)] [] := by first | (simp [entryFrame, mkF, argsToLocals, Value.category]; done) | rfl
set_option maxRecDepth 65536 in
set_option maxHeartbeats 40000000 in
theorem rm_typ_5 (l : Launch) (Z : State) (a0 : Array Value) (hw : ∀ d ∈ tables_1, d.before a0 Z = true) (ws : List Jvm.Cond) (p : Int32) (r0 : Addr) (r1 : Addr) (r2 : Addr) (r3 : Addr) (r4 : Addr) (r5 : Addr) (r6 : Addr) (r7 : Addr) (r8 : Addr) (h0 : Heap) (n0 : Nat) (Z0 : n0 ≤ h0.size) (S_FieldType_STRING : Sta Z h0 "com/example/rolling_rung/rollingrung/schema/FieldType" "STRING" "Lcom/example/rolling_rung/rollingrung/schema/FieldType;" (.ref r0)) (S_FieldType_BYTES : Sta Z h0 "com/example/rolling_rung/rollingrung/schema/FieldType" "BYTES" "Lcom/example/rolling_rung/rollingrung/schema/FieldType;" (.ref r1)) (S_FieldType_BOOL : Sta Z h0 "com/example/rolling_rung/rollingrung/schema/FieldType" "BOOL" "Lcom/example/rolling_rung/rollingrung/schema/FieldType;" (.ref r2)) (S_FieldType_INT32 : Sta Z h0 "com/example/rolling_rung/rollingrung/schema/FieldType" "INT32" "Lcom/example/rolling_rung/rollingrung/schema/FieldType;" (.ref r3)) (S_FieldType_INT64 : Sta Z h0 "com/example/rolling_rung/rollingrung/schema/FieldType" "INT64" "Lcom/example/rolling_rung/rollingrung/schema/FieldType;" (.ref r4)) (S_FieldType_SINT32 : Sta Z h0 "com/example/rolling_rung/rollingrung/schema/FieldType" "SINT32" "Lcom/example/rolling_rung/rollingrung/schema/FieldType;" (.ref r5)) (S_FieldType_SINT64 : Sta Z h0 "com/example/rolling_rung/rollingrung/schema/FieldType" "SINT64" "Lcom/example/rolling_rung/rollingrung/schema/FieldType;" (.ref r6)) (S_FieldType_DOUBLE : Sta Z h0 "com/example/rolling_rung/rollingrung/schema/FieldType" "DOUBLE" "Lcom/example/rolling_rung/rollingrung/schema/FieldType;" (.ref r7)) (S_FieldType_FLOAT : Sta Z h0 "com/example/rolling_rung/rollingrung/schema/FieldType" "FLOAT" "Lcom/example/rolling_rung/rollingrung/schema/FieldType;" (.ref r8)) (hn0 : ¬ p = 0) (hn1 : ¬ p = 1) (hn2 : ¬ p = 2) (hn3 : ¬ p = 3) (hn4 : ¬ p = 4) (he : p = 5) :
    MetFree l (⟨"com/example/rolling_rung/rollingrung/schema/FieldWithStatePinLaw", "typeOf", "(I)Lcom/example/rolling_rung/rollingrung/schema/FieldType;"⟩ : MethodName) (head1 (Jvm.Cond.code (⟨"com/example/rolling_rung/rollingrung/schema/FieldWithStatePinLaw", "typeOf", "(I)Lcom/example/rolling_rung/rollingrung/schema/FieldType;"⟩ : MethodName) method_3_code 1 (some (.object "com/example/rolling_rung/rollingrung/schema/FieldType")) :: ws) ({ frames := 0, cells := 0, slots := 0, locals := 0 } : Room)) (fun aa_ U_ => aa_ = #[(.int p)] ∧ Z.Warmed39 U_.vm ∧ U_.heap = h0) (fun _ _ _ _ _ => True) (fun _ U_ o_ U'_ => ∃ v_ L_, o_ = .returned v_ ∧ Q_typ Z p r0 r1 r2 r3 r4 r5 r6 r7 r8 h0 n0 v_ U'_.heap L_ ∧ FrameEnd U_ o_ U'_ L_ ({ frames := 0, cells := 0, slots := 0, locals := 0 } : Room).cells ({ frames := 0, cells := 0, slots := 0, locals := 0 } : Room).slots) := by
  refine MetFree.of_bodySF (plainFor_of_name pn_2) hisR ?_
  intro pP eE sS mM argsA below meth cC s₁ Bd hml0 hP hK
  obtain ⟨rfl, hZ, hh⟩ := hP
  have hx := Bd.exec
  have hby := Bd.bytes
  have hml : cC.maxLocals = 1 := hml0
  have hown : sS.vm.findClass "com/example/rolling_rung/rollingrung/schema/FieldWithStatePinLaw" = some mM.cls := findClass_of_methodNamed Bd.named
  have hnm := (name_of_methodNamed Bd.named Bd.method).1
  have X0 : Stand pP l eE ({ frames := 0, cells := 0, slots := 0, locals := 0 } : Room) sS mM #[(.int p)] below meth cC s₁ [] 0 0 := Stand.of_body Bd
  have e0 : s₁.heap = h0 := by rw [← hh, Bd.state]; rfl
  have N0 := Fr.nil n0
  have pre0 : ∀ t_, Steps pP.tables eE below (s₁.setTop (mkF mM 0 #[.val (.int p)] [])) t_ → Steps pP.tables eE below (s₁.setTop (entryFrame mM #[(.int p)] 1)) t_ := fun t_ k_ => castTop (ef_typ_5 mM p) k_
  obtain ⟨T_1, X_1, e_1, st_1⟩ := getS2 X0 hx hZ hown (host := "") (Or.inl (ow hw 135 rfl)) Via.refl e0 S_FieldType_SINT32 (g := (mkF mM 49 #[.val (.int p)] [])) rfl (hb hby d_method_3_49)
  obtain ⟨fs, hr, hrun, hended, hW, hsame⟩ := X_1.leave (v := some (.ref r5)) (fun h => by rw [Bd.returns] at h; cases h)
  refine ⟨_, _, pre0 _ ?_, hrun, hended, _, _, rfl, ?_, ⟨_, rfl⟩, hW, hsame.mono (by decide) (by decide)⟩
  · show oS pP eE below s₁ (mkF mM 0 #[.val (.int p)] []) _
    refine XS.iloadN X0.here hx rfl (hb hby d_method_3_0) rfl ?_
    refine XS.ifYes X0.here hx rfl (pc0 := 1) (pc' := 8) rfl (hb hby d_method_3_1) rfl (XT.i0_ne_t hn0) (by decide) (by decide) ?_
    refine XS.iloadN X0.here hx rfl (hb hby d_method_3_8) rfl ?_
    refine XS.iconst X0.here hx rfl (hb hby d_method_3_9) ?_
    show oS pP eE below s₁ (mkF mM 10 #[.val (.int p)] [(.int (1 : Int32)), (.int p)]) _
    refine XS.icmpYes X0.here hx rfl (pc0 := 10) (pc' := 17) rfl (hb hby d_method_3_10) rfl (XT.ii_ne_t hn1) (by decide) (by decide) ?_
    refine XS.iloadN X0.here hx rfl (hb hby d_method_3_17) rfl ?_
    refine XS.iconst X0.here hx rfl (hb hby d_method_3_18) ?_
    refine XS.icmpYes X0.here hx rfl (pc0 := 19) (pc' := 26) rfl (hb hby d_method_3_19) rfl (XT.ii_ne_t hn2) (by decide) (by decide) ?_
    show oS pP eE below s₁ (mkF mM 26 #[.val (.int p)] []) _
    refine XS.iloadN X0.here hx rfl (hb hby d_method_3_26) rfl ?_
    refine XS.iconst X0.here hx rfl (hb hby d_method_3_27) ?_
    refine XS.icmpYes X0.here hx rfl (pc0 := 28) (pc' := 35) rfl (hb hby d_method_3_28) rfl (XT.ii_ne_t hn3) (by decide) (by decide) ?_
    refine XS.iloadN X0.here hx rfl (hb hby d_method_3_35) rfl ?_
    show oS pP eE below s₁ (mkF mM 36 #[.val (.int p)] [(.int p)]) _
    refine XS.iconst X0.here hx rfl (hb hby d_method_3_36) ?_
    refine XS.icmpYes X0.here hx rfl (pc0 := 37) (pc' := 44) rfl (hb hby d_method_3_37) rfl (XT.ii_ne_t hn4) (by decide) (by decide) ?_
    refine XS.iloadN X0.here hx rfl (hb hby d_method_3_44) rfl ?_
    refine XS.iconst X0.here hx rfl (hb hby d_method_3_45) ?_
    show oS pP eE below s₁ (mkF mM 46 #[.val (.int p)] [(.int (5 : Int32)), (.int p)]) _
    refine XS.icmpNo X0.here hx rfl (hb hby d_method_3_46) rfl (XT.ii_ne_f he) ?_
    show oS pP eE below s₁ (mkF mM 49 #[.val (.int p)] []) _
    refine st_1 _ ?_
    show oS pP eE below T_1 (mkF mM 52 #[.val (.int p)] [(.ref r5)]) _
    exact retOut X_1 hx Bd.returns rfl (Or.inr (Or.inr (Or.inr (Or.inr ⟨rfl, rfl, rfl⟩)))) (hb hby d_method_3_52) hr
  · show Q_typ Z p r0 r1 r2 r3 r4 r5 r6 r7 r8 h0 n0 _ T_1.heap _
    rw [e_1]
    exact ⟨(congrArg (fun z => some (Value.ref z)) (by simp [own_ty, hn0, hn1, hn2, hn3, hn4, he] : r5 = (own_ty p r0 r1 r2 r3 r4 r5 r6 r7 r8))), N0, rfl⟩
theorem d_method_3_53 : decode method_3_code 53 = .ok (.iload_n 0, 1) := by decide +kernel
theorem d_method_3_54 : decode method_3_code 54 = .ok (.bipush 6, 2) := by decide +kernel
theorem d_method_3_56 : decode method_3_code 56 = .ok (.if_icmp .ne 7, 3) := by decide +kernel
theorem d_method_3_59 : decode method_3_code 59 = .ok (.getstatic 80, 3) := by decide +kernel
theorem d_method_3_62 : decode method_3_code 62 = .ok (.areturn, 1) := by decide +kernel
theorem ef_typ_6 (mM : MethodId) (x0 : Int32) : entryFrame mM #[(.int x0)] 1 = mkF mM 0 #[.val (.int x0)] [] := by first | (simp [entryFrame, mkF, argsToLocals, Value.category]; done) | rfl
set_option maxRecDepth 65536 in
set_option maxHeartbeats 40000000 in
theorem rm_typ_6 (l : Launch) (Z : State) (a0 : Array Value) (hw : ∀ d ∈ tables_1, d.before a0 Z = true) (ws : List Jvm.Cond) (p : Int32) (r0 : Addr) (r1 : Addr) (r2 : Addr) (r3 : Addr) (r4 : Addr) (r5 : Addr) (r6 : Addr) (r7 : Addr) (r8 : Addr) (h0 : Heap) (n0 : Nat) (Z0 : n0 ≤ h0.size) (S_FieldType_STRING : Sta Z h0 "com/example/rolling_rung/rollingrung/schema/FieldType" "STRING" "Lcom/example/rolling_rung/rollingrung/schema/FieldType;" (.ref r0)) (S_FieldType_BYTES : Sta Z h0 "com/example/rolling_rung/rollingrung/schema/FieldType" "BYTES" "Lcom/example/rolling_rung/rollingrung/schema/FieldType;" (.ref r1)) (S_FieldType_BOOL : Sta Z h0 "com/example/rolling_rung/rollingrung/schema/FieldType" "BOOL" "Lcom/example/rolling_rung/rollingrung/schema/FieldType;" (.ref r2)) (S_FieldType_INT32 : Sta Z h0 "com/example/rolling_rung/rollingrung/schema/FieldType" "INT32" "Lcom/example/rolling_rung/rollingrung/schema/FieldType;" (.ref r3)) (S_FieldType_INT64 : Sta Z h0 "com/example/rolling_rung/rollingrung/schema/FieldType" "INT64" "Lcom/example/rolling_rung/rollingrung/schema/FieldType;" (.ref r4)) (S_FieldType_SINT32 : Sta Z h0 "com/example/rolling_rung/rollingrung/schema/FieldType" "SINT32" "Lcom/example/rolling_rung/rollingrung/schema/FieldType;" (.ref r5)) (S_FieldType_SINT64 : Sta Z h0 "com/example/rolling_rung/rollingrung/schema/FieldType" "SINT64" "Lcom/example/rolling_rung/rollingrung/schema/FieldType;" (.ref r6)) (S_FieldType_DOUBLE : Sta Z h0 "com/example/rolling_rung/rollingrung/schema/FieldType" "DOUBLE" "Lcom/example/rolling_rung/rollingrung/schema/FieldType;" (.ref r7)) (S_FieldType_FLOAT : Sta Z h0 "com/example/rolling_rung/rollingrung/schema/FieldType" "FLOAT" "Lcom/example/rolling_rung/rollingrung/schema/FieldType;" (.ref r8)) (hn0 : ¬ p = 0) (hn1 : ¬ p = 1) (hn2 : ¬ p = 2) (hn3 : ¬ p = 3) (hn4 : ¬ p = 4) (hn5 : ¬ p = 5) (he : p = 6) :
    MetFree l (⟨"com/example/rolling_rung/rollingrung/schema/FieldWithStatePinLaw", "typeOf", "(I)Lcom/example/rolling_rung/rollingrung/schema/FieldType;"⟩ : MethodName) (head1 (Jvm.Cond.code (⟨"com/example/rolling_rung/rollingrung/schema/FieldWithStatePinLaw", "typeOf", "(I)Lcom/example/rolling_rung/rollingrung/schema/FieldType;"⟩ : MethodName) method_3_code 1 (some (.object "com/example/rolling_rung/rollingrung/schema/FieldType")) :: ws) ({ frames := 0, cells := 0, slots := 0, locals := 0 } : Room)) (fun aa_ U_ => aa_ = #[(.int p)] ∧ Z.Warmed39 U_.vm ∧ U_.heap = h0) (fun _ _ _ _ _ => True) (fun _ U_ o_ U'_ => ∃ v_ L_, o_ = .returned v_ ∧ Q_typ Z p r0 r1 r2 r3 r4 r5 r6 r7 r8 h0 n0 v_ U'_.heap L_ ∧ FrameEnd U_ o_ U'_ L_ ({ frames := 0, cells := 0, slots := 0, locals := 0 } : Room).cells ({ frames := 0, cells := 0, slots := 0, locals := 0 } : Room).slots) := by
  refine MetFree.of_bodySF (plainFor_of_name pn_2) hisR ?_
  intro pP eE sS mM argsA below meth cC s₁ Bd hml0 hP hK
  obtain ⟨rfl, hZ, hh⟩ := hP
  have hx := Bd.exec
  have hby := Bd.bytes
  have hml : cC.maxLocals = 1 := hml0
  have hown : sS.vm.findClass "com/example/rolling_rung/rollingrung/schema/FieldWithStatePinLaw" = some mM.cls := findClass_of_methodNamed Bd.named
  have hnm := (name_of_methodNamed Bd.named Bd.method).1
  have X0 : Stand pP l eE ({ frames := 0, cells := 0, slots := 0, locals := 0 } : Room) sS mM #[(.int p)] below meth cC s₁ [] 0 0 := Stand.of_body Bd
  have e0 : s₁.heap = h0 := by rw [← hh, Bd.state]; rfl
  have N0 := Fr.nil n0
  have pre0 : ∀ t_, Steps pP.tables eE below (s₁.setTop (mkF mM 0 #[.val (.int p)] [])) t_ → Steps pP.tables eE below (s₁.setTop (entryFrame mM #[(.int p)] 1)) t_ := fun t_ k_ => castTop (ef_typ_6 mM p) k_
  obtain ⟨T_1, X_1, e_1, st_1⟩ := getS2 X0 hx hZ hown (host := "") (Or.inl (ow hw 133 rfl)) Via.refl e0 S_FieldType_SINT64 (g := (mkF mM 59 #[.val (.int p)] [])) rfl (hb hby d_method_3_59)
  obtain ⟨fs, hr, hrun, hended, hW, hsame⟩ := X_1.leave (v := some (.ref r6)) (fun h => by rw [Bd.returns] at h; cases h)
  refine ⟨_, _, pre0 _ ?_, hrun, hended, _, _, rfl, ?_, ⟨_, rfl⟩, hW, hsame.mono (by decide) (by decide)⟩
  · show oS pP eE below s₁ (mkF mM 0 #[.val (.int p)] []) _
    refine XS.iloadN X0.here hx rfl (hb hby d_method_3_0) rfl ?_
    refine XS.ifYes X0.here hx rfl (pc0 := 1) (pc' := 8) rfl (hb hby d_method_3_1) rfl (XT.i0_ne_t hn0) (by decide) (by decide) ?_
    refine XS.iloadN X0.here hx rfl (hb hby d_method_3_8) rfl ?_
    refine XS.iconst X0.here hx rfl (hb hby d_method_3_9) ?_
    show oS pP eE below s₁ (mkF mM 10 #[.val (.int p)] [(.int (1 : Int32)), (.int p)]) _
    refine XS.icmpYes X0.here hx rfl (pc0 := 10) (pc' := 17) rfl (hb hby d_method_3_10) rfl (XT.ii_ne_t hn1) (by decide) (by decide) ?_
    refine XS.iloadN X0.here hx rfl (hb hby d_method_3_17) rfl ?_
    refine XS.iconst X0.here hx rfl (hb hby d_method_3_18) ?_
    refine XS.icmpYes X0.here hx rfl (pc0 := 19) (pc' := 26) rfl (hb hby d_method_3_19) rfl (XT.ii_ne_t hn2) (by decide) (by decide) ?_
    show oS pP eE below s₁ (mkF mM 26 #[.val (.int p)] []) _
    refine XS.iloadN X0.here hx rfl (hb hby d_method_3_26) rfl ?_
    refine XS.iconst X0.here hx rfl (hb hby d_method_3_27) ?_
    refine XS.icmpYes X0.here hx rfl (pc0 := 28) (pc' := 35) rfl (hb hby d_method_3_28) rfl (XT.ii_ne_t hn3) (by decide) (by decide) ?_
    refine XS.iloadN X0.here hx rfl (hb hby d_method_3_35) rfl ?_
    show oS pP eE below s₁ (mkF mM 36 #[.val (.int p)] [(.int p)]) _
    refine XS.iconst X0.here hx rfl (hb hby d_method_3_36) ?_
    refine XS.icmpYes X0.here hx rfl (pc0 := 37) (pc' := 44) rfl (hb hby d_method_3_37) rfl (XT.ii_ne_t hn4) (by decide) (by decide) ?_
    refine XS.iloadN X0.here hx rfl (hb hby d_method_3_44) rfl ?_
    refine XS.iconst X0.here hx rfl (hb hby d_method_3_45) ?_
    show oS pP eE below s₁ (mkF mM 46 #[.val (.int p)] [(.int (5 : Int32)), (.int p)]) _
    refine XS.icmpYes X0.here hx rfl (pc0 := 46) (pc' := 53) rfl (hb hby d_method_3_46) rfl (XT.ii_ne_t hn5) (by decide) (by decide) ?_
    refine XS.iloadN X0.here hx rfl (hb hby d_method_3_53) rfl ?_
    refine XS.bipush X0.here hx rfl (hb hby d_method_3_54) ?_
    refine XS.icmpNo X0.here hx rfl (hb hby d_method_3_56) rfl (XT.ii_ne_f he) ?_
    show oS pP eE below s₁ (mkF mM 59 #[.val (.int p)] []) _
    refine st_1 _ ?_
    show oS pP eE below T_1 (mkF mM 62 #[.val (.int p)] [(.ref r6)]) _
    exact retOut X_1 hx Bd.returns rfl (Or.inr (Or.inr (Or.inr (Or.inr ⟨rfl, rfl, rfl⟩)))) (hb hby d_method_3_62) hr
  · show Q_typ Z p r0 r1 r2 r3 r4 r5 r6 r7 r8 h0 n0 _ T_1.heap _
    rw [e_1]
    exact ⟨(congrArg (fun z => some (Value.ref z)) (by simp [own_ty, hn0, hn1, hn2, hn3, hn4, hn5, he] : r6 = (own_ty p r0 r1 r2 r3 r4 r5 r6 r7 r8))), N0, rfl⟩
theorem d_method_3_63 : decode method_3_code 63 = .ok (.iload_n 0, 1) := by decide +kernel
theorem d_method_3_64 : decode method_3_code 64 = .ok (.bipush 7, 2) := by decide +kernel
theorem d_method_3_66 : decode method_3_code 66 = .ok (.if_icmp .ne 7, 3) := by decide +kernel
theorem d_method_3_69 : decode method_3_code 69 = .ok (.getstatic 83, 3) := by decide +kernel
theorem d_method_3_72 : decode method_3_code 72 = .ok (.areturn, 1) := by decide +kernel
theorem ef_typ_7 (mM : MethodId) (x0 : Int32) : entryFrame mM #[(.int x0)] 1 = mkF mM 0 #[.val (.int x0)] [] := by first | (simp [entryFrame, mkF, argsToLocals, Value.category]; done) | rfl
set_option maxRecDepth 65536 in
set_option maxHeartbeats 40000000 in
theorem rm_typ_7 (l : Launch) (Z : State) (a0 : Array Value) (hw : ∀ d ∈ tables_1, d.before a0 Z = true) (ws : List Jvm.Cond) (p : Int32) (r0 : Addr) (r1 : Addr) (r2 : Addr) (r3 : Addr) (r4 : Addr) (r5 : Addr) (r6 : Addr) (r7 : Addr) (r8 : Addr) (h0 : Heap) (n0 : Nat) (Z0 : n0 ≤ h0.size) (S_FieldType_STRING : Sta Z h0 "com/example/rolling_rung/rollingrung/schema/FieldType" "STRING" "Lcom/example/rolling_rung/rollingrung/schema/FieldType;" (.ref r0)) (S_FieldType_BYTES : Sta Z h0 "com/example/rolling_rung/rollingrung/schema/FieldType" "BYTES" "Lcom/example/rolling_rung/rollingrung/schema/FieldType;" (.ref r1)) (S_FieldType_BOOL : Sta Z h0 "com/example/rolling_rung/rollingrung/schema/FieldType" "BOOL" "Lcom/example/rolling_rung/rollingrung/schema/FieldType;" (.ref r2)) (S_FieldType_INT32 : Sta Z h0 "com/example/rolling_rung/rollingrung/schema/FieldType" "INT32" "Lcom/example/rolling_rung/rollingrung/schema/FieldType;" (.ref r3)) (S_FieldType_INT64 : Sta Z h0 "com/example/rolling_rung/rollingrung/schema/FieldType" "INT64" "Lcom/example/rolling_rung/rollingrung/schema/FieldType;" (.ref r4)) (S_FieldType_SINT32 : Sta Z h0 "com/example/rolling_rung/rollingrung/schema/FieldType" "SINT32" "Lcom/example/rolling_rung/rollingrung/schema/FieldType;" (.ref r5)) (S_FieldType_SINT64 : Sta Z h0 "com/example/rolling_rung/rollingrung/schema/FieldType" "SINT64" "Lcom/example/rolling_rung/rollingrung/schema/FieldType;" (.ref r6)) (S_FieldType_DOUBLE : Sta Z h0 "com/example/rolling_rung/rollingrung/schema/FieldType" "DOUBLE" "Lcom/example/rolling_rung/rollingrung/schema/FieldType;" (.ref r7)) (S_FieldType_FLOAT : Sta Z h0 "com/example/rolling_rung/rollingrung/schema/FieldType" "FLOAT" "Lcom/example/rolling_rung/rollingrung/schema/FieldType;" (.ref r8)) (hn0 : ¬ p = 0) (hn1 : ¬ p = 1) (hn2 : ¬ p = 2) (hn3 : ¬ p = 3) (hn4 : ¬ p = 4) (hn5 : ¬ p = 5) (hn6 : ¬ p = 6) (he : p = 7) :
    MetFree l (⟨"com/example/rolling_rung/rollingrung/schema/FieldWithStatePinLaw", "typeOf", "(I)Lcom/example/rolling_rung/rollingrung/schema/FieldType;"⟩ : MethodName) (head1 (Jvm.Cond.code (⟨"com/example/rolling_rung/rollingrung/schema/FieldWithStatePinLaw", "typeOf", "(I)Lcom/example/rolling_rung/rollingrung/schema/FieldType;"⟩ : MethodName) method_3_code 1 (some (.object "com/example/rolling_rung/rollingrung/schema/FieldType")) :: ws) ({ frames := 0, cells := 0, slots := 0, locals := 0 } : Room)) (fun aa_ U_ => aa_ = #[(.int p)] ∧ Z.Warmed39 U_.vm ∧ U_.heap = h0) (fun _ _ _ _ _ => True) (fun _ U_ o_ U'_ => ∃ v_ L_, o_ = .returned v_ ∧ Q_typ Z p r0 r1 r2 r3 r4 r5 r6 r7 r8 h0 n0 v_ U'_.heap L_ ∧ FrameEnd U_ o_ U'_ L_ ({ frames := 0, cells := 0, slots := 0, locals := 0 } : Room).cells ({ frames := 0, cells := 0, slots := 0, locals := 0 } : Room).slots) := by
  refine MetFree.of_bodySF (plainFor_of_name pn_2) hisR ?_
  intro pP eE sS mM argsA below meth cC s₁ Bd hml0 hP hK
  obtain ⟨rfl, hZ, hh⟩ := hP
  have hx := Bd.exec
  have hby := Bd.bytes
  have hml : cC.maxLocals = 1 := hml0
  have hown : sS.vm.findClass "com/example/rolling_rung/rollingrung/schema/FieldWithStatePinLaw" = some mM.cls := findClass_of_methodNamed Bd.named
  have hnm := (name_of_methodNamed Bd.named Bd.method).1
  have X0 : Stand pP l eE ({ frames := 0, cells := 0, slots := 0, locals := 0 } : Room) sS mM #[(.int p)] below meth cC s₁ [] 0 0 := Stand.of_body Bd
  have e0 : s₁.heap = h0 := by rw [← hh, Bd.state]; rfl
  have N0 := Fr.nil n0
  have pre0 : ∀ t_, Steps pP.tables eE below (s₁.setTop (mkF mM 0 #[.val (.int p)] [])) t_ → Steps pP.tables eE below (s₁.setTop (entryFrame mM #[(.int p)] 1)) t_ := fun t_ k_ => castTop (ef_typ_7 mM p) k_
  obtain ⟨T_1, X_1, e_1, st_1⟩ := getS2 X0 hx hZ hown (host := "") (Or.inl (ow hw 139 rfl)) Via.refl e0 S_FieldType_DOUBLE (g := (mkF mM 69 #[.val (.int p)] [])) rfl (hb hby d_method_3_69)
  obtain ⟨fs, hr, hrun, hended, hW, hsame⟩ := X_1.leave (v := some (.ref r7)) (fun h => by rw [Bd.returns] at h; cases h)
  refine ⟨_, _, pre0 _ ?_, hrun, hended, _, _, rfl, ?_, ⟨_, rfl⟩, hW, hsame.mono (by decide) (by decide)⟩
  · show oS pP eE below s₁ (mkF mM 0 #[.val (.int p)] []) _
    refine XS.iloadN X0.here hx rfl (hb hby d_method_3_0) rfl ?_
    refine XS.ifYes X0.here hx rfl (pc0 := 1) (pc' := 8) rfl (hb hby d_method_3_1) rfl (XT.i0_ne_t hn0) (by decide) (by decide) ?_
    refine XS.iloadN X0.here hx rfl (hb hby d_method_3_8) rfl ?_
    refine XS.iconst X0.here hx rfl (hb hby d_method_3_9) ?_
    show oS pP eE below s₁ (mkF mM 10 #[.val (.int p)] [(.int (1 : Int32)), (.int p)]) _
    refine XS.icmpYes X0.here hx rfl (pc0 := 10) (pc' := 17) rfl (hb hby d_method_3_10) rfl (XT.ii_ne_t hn1) (by decide) (by decide) ?_
    refine XS.iloadN X0.here hx rfl (hb hby d_method_3_17) rfl ?_
    refine XS.iconst X0.here hx rfl (hb hby d_method_3_18) ?_
    refine XS.icmpYes X0.here hx rfl (pc0 := 19) (pc' := 26) rfl (hb hby d_method_3_19) rfl (XT.ii_ne_t hn2) (by decide) (by decide) ?_
    show oS pP eE below s₁ (mkF mM 26 #[.val (.int p)] []) _
    refine XS.iloadN X0.here hx rfl (hb hby d_method_3_26) rfl ?_
    refine XS.iconst X0.here hx rfl (hb hby d_method_3_27) ?_
    refine XS.icmpYes X0.here hx rfl (pc0 := 28) (pc' := 35) rfl (hb hby d_method_3_28) rfl (XT.ii_ne_t hn3) (by decide) (by decide) ?_
    refine XS.iloadN X0.here hx rfl (hb hby d_method_3_35) rfl ?_
    show oS pP eE below s₁ (mkF mM 36 #[.val (.int p)] [(.int p)]) _
    refine XS.iconst X0.here hx rfl (hb hby d_method_3_36) ?_
    refine XS.icmpYes X0.here hx rfl (pc0 := 37) (pc' := 44) rfl (hb hby d_method_3_37) rfl (XT.ii_ne_t hn4) (by decide) (by decide) ?_
    refine XS.iloadN X0.here hx rfl (hb hby d_method_3_44) rfl ?_
    refine XS.iconst X0.here hx rfl (hb hby d_method_3_45) ?_
    show oS pP eE below s₁ (mkF mM 46 #[.val (.int p)] [(.int (5 : Int32)), (.int p)]) _
    refine XS.icmpYes X0.here hx rfl (pc0 := 46) (pc' := 53) rfl (hb hby d_method_3_46) rfl (XT.ii_ne_t hn5) (by decide) (by decide) ?_
    refine XS.iloadN X0.here hx rfl (hb hby d_method_3_53) rfl ?_
    refine XS.bipush X0.here hx rfl (hb hby d_method_3_54) ?_
    refine XS.icmpYes X0.here hx rfl (pc0 := 56) (pc' := 63) rfl (hb hby d_method_3_56) rfl (XT.ii_ne_t hn6) (by decide) (by decide) ?_
    show oS pP eE below s₁ (mkF mM 63 #[.val (.int p)] []) _
    refine XS.iloadN X0.here hx rfl (hb hby d_method_3_63) rfl ?_
    refine XS.bipush X0.here hx rfl (hb hby d_method_3_64) ?_
    refine XS.icmpNo X0.here hx rfl (hb hby d_method_3_66) rfl (XT.ii_ne_f he) ?_
    show oS pP eE below s₁ (mkF mM 69 #[.val (.int p)] []) _
    refine st_1 _ ?_
    show oS pP eE below T_1 (mkF mM 72 #[.val (.int p)] [(.ref r7)]) _
    exact retOut X_1 hx Bd.returns rfl (Or.inr (Or.inr (Or.inr (Or.inr ⟨rfl, rfl, rfl⟩)))) (hb hby d_method_3_72) hr
  · show Q_typ Z p r0 r1 r2 r3 r4 r5 r6 r7 r8 h0 n0 _ T_1.heap _
    rw [e_1]
    exact ⟨(congrArg (fun z => some (Value.ref z)) (by simp [own_ty, hn0, hn1, hn2, hn3, hn4, hn5, hn6, he] : r7 = (own_ty p r0 r1 r2 r3 r4 r5 r6 r7 r8))), N0, rfl⟩
theorem d_method_3_73 : decode method_3_code 73 = .ok (.getstatic 86, 3) := by decide +kernel
theorem d_method_3_76 : decode method_3_code 76 = .ok (.areturn, 1) := by decide +kernel
theorem ef_typ_8 (mM : MethodId) (x0 : Int32) : entryFrame mM #[(.int x0)] 1 = mkF mM 0 #[.val (.int x0)] [] := by first | (simp [entryFrame, mkF, argsToLocals, Value.category]; done) | rfl
set_option maxRecDepth 65536 in
set_option maxHeartbeats 40000000 in
theorem rm_typ_8 (l : Launch) (Z : State) (a0 : Array Value) (hw : ∀ d ∈ tables_1, d.before a0 Z = true) (ws : List Jvm.Cond) (p : Int32) (r0 : Addr) (r1 : Addr) (r2 : Addr) (r3 : Addr) (r4 : Addr) (r5 : Addr) (r6 : Addr) (r7 : Addr) (r8 : Addr) (h0 : Heap) (n0 : Nat) (Z0 : n0 ≤ h0.size) (S_FieldType_STRING : Sta Z h0 "com/example/rolling_rung/rollingrung/schema/FieldType" "STRING" "Lcom/example/rolling_rung/rollingrung/schema/FieldType;" (.ref r0)) (S_FieldType_BYTES : Sta Z h0 "com/example/rolling_rung/rollingrung/schema/FieldType" "BYTES" "Lcom/example/rolling_rung/rollingrung/schema/FieldType;" (.ref r1)) (S_FieldType_BOOL : Sta Z h0 "com/example/rolling_rung/rollingrung/schema/FieldType" "BOOL" "Lcom/example/rolling_rung/rollingrung/schema/FieldType;" (.ref r2)) (S_FieldType_INT32 : Sta Z h0 "com/example/rolling_rung/rollingrung/schema/FieldType" "INT32" "Lcom/example/rolling_rung/rollingrung/schema/FieldType;" (.ref r3)) (S_FieldType_INT64 : Sta Z h0 "com/example/rolling_rung/rollingrung/schema/FieldType" "INT64" "Lcom/example/rolling_rung/rollingrung/schema/FieldType;" (.ref r4)) (S_FieldType_SINT32 : Sta Z h0 "com/example/rolling_rung/rollingrung/schema/FieldType" "SINT32" "Lcom/example/rolling_rung/rollingrung/schema/FieldType;" (.ref r5)) (S_FieldType_SINT64 : Sta Z h0 "com/example/rolling_rung/rollingrung/schema/FieldType" "SINT64" "Lcom/example/rolling_rung/rollingrung/schema/FieldType;" (.ref r6)) (S_FieldType_DOUBLE : Sta Z h0 "com/example/rolling_rung/rollingrung/schema/FieldType" "DOUBLE" "Lcom/example/rolling_rung/rollingrung/schema/FieldType;" (.ref r7)) (S_FieldType_FLOAT : Sta Z h0 "com/example/rolling_rung/rollingrung/schema/FieldType" "FLOAT" "Lcom/example/rolling_rung/rollingrung/schema/FieldType;" (.ref r8)) (hn0 : ¬ p = 0) (hn1 : ¬ p = 1) (hn2 : ¬ p = 2) (hn3 : ¬ p = 3) (hn4 : ¬ p = 4) (hn5 : ¬ p = 5) (hn6 : ¬ p = 6) (hn7 : ¬ p = 7) :
    MetFree l (⟨"com/example/rolling_rung/rollingrung/schema/FieldWithStatePinLaw", "typeOf", "(I)Lcom/example/rolling_rung/rollingrung/schema/FieldType;"⟩ : MethodName) (head1 (Jvm.Cond.code (⟨"com/example/rolling_rung/rollingrung/schema/FieldWithStatePinLaw", "typeOf", "(I)Lcom/example/rolling_rung/rollingrung/schema/FieldType;"⟩ : MethodName) method_3_code 1 (some (.object "com/example/rolling_rung/rollingrung/schema/FieldType")) :: ws) ({ frames := 0, cells := 0, slots := 0, locals := 0 } : Room)) (fun aa_ U_ => aa_ = #[(.int p)] ∧ Z.Warmed39 U_.vm ∧ U_.heap = h0) (fun _ _ _ _ _ => True) (fun _ U_ o_ U'_ => ∃ v_ L_, o_ = .returned v_ ∧ Q_typ Z p r0 r1 r2 r3 r4 r5 r6 r7 r8 h0 n0 v_ U'_.heap L_ ∧ FrameEnd U_ o_ U'_ L_ ({ frames := 0, cells := 0, slots := 0, locals := 0 } : Room).cells ({ frames := 0, cells := 0, slots := 0, locals := 0 } : Room).slots) := by
  refine MetFree.of_bodySF (plainFor_of_name pn_2) hisR ?_
  intro pP eE sS mM argsA below meth cC s₁ Bd hml0 hP hK
  obtain ⟨rfl, hZ, hh⟩ := hP
  have hx := Bd.exec
  have hby := Bd.bytes
  have hml : cC.maxLocals = 1 := hml0
  have hown : sS.vm.findClass "com/example/rolling_rung/rollingrung/schema/FieldWithStatePinLaw" = some mM.cls := findClass_of_methodNamed Bd.named
  have hnm := (name_of_methodNamed Bd.named Bd.method).1
  have X0 : Stand pP l eE ({ frames := 0, cells := 0, slots := 0, locals := 0 } : Room) sS mM #[(.int p)] below meth cC s₁ [] 0 0 := Stand.of_body Bd
  have e0 : s₁.heap = h0 := by rw [← hh, Bd.state]; rfl
  have N0 := Fr.nil n0
  have pre0 : ∀ t_, Steps pP.tables eE below (s₁.setTop (mkF mM 0 #[.val (.int p)] [])) t_ → Steps pP.tables eE below (s₁.setTop (entryFrame mM #[(.int p)] 1)) t_ := fun t_ k_ => castTop (ef_typ_8 mM p) k_
  obtain ⟨T_1, X_1, e_1, st_1⟩ := getS2 X0 hx hZ hown (host := "") (Or.inl (ow hw 131 rfl)) Via.refl e0 S_FieldType_FLOAT (g := (mkF mM 73 #[.val (.int p)] [])) rfl (hb hby d_method_3_73)
  obtain ⟨fs, hr, hrun, hended, hW, hsame⟩ := X_1.leave (v := some (.ref r8)) (fun h => by rw [Bd.returns] at h; cases h)
  refine ⟨_, _, pre0 _ ?_, hrun, hended, _, _, rfl, ?_, ⟨_, rfl⟩, hW, hsame.mono (by decide) (by decide)⟩
  · show oS pP eE below s₁ (mkF mM 0 #[.val (.int p)] []) _
    refine XS.iloadN X0.here hx rfl (hb hby d_method_3_0) rfl ?_
    refine XS.ifYes X0.here hx rfl (pc0 := 1) (pc' := 8) rfl (hb hby d_method_3_1) rfl (XT.i0_ne_t hn0) (by decide) (by decide) ?_
    refine XS.iloadN X0.here hx rfl (hb hby d_method_3_8) rfl ?_
    refine XS.iconst X0.here hx rfl (hb hby d_method_3_9) ?_
    show oS pP eE below s₁ (mkF mM 10 #[.val (.int p)] [(.int (1 : Int32)), (.int p)]) _
    refine XS.icmpYes X0.here hx rfl (pc0 := 10) (pc' := 17) rfl (hb hby d_method_3_10) rfl (XT.ii_ne_t hn1) (by decide) (by decide) ?_
    refine XS.iloadN X0.here hx rfl (hb hby d_method_3_17) rfl ?_
    refine XS.iconst X0.here hx rfl (hb hby d_method_3_18) ?_
    refine XS.icmpYes X0.here hx rfl (pc0 := 19) (pc' := 26) rfl (hb hby d_method_3_19) rfl (XT.ii_ne_t hn2) (by decide) (by decide) ?_
    show oS pP eE below s₁ (mkF mM 26 #[.val (.int p)] []) _
    refine XS.iloadN X0.here hx rfl (hb hby d_method_3_26) rfl ?_
    refine XS.iconst X0.here hx rfl (hb hby d_method_3_27) ?_
    refine XS.icmpYes X0.here hx rfl (pc0 := 28) (pc' := 35) rfl (hb hby d_method_3_28) rfl (XT.ii_ne_t hn3) (by decide) (by decide) ?_
    refine XS.iloadN X0.here hx rfl (hb hby d_method_3_35) rfl ?_
    show oS pP eE below s₁ (mkF mM 36 #[.val (.int p)] [(.int p)]) _
    refine XS.iconst X0.here hx rfl (hb hby d_method_3_36) ?_
    refine XS.icmpYes X0.here hx rfl (pc0 := 37) (pc' := 44) rfl (hb hby d_method_3_37) rfl (XT.ii_ne_t hn4) (by decide) (by decide) ?_
    refine XS.iloadN X0.here hx rfl (hb hby d_method_3_44) rfl ?_
    refine XS.iconst X0.here hx rfl (hb hby d_method_3_45) ?_
    show oS pP eE below s₁ (mkF mM 46 #[.val (.int p)] [(.int (5 : Int32)), (.int p)]) _
    refine XS.icmpYes X0.here hx rfl (pc0 := 46) (pc' := 53) rfl (hb hby d_method_3_46) rfl (XT.ii_ne_t hn5) (by decide) (by decide) ?_
    refine XS.iloadN X0.here hx rfl (hb hby d_method_3_53) rfl ?_
    refine XS.bipush X0.here hx rfl (hb hby d_method_3_54) ?_
    refine XS.icmpYes X0.here hx rfl (pc0 := 56) (pc' := 63) rfl (hb hby d_method_3_56) rfl (XT.ii_ne_t hn6) (by decide) (by decide) ?_
    show oS pP eE below s₁ (mkF mM 63 #[.val (.int p)] []) _
    refine XS.iloadN X0.here hx rfl (hb hby d_method_3_63) rfl ?_
    refine XS.bipush X0.here hx rfl (hb hby d_method_3_64) ?_
    refine XS.icmpYes X0.here hx rfl (pc0 := 66) (pc' := 73) rfl (hb hby d_method_3_66) rfl (XT.ii_ne_t hn7) (by decide) (by decide) ?_
    show oS pP eE below s₁ (mkF mM 73 #[.val (.int p)] []) _
    refine st_1 _ ?_
    show oS pP eE below T_1 (mkF mM 76 #[.val (.int p)] [(.ref r8)]) _
    exact retOut X_1 hx Bd.returns rfl (Or.inr (Or.inr (Or.inr (Or.inr ⟨rfl, rfl, rfl⟩)))) (hb hby d_method_3_76) hr
  · show Q_typ Z p r0 r1 r2 r3 r4 r5 r6 r7 r8 h0 n0 _ T_1.heap _
    rw [e_1]
    exact ⟨(congrArg (fun z => some (Value.ref z)) (by simp [own_ty, hn0, hn1, hn2, hn3, hn4, hn5, hn6, hn7] : r8 = (own_ty p r0 r1 r2 r3 r4 r5 r6 r7 r8))), N0, rfl⟩
set_option maxRecDepth 65536 in
set_option maxHeartbeats 40000000 in
theorem rm_typ (l : Launch) (Z : State) (a0 : Array Value) (hw : ∀ d ∈ tables_1, d.before a0 Z = true) (ws : List Jvm.Cond) (p : Int32) (r0 : Addr) (r1 : Addr) (r2 : Addr) (r3 : Addr) (r4 : Addr) (r5 : Addr) (r6 : Addr) (r7 : Addr) (r8 : Addr) (h0 : Heap) (n0 : Nat) (Z0 : n0 ≤ h0.size) (S_FieldType_STRING : Sta Z h0 "com/example/rolling_rung/rollingrung/schema/FieldType" "STRING" "Lcom/example/rolling_rung/rollingrung/schema/FieldType;" (.ref r0)) (S_FieldType_BYTES : Sta Z h0 "com/example/rolling_rung/rollingrung/schema/FieldType" "BYTES" "Lcom/example/rolling_rung/rollingrung/schema/FieldType;" (.ref r1)) (S_FieldType_BOOL : Sta Z h0 "com/example/rolling_rung/rollingrung/schema/FieldType" "BOOL" "Lcom/example/rolling_rung/rollingrung/schema/FieldType;" (.ref r2)) (S_FieldType_INT32 : Sta Z h0 "com/example/rolling_rung/rollingrung/schema/FieldType" "INT32" "Lcom/example/rolling_rung/rollingrung/schema/FieldType;" (.ref r3)) (S_FieldType_INT64 : Sta Z h0 "com/example/rolling_rung/rollingrung/schema/FieldType" "INT64" "Lcom/example/rolling_rung/rollingrung/schema/FieldType;" (.ref r4)) (S_FieldType_SINT32 : Sta Z h0 "com/example/rolling_rung/rollingrung/schema/FieldType" "SINT32" "Lcom/example/rolling_rung/rollingrung/schema/FieldType;" (.ref r5)) (S_FieldType_SINT64 : Sta Z h0 "com/example/rolling_rung/rollingrung/schema/FieldType" "SINT64" "Lcom/example/rolling_rung/rollingrung/schema/FieldType;" (.ref r6)) (S_FieldType_DOUBLE : Sta Z h0 "com/example/rolling_rung/rollingrung/schema/FieldType" "DOUBLE" "Lcom/example/rolling_rung/rollingrung/schema/FieldType;" (.ref r7)) (S_FieldType_FLOAT : Sta Z h0 "com/example/rolling_rung/rollingrung/schema/FieldType" "FLOAT" "Lcom/example/rolling_rung/rollingrung/schema/FieldType;" (.ref r8)) :
    MetFree l (⟨"com/example/rolling_rung/rollingrung/schema/FieldWithStatePinLaw", "typeOf", "(I)Lcom/example/rolling_rung/rollingrung/schema/FieldType;"⟩ : MethodName) (head1 (Jvm.Cond.code (⟨"com/example/rolling_rung/rollingrung/schema/FieldWithStatePinLaw", "typeOf", "(I)Lcom/example/rolling_rung/rollingrung/schema/FieldType;"⟩ : MethodName) method_3_code 1 (some (.object "com/example/rolling_rung/rollingrung/schema/FieldType")) :: ws) ({ frames := 0, cells := 0, slots := 0, locals := 0 } : Room)) (fun aa_ U_ => aa_ = #[(.int p)] ∧ Z.Warmed39 U_.vm ∧ U_.heap = h0) (fun _ _ _ _ _ => True) (fun _ U_ o_ U'_ => ∃ v_ L_, o_ = .returned v_ ∧ Q_typ Z p r0 r1 r2 r3 r4 r5 r6 r7 r8 h0 n0 v_ U'_.heap L_ ∧ FrameEnd U_ o_ U'_ L_ ({ frames := 0, cells := 0, slots := 0, locals := 0 } : Room).cells ({ frames := 0, cells := 0, slots := 0, locals := 0 } : Room).slots) := by
  by_cases he : p = 0
  · exact rm_typ_0 l Z a0 hw ws p r0 r1 r2 r3 r4 r5 r6 r7 r8 h0 n0 Z0 S_FieldType_STRING S_FieldType_BYTES S_FieldType_BOOL S_FieldType_INT32 S_FieldType_INT64 S_FieldType_SINT32 S_FieldType_SINT64 S_FieldType_DOUBLE S_FieldType_FLOAT  he
  · have hn0 := he
    by_cases he : p = 1
    · exact rm_typ_1 l Z a0 hw ws p r0 r1 r2 r3 r4 r5 r6 r7 r8 h0 n0 Z0 S_FieldType_STRING S_FieldType_BYTES S_FieldType_BOOL S_FieldType_INT32 S_FieldType_INT64 S_FieldType_SINT32 S_FieldType_SINT64 S_FieldType_DOUBLE S_FieldType_FLOAT hn0 he
    · have hn1 := he
      by_cases he : p = 2
      · exact rm_typ_2 l Z a0 hw ws p r0 r1 r2 r3 r4 r5 r6 r7 r8 h0 n0 Z0 S_FieldType_STRING S_FieldType_BYTES S_FieldType_BOOL S_FieldType_INT32 S_FieldType_INT64 S_FieldType_SINT32 S_FieldType_SINT64 S_FieldType_DOUBLE S_FieldType_FLOAT hn0 hn1 he
      · have hn2 := he
        by_cases he : p = 3
        · exact rm_typ_3 l Z a0 hw ws p r0 r1 r2 r3 r4 r5 r6 r7 r8 h0 n0 Z0 S_FieldType_STRING S_FieldType_BYTES S_FieldType_BOOL S_FieldType_INT32 S_FieldType_INT64 S_FieldType_SINT32 S_FieldType_SINT64 S_FieldType_DOUBLE S_FieldType_FLOAT hn0 hn1 hn2 he
        · have hn3 := he
          by_cases he : p = 4
          · exact rm_typ_4 l Z a0 hw ws p r0 r1 r2 r3 r4 r5 r6 r7 r8 h0 n0 Z0 S_FieldType_STRING S_FieldType_BYTES S_FieldType_BOOL S_FieldType_INT32 S_FieldType_INT64 S_FieldType_SINT32 S_FieldType_SINT64 S_FieldType_DOUBLE S_FieldType_FLOAT hn0 hn1 hn2 hn3 he
          · have hn4 := he
            by_cases he : p = 5
            · exact rm_typ_5 l Z a0 hw ws p r0 r1 r2 r3 r4 r5 r6 r7 r8 h0 n0 Z0 S_FieldType_STRING S_FieldType_BYTES S_FieldType_BOOL S_FieldType_INT32 S_FieldType_INT64 S_FieldType_SINT32 S_FieldType_SINT64 S_FieldType_DOUBLE S_FieldType_FLOAT hn0 hn1 hn2 hn3 hn4 he
            · have hn5 := he
              by_cases he : p = 6
              · exact rm_typ_6 l Z a0 hw ws p r0 r1 r2 r3 r4 r5 r6 r7 r8 h0 n0 Z0 S_FieldType_STRING S_FieldType_BYTES S_FieldType_BOOL S_FieldType_INT32 S_FieldType_INT64 S_FieldType_SINT32 S_FieldType_SINT64 S_FieldType_DOUBLE S_FieldType_FLOAT hn0 hn1 hn2 hn3 hn4 hn5 he
              · have hn6 := he
                by_cases he : p = 7
                · exact rm_typ_7 l Z a0 hw ws p r0 r1 r2 r3 r4 r5 r6 r7 r8 h0 n0 Z0 S_FieldType_STRING S_FieldType_BYTES S_FieldType_BOOL S_FieldType_INT32 S_FieldType_INT64 S_FieldType_SINT32 S_FieldType_SINT64 S_FieldType_DOUBLE S_FieldType_FLOAT hn0 hn1 hn2 hn3 hn4 hn5 hn6 he
                · have hn7 := he
                  exact rm_typ_8 l Z a0 hw ws p r0 r1 r2 r3 r4 r5 r6 r7 r8 h0 n0 Z0 S_FieldType_STRING S_FieldType_BYTES S_FieldType_BOOL S_FieldType_INT32 S_FieldType_INT64 S_FieldType_SINT32 S_FieldType_SINT64 S_FieldType_DOUBLE S_FieldType_FLOAT hn0 hn1 hn2 hn3 hn4 hn5 hn6 hn7
def Q_sta (Z : State) (p : Int32) (r0 : Addr) (r1 : Addr) (r2 : Addr) (r3 : Addr) (h0 : Heap) (n0 : Nat) (v_ : Option Value) (h_ : Heap) (L_ : List Loc) : Prop := v_ = some (.ref (own_st p r0 r1 r2 r3)) ∧ Fr n0 L_ ∧ h_ = h0
theorem d_method_4_0 : decode method_4_code 0 = .ok (.iload_n 0, 1) := by decide +kernel
theorem d_method_4_1 : decode method_4_code 1 = .ok (.ifCond .ne 7, 3) := by decide +kernel
theorem d_method_4_4 : decode method_4_code 4 = .ok (.getstatic 89, 3) := by decide +kernel
theorem d_method_4_7 : decode method_4_code 7 = .ok (.areturn, 1) := by decide +kernel
theorem ef_sta_0 (mM : MethodId) (x0 : Int32) : entryFrame mM #[(.int x0)] 1 = mkF mM 0 #[.val (.int x0)] [] := by first | (simp [entryFrame, mkF, argsToLocals, Value.category]; done) | rfl
set_option maxRecDepth 65536 in
set_option maxHeartbeats 40000000 in
theorem rm_sta_0 (l : Launch) (Z : State) (a0 : Array Value) (hw : ∀ d ∈ tables_1, d.before a0 Z = true) (ws : List Jvm.Cond) (p : Int32) (r0 : Addr) (r1 : Addr) (r2 : Addr) (r3 : Addr) (h0 : Heap) (n0 : Nat) (Z0 : n0 ≤ h0.size) (S_ElementState_ABSENT : Sta Z h0 "com/example/rolling_rung/rollingrung/schema/ElementState" "ABSENT" "Lcom/example/rolling_rung/rollingrung/schema/ElementState;" (.ref r0)) (S_ElementState_DELETE_ONLY : Sta Z h0 "com/example/rolling_rung/rollingrung/schema/ElementState" "DELETE_ONLY" "Lcom/example/rolling_rung/rollingrung/schema/ElementState;" (.ref r1)) (S_ElementState_WRITE_ONLY : Sta Z h0 "com/example/rolling_rung/rollingrung/schema/ElementState" "WRITE_ONLY" "Lcom/example/rolling_rung/rollingrung/schema/ElementState;" (.ref r2)) (S_ElementState_PUBLIC : Sta Z h0 "com/example/rolling_rung/rollingrung/schema/ElementState" "PUBLIC" "Lcom/example/rolling_rung/rollingrung/schema/ElementState;" (.ref r3)) (he : p = 0) :
    MetFree l (⟨"com/example/rolling_rung/rollingrung/schema/FieldWithStatePinLaw", "stateOf", "(I)Lcom/example/rolling_rung/rollingrung/schema/ElementState;"⟩ : MethodName) (head1 (Jvm.Cond.code (⟨"com/example/rolling_rung/rollingrung/schema/FieldWithStatePinLaw", "stateOf", "(I)Lcom/example/rolling_rung/rollingrung/schema/ElementState;"⟩ : MethodName) method_4_code 1 (some (.object "com/example/rolling_rung/rollingrung/schema/ElementState")) :: ws) ({ frames := 0, cells := 0, slots := 0, locals := 0 } : Room)) (fun aa_ U_ => aa_ = #[(.int p)] ∧ Z.Warmed39 U_.vm ∧ U_.heap = h0) (fun _ _ _ _ _ => True) (fun _ U_ o_ U'_ => ∃ v_ L_, o_ = .returned v_ ∧ Q_sta Z p r0 r1 r2 r3 h0 n0 v_ U'_.heap L_ ∧ FrameEnd U_ o_ U'_ L_ ({ frames := 0, cells := 0, slots := 0, locals := 0 } : Room).cells ({ frames := 0, cells := 0, slots := 0, locals := 0 } : Room).slots) := by
  refine MetFree.of_bodySF (plainFor_of_name pn_2) hisR ?_
  intro pP eE sS mM argsA below meth cC s₁ Bd hml0 hP hK
  obtain ⟨rfl, hZ, hh⟩ := hP
  have hx := Bd.exec
  have hby := Bd.bytes
  have hml : cC.maxLocals = 1 := hml0
  have hown : sS.vm.findClass "com/example/rolling_rung/rollingrung/schema/FieldWithStatePinLaw" = some mM.cls := findClass_of_methodNamed Bd.named
  have hnm := (name_of_methodNamed Bd.named Bd.method).1
  have X0 : Stand pP l eE ({ frames := 0, cells := 0, slots := 0, locals := 0 } : Room) sS mM #[(.int p)] below meth cC s₁ [] 0 0 := Stand.of_body Bd
  have e0 : s₁.heap = h0 := by rw [← hh, Bd.state]; rfl
  have N0 := Fr.nil n0
  have pre0 : ∀ t_, Steps pP.tables eE below (s₁.setTop (mkF mM 0 #[.val (.int p)] [])) t_ → Steps pP.tables eE below (s₁.setTop (entryFrame mM #[(.int p)] 1)) t_ := fun t_ k_ => castTop (ef_sta_0 mM p) k_
  obtain ⟨T_1, X_1, e_1, st_1⟩ := getS2 X0 hx hZ hown (host := "") (Or.inl (ow hw 41 rfl)) Via.refl e0 S_ElementState_ABSENT (g := (mkF mM 4 #[.val (.int p)] [])) rfl (hb hby d_method_4_4)
  obtain ⟨fs, hr, hrun, hended, hW, hsame⟩ := X_1.leave (v := some (.ref r0)) (fun h => by rw [Bd.returns] at h; cases h)
  refine ⟨_, _, pre0 _ ?_, hrun, hended, _, _, rfl, ?_, ⟨_, rfl⟩, hW, hsame.mono (by decide) (by decide)⟩
  · show oS pP eE below s₁ (mkF mM 0 #[.val (.int p)] []) _
    refine XS.iloadN X0.here hx rfl (hb hby d_method_4_0) rfl ?_
    refine XS.ifNo X0.here hx rfl (hb hby d_method_4_1) rfl (XT.i0_ne_f he) ?_
    show oS pP eE below s₁ (mkF mM 4 #[.val (.int p)] []) _
    refine st_1 _ ?_
    show oS pP eE below T_1 (mkF mM 7 #[.val (.int p)] [(.ref r0)]) _
    exact retOut X_1 hx Bd.returns rfl (Or.inr (Or.inr (Or.inr (Or.inr ⟨rfl, rfl, rfl⟩)))) (hb hby d_method_4_7) hr
  · show Q_sta Z p r0 r1 r2 r3 h0 n0 _ T_1.heap _
    rw [e_1]
    exact ⟨(congrArg (fun z => some (Value.ref z)) (by simp [own_st, he] : r0 = (own_st p r0 r1 r2 r3))), N0, rfl⟩
theorem d_method_4_8 : decode method_4_code 8 = .ok (.iload_n 0, 1) := by decide +kernel
theorem d_method_4_9 : decode method_4_code 9 = .ok (.iconst 1, 1) := by decide +kernel
theorem d_method_4_10 : decode method_4_code 10 = .ok (.if_icmp .ne 7, 3) := by decide +kernel
theorem d_method_4_13 : decode method_4_code 13 = .ok (.getstatic 95, 3) := by decide +kernel
theorem d_method_4_16 : decode method_4_code 16 = .ok (.areturn, 1) := by decide +kernel
theorem ef_sta_1 (mM : MethodId) (x0 : Int32) : entryFrame mM #[(.int x0)] 1 = mkF mM 0 #[.val (.int x0)] [] := by first | (simp [entryFrame, mkF, argsToLocals, Value.category]; done) | rfl
set_option maxRecDepth 65536 in
set_option maxHeartbeats 40000000 in
theorem rm_sta_1 (l : Launch) (Z : State) (a0 : Array Value) (hw : ∀ d ∈ tables_1, d.before a0 Z = true) (ws : List Jvm.Cond) (p : Int32) (r0 : Addr) (r1 : Addr) (r2 : Addr) (r3 : Addr) (h0 : Heap) (n0 : Nat) (Z0 : n0 ≤ h0.size) (S_ElementState_ABSENT : Sta Z h0 "com/example/rolling_rung/rollingrung/schema/ElementState" "ABSENT" "Lcom/example/rolling_rung/rollingrung/schema/ElementState;" (.ref r0)) (S_ElementState_DELETE_ONLY : Sta Z h0 "com/example/rolling_rung/rollingrung/schema/ElementState" "DELETE_ONLY" "Lcom/example/rolling_rung/rollingrung/schema/ElementState;" (.ref r1)) (S_ElementState_WRITE_ONLY : Sta Z h0 "com/example/rolling_rung/rollingrung/schema/ElementState" "WRITE_ONLY" "Lcom/example/rolling_rung/rollingrung/schema/ElementState;" (.ref r2)) (S_ElementState_PUBLIC : Sta Z h0 "com/example/rolling_rung/rollingrung/schema/ElementState" "PUBLIC" "Lcom/example/rolling_rung/rollingrung/schema/ElementState;" (.ref r3)) (hn0 : ¬ p = 0) (he : p = 1) :
    MetFree l (⟨"com/example/rolling_rung/rollingrung/schema/FieldWithStatePinLaw", "stateOf", "(I)Lcom/example/rolling_rung/rollingrung/schema/ElementState;"⟩ : MethodName) (head1 (Jvm.Cond.code (⟨"com/example/rolling_rung/rollingrung/schema/FieldWithStatePinLaw", "stateOf", "(I)Lcom/example/rolling_rung/rollingrung/schema/ElementState;"⟩ : MethodName) method_4_code 1 (some (.object "com/example/rolling_rung/rollingrung/schema/ElementState")) :: ws) ({ frames := 0, cells := 0, slots := 0, locals := 0 } : Room)) (fun aa_ U_ => aa_ = #[(.int p)] ∧ Z.Warmed39 U_.vm ∧ U_.heap = h0) (fun _ _ _ _ _ => True) (fun _ U_ o_ U'_ => ∃ v_ L_, o_ = .returned v_ ∧ Q_sta Z p r0 r1 r2 r3 h0 n0 v_ U'_.heap L_ ∧ FrameEnd U_ o_ U'_ L_ ({ frames := 0, cells := 0, slots := 0, locals := 0 } : Room).cells ({ frames := 0, cells := 0, slots := 0, locals := 0 } : Room).slots) := by
  refine MetFree.of_bodySF (plainFor_of_name pn_2) hisR ?_
  intro pP eE sS mM argsA below meth cC s₁ Bd hml0 hP hK
  obtain ⟨rfl, hZ, hh⟩ := hP
  have hx := Bd.exec
  have hby := Bd.bytes
  have hml : cC.maxLocals = 1 := hml0
  have hown : sS.vm.findClass "com/example/rolling_rung/rollingrung/schema/FieldWithStatePinLaw" = some mM.cls := findClass_of_methodNamed Bd.named
  have hnm := (name_of_methodNamed Bd.named Bd.method).1
  have X0 : Stand pP l eE ({ frames := 0, cells := 0, slots := 0, locals := 0 } : Room) sS mM #[(.int p)] below meth cC s₁ [] 0 0 := Stand.of_body Bd
  have e0 : s₁.heap = h0 := by rw [← hh, Bd.state]; rfl
  have N0 := Fr.nil n0
  have pre0 : ∀ t_, Steps pP.tables eE below (s₁.setTop (mkF mM 0 #[.val (.int p)] [])) t_ → Steps pP.tables eE below (s₁.setTop (entryFrame mM #[(.int p)] 1)) t_ := fun t_ k_ => castTop (ef_sta_1 mM p) k_
  obtain ⟨T_1, X_1, e_1, st_1⟩ := getS2 X0 hx hZ hown (host := "") (Or.inl (ow hw 123 rfl)) Via.refl e0 S_ElementState_DELETE_ONLY (g := (mkF mM 13 #[.val (.int p)] [])) rfl (hb hby d_method_4_13)
  obtain ⟨fs, hr, hrun, hended, hW, hsame⟩ := X_1.leave (v := some (.ref r1)) (fun h => by rw [Bd.returns] at h; cases h)
  refine ⟨_, _, pre0 _ ?_, hrun, hended, _, _, rfl, ?_, ⟨_, rfl⟩, hW, hsame.mono (by decide) (by decide)⟩
  · show oS pP eE below s₁ (mkF mM 0 #[.val (.int p)] []) _
    refine XS.iloadN X0.here hx rfl (hb hby d_method_4_0) rfl ?_
    refine XS.ifYes X0.here hx rfl (pc0 := 1) (pc' := 8) rfl (hb hby d_method_4_1) rfl (XT.i0_ne_t hn0) (by decide) (by decide) ?_
    refine XS.iloadN X0.here hx rfl (hb hby d_method_4_8) rfl ?_
    refine XS.iconst X0.here hx rfl (hb hby d_method_4_9) ?_
    show oS pP eE below s₁ (mkF mM 10 #[.val (.int p)] [(.int (1 : Int32)), (.int p)]) _
    refine XS.icmpNo X0.here hx rfl (hb hby d_method_4_10) rfl (XT.ii_ne_f he) ?_
    show oS pP eE below s₁ (mkF mM 13 #[.val (.int p)] []) _
    refine st_1 _ ?_
    show oS pP eE below T_1 (mkF mM 16 #[.val (.int p)] [(.ref r1)]) _
    exact retOut X_1 hx Bd.returns rfl (Or.inr (Or.inr (Or.inr (Or.inr ⟨rfl, rfl, rfl⟩)))) (hb hby d_method_4_16) hr
  · show Q_sta Z p r0 r1 r2 r3 h0 n0 _ T_1.heap _
    rw [e_1]
    exact ⟨(congrArg (fun z => some (Value.ref z)) (by simp [own_st, hn0, he] : r1 = (own_st p r0 r1 r2 r3))), N0, rfl⟩
theorem d_method_4_17 : decode method_4_code 17 = .ok (.iload_n 0, 1) := by decide +kernel
theorem d_method_4_18 : decode method_4_code 18 = .ok (.iconst 2, 1) := by decide +kernel
theorem d_method_4_19 : decode method_4_code 19 = .ok (.if_icmp .ne 7, 3) := by decide +kernel
theorem d_method_4_22 : decode method_4_code 22 = .ok (.getstatic 98, 3) := by decide +kernel
theorem d_method_4_25 : decode method_4_code 25 = .ok (.areturn, 1) := by decide +kernel
theorem ef_sta_2 (mM : MethodId) (x0 : Int32) : entryFrame mM #[(.int x0)] 1 = mkF mM 0 #[.val (.int x0)] [] := by first | (simp [entryFrame, mkF, argsToLocals, Value.category]; done) | rfl
set_option maxRecDepth 65536 in
set_option maxHeartbeats 40000000 in
theorem rm_sta_2 (l : Launch) (Z : State) (a0 : Array Value) (hw : ∀ d ∈ tables_1, d.before a0 Z = true) (ws : List Jvm.Cond) (p : Int32) (r0 : Addr) (r1 : Addr) (r2 : Addr) (r3 : Addr) (h0 : Heap) (n0 : Nat) (Z0 : n0 ≤ h0.size) (S_ElementState_ABSENT : Sta Z h0 "com/example/rolling_rung/rollingrung/schema/ElementState" "ABSENT" "Lcom/example/rolling_rung/rollingrung/schema/ElementState;" (.ref r0)) (S_ElementState_DELETE_ONLY : Sta Z h0 "com/example/rolling_rung/rollingrung/schema/ElementState" "DELETE_ONLY" "Lcom/example/rolling_rung/rollingrung/schema/ElementState;" (.ref r1)) (S_ElementState_WRITE_ONLY : Sta Z h0 "com/example/rolling_rung/rollingrung/schema/ElementState" "WRITE_ONLY" "Lcom/example/rolling_rung/rollingrung/schema/ElementState;" (.ref r2)) (S_ElementState_PUBLIC : Sta Z h0 "com/example/rolling_rung/rollingrung/schema/ElementState" "PUBLIC" "Lcom/example/rolling_rung/rollingrung/schema/ElementState;" (.ref r3)) (hn0 : ¬ p = 0) (hn1 : ¬ p = 1) (he : p = 2) :
    MetFree l (⟨"com/example/rolling_rung/rollingrung/schema/FieldWithStatePinLaw", "stateOf", "(I)Lcom/example/rolling_rung/rollingrung/schema/ElementState;"⟩ : MethodName) (head1 (Jvm.Cond.code (⟨"com/example/rolling_rung/rollingrung/schema/FieldWithStatePinLaw", "stateOf", "(I)Lcom/example/rolling_rung/rollingrung/schema/ElementState;"⟩ : MethodName) method_4_code 1 (some (.object "com/example/rolling_rung/rollingrung/schema/ElementState")) :: ws) ({ frames := 0, cells := 0, slots := 0, locals := 0 } : Room)) (fun aa_ U_ => aa_ = #[(.int p)] ∧ Z.Warmed39 U_.vm ∧ U_.heap = h0) (fun _ _ _ _ _ => True) (fun _ U_ o_ U'_ => ∃ v_ L_, o_ = .returned v_ ∧ Q_sta Z p r0 r1 r2 r3 h0 n0 v_ U'_.heap L_ ∧ FrameEnd U_ o_ U'_ L_ ({ frames := 0, cells := 0, slots := 0, locals := 0 } : Room).cells ({ frames := 0, cells := 0, slots := 0, locals := 0 } : Room).slots) := by
  refine MetFree.of_bodySF (plainFor_of_name pn_2) hisR ?_
  intro pP eE sS mM argsA below meth cC s₁ Bd hml0 hP hK
  obtain ⟨rfl, hZ, hh⟩ := hP
  have hx := Bd.exec
  have hby := Bd.bytes
  have hml : cC.maxLocals = 1 := hml0
  have hown : sS.vm.findClass "com/example/rolling_rung/rollingrung/schema/FieldWithStatePinLaw" = some mM.cls := findClass_of_methodNamed Bd.named
  have hnm := (name_of_methodNamed Bd.named Bd.method).1
  have X0 : Stand pP l eE ({ frames := 0, cells := 0, slots := 0, locals := 0 } : Room) sS mM #[(.int p)] below meth cC s₁ [] 0 0 := Stand.of_body Bd
  have e0 : s₁.heap = h0 := by rw [← hh, Bd.state]; rfl
  have N0 := Fr.nil n0
  have pre0 : ∀ t_, Steps pP.tables eE below (s₁.setTop (mkF mM 0 #[.val (.int p)] [])) t_ → Steps pP.tables eE below (s₁.setTop (entryFrame mM #[(.int p)] 1)) t_ := fun t_ k_ => castTop (ef_sta_2 mM p) k_
  obtain ⟨T_1, X_1, e_1, st_1⟩ := getS2 X0 hx hZ hown (host := "") (Or.inl (ow hw 127 rfl)) Via.refl e0 S_ElementState_WRITE_ONLY (g := (mkF mM 22 #[.val (.int p)] [])) rfl (hb hby d_method_4_22)
  obtain ⟨fs, hr, hrun, hended, hW, hsame⟩ := X_1.leave (v := some (.ref r2)) (fun h => by rw [Bd.returns] at h; cases h)
  refine ⟨_, _, pre0 _ ?_, hrun, hended, _, _, rfl, ?_, ⟨_, rfl⟩, hW, hsame.mono (by decide) (by decide)⟩
  · show oS pP eE below s₁ (mkF mM 0 #[.val (.int p)] []) _
    refine XS.iloadN X0.here hx rfl (hb hby d_method_4_0) rfl ?_
    refine XS.ifYes X0.here hx rfl (pc0 := 1) (pc' := 8) rfl (hb hby d_method_4_1) rfl (XT.i0_ne_t hn0) (by decide) (by decide) ?_
    refine XS.iloadN X0.here hx rfl (hb hby d_method_4_8) rfl ?_
    refine XS.iconst X0.here hx rfl (hb hby d_method_4_9) ?_
    show oS pP eE below s₁ (mkF mM 10 #[.val (.int p)] [(.int (1 : Int32)), (.int p)]) _
    refine XS.icmpYes X0.here hx rfl (pc0 := 10) (pc' := 17) rfl (hb hby d_method_4_10) rfl (XT.ii_ne_t hn1) (by decide) (by decide) ?_
    refine XS.iloadN X0.here hx rfl (hb hby d_method_4_17) rfl ?_
    refine XS.iconst X0.here hx rfl (hb hby d_method_4_18) ?_
    refine XS.icmpNo X0.here hx rfl (hb hby d_method_4_19) rfl (XT.ii_ne_f he) ?_
    show oS pP eE below s₁ (mkF mM 22 #[.val (.int p)] []) _
    refine st_1 _ ?_
    show oS pP eE below T_1 (mkF mM 25 #[.val (.int p)] [(.ref r2)]) _
    exact retOut X_1 hx Bd.returns rfl (Or.inr (Or.inr (Or.inr (Or.inr ⟨rfl, rfl, rfl⟩)))) (hb hby d_method_4_25) hr
  · show Q_sta Z p r0 r1 r2 r3 h0 n0 _ T_1.heap _
    rw [e_1]
    exact ⟨(congrArg (fun z => some (Value.ref z)) (by simp [own_st, hn0, hn1, he] : r2 = (own_st p r0 r1 r2 r3))), N0, rfl⟩
theorem d_method_4_26 : decode method_4_code 26 = .ok (.getstatic 101, 3) := by decide +kernel
theorem d_method_4_29 : decode method_4_code 29 = .ok (.areturn, 1) := by decide +kernel
theorem ef_sta_3 (mM : MethodId) (x0 : Int32) : entryFrame mM #[(.int x0)] 1 = mkF mM 0 #[.val (.int x0)] [] := by first | (simp [entryFrame, mkF, argsToLocals, Value.category]; done) | rfl
set_option maxRecDepth 65536 in
set_option maxHeartbeats 40000000 in
theorem rm_sta_3 (l : Launch) (Z : State) (a0 : Array Value) (hw : ∀ d ∈ tables_1, d.before a0 Z = true) (ws : List Jvm.Cond) (p : Int32) (r0 : Addr) (r1 : Addr) (r2 : Addr) (r3 : Addr) (h0 : Heap) (n0 : Nat) (Z0 : n0 ≤ h0.size) (S_ElementState_ABSENT : Sta Z h0 "com/example/rolling_rung/rollingrung/schema/ElementState" "ABSENT" "Lcom/example/rolling_rung/rollingrung/schema/ElementState;" (.ref r0)) (S_ElementState_DELETE_ONLY : Sta Z h0 "com/example/rolling_rung/rollingrung/schema/ElementState" "DELETE_ONLY" "Lcom/example/rolling_rung/rollingrung/schema/ElementState;" (.ref r1)) (S_ElementState_WRITE_ONLY : Sta Z h0 "com/example/rolling_rung/rollingrung/schema/ElementState" "WRITE_ONLY" "Lcom/example/rolling_rung/rollingrung/schema/ElementState;" (.ref r2)) (S_ElementState_PUBLIC : Sta Z h0 "com/example/rolling_rung/rollingrung/schema/ElementState" "PUBLIC" "Lcom/example/rolling_rung/rollingrung/schema/ElementState;" (.ref r3)) (hn0 : ¬ p = 0) (hn1 : ¬ p = 1) (hn2 : ¬ p = 2) :
    MetFree l (⟨"com/example/rolling_rung/rollingrung/schema/FieldWithStatePinLaw", "stateOf", "(I)Lcom/example/rolling_rung/rollingrung/schema/ElementState;"⟩ : MethodName) (head1 (Jvm.Cond.code (⟨"com/example/rolling_rung/rollingrung/schema/FieldWithStatePinLaw", "stateOf", "(I)Lcom/example/rolling_rung/rollingrung/schema/ElementState;"⟩ : MethodName) method_4_code 1 (some (.object "com/example/rolling_rung/rollingrung/schema/ElementState")) :: ws) ({ frames := 0, cells := 0, slots := 0, locals := 0 } : Room)) (fun aa_ U_ => aa_ = #[(.int p)] ∧ Z.Warmed39 U_.vm ∧ U_.heap = h0) (fun _ _ _ _ _ => True) (fun _ U_ o_ U'_ => ∃ v_ L_, o_ = .returned v_ ∧ Q_sta Z p r0 r1 r2 r3 h0 n0 v_ U'_.heap L_ ∧ FrameEnd U_ o_ U'_ L_ ({ frames := 0, cells := 0, slots := 0, locals := 0 } : Room).cells ({ frames := 0, cells := 0, slots := 0, locals := 0 } : Room).slots) := by
  refine MetFree.of_bodySF (plainFor_of_name pn_2) hisR ?_
  intro pP eE sS mM argsA below meth cC s₁ Bd hml0 hP hK
  obtain ⟨rfl, hZ, hh⟩ := hP
  have hx := Bd.exec
  have hby := Bd.bytes
  have hml : cC.maxLocals = 1 := hml0
  have hown : sS.vm.findClass "com/example/rolling_rung/rollingrung/schema/FieldWithStatePinLaw" = some mM.cls := findClass_of_methodNamed Bd.named
  have hnm := (name_of_methodNamed Bd.named Bd.method).1
  have X0 : Stand pP l eE ({ frames := 0, cells := 0, slots := 0, locals := 0 } : Room) sS mM #[(.int p)] below meth cC s₁ [] 0 0 := Stand.of_body Bd
  have e0 : s₁.heap = h0 := by rw [← hh, Bd.state]; rfl
  have N0 := Fr.nil n0
  have pre0 : ∀ t_, Steps pP.tables eE below (s₁.setTop (mkF mM 0 #[.val (.int p)] [])) t_ → Steps pP.tables eE below (s₁.setTop (entryFrame mM #[(.int p)] 1)) t_ := fun t_ k_ => castTop (ef_sta_3 mM p) k_
  obtain ⟨T_1, X_1, e_1, st_1⟩ := getS2 X0 hx hZ hown (host := "") (Or.inl (ow hw 121 rfl)) Via.refl e0 S_ElementState_PUBLIC (g := (mkF mM 26 #[.val (.int p)] [])) rfl (hb hby d_method_4_26)
  obtain ⟨fs, hr, hrun, hended, hW, hsame⟩ := X_1.leave (v := some (.ref r3)) (fun h => by rw [Bd.returns] at h; cases h)
  refine ⟨_, _, pre0 _ ?_, hrun, hended, _, _, rfl, ?_, ⟨_, rfl⟩, hW, hsame.mono (by decide) (by decide)⟩
  · show oS pP eE below s₁ (mkF mM 0 #[.val (.int p)] []) _
    refine XS.iloadN X0.here hx rfl (hb hby d_method_4_0) rfl ?_
    refine XS.ifYes X0.here hx rfl (pc0 := 1) (pc' := 8) rfl (hb hby d_method_4_1) rfl (XT.i0_ne_t hn0) (by decide) (by decide) ?_
    refine XS.iloadN X0.here hx rfl (hb hby d_method_4_8) rfl ?_
    refine XS.iconst X0.here hx rfl (hb hby d_method_4_9) ?_
    show oS pP eE below s₁ (mkF mM 10 #[.val (.int p)] [(.int (1 : Int32)), (.int p)]) _
    refine XS.icmpYes X0.here hx rfl (pc0 := 10) (pc' := 17) rfl (hb hby d_method_4_10) rfl (XT.ii_ne_t hn1) (by decide) (by decide) ?_
    refine XS.iloadN X0.here hx rfl (hb hby d_method_4_17) rfl ?_
    refine XS.iconst X0.here hx rfl (hb hby d_method_4_18) ?_
    refine XS.icmpYes X0.here hx rfl (pc0 := 19) (pc' := 26) rfl (hb hby d_method_4_19) rfl (XT.ii_ne_t hn2) (by decide) (by decide) ?_
    show oS pP eE below s₁ (mkF mM 26 #[.val (.int p)] []) _
    refine st_1 _ ?_
    show oS pP eE below T_1 (mkF mM 29 #[.val (.int p)] [(.ref r3)]) _
    exact retOut X_1 hx Bd.returns rfl (Or.inr (Or.inr (Or.inr (Or.inr ⟨rfl, rfl, rfl⟩)))) (hb hby d_method_4_29) hr
  · show Q_sta Z p r0 r1 r2 r3 h0 n0 _ T_1.heap _
    rw [e_1]
    exact ⟨(congrArg (fun z => some (Value.ref z)) (by simp [own_st, hn0, hn1, hn2] : r3 = (own_st p r0 r1 r2 r3))), N0, rfl⟩
set_option maxRecDepth 65536 in
set_option maxHeartbeats 40000000 in
theorem rm_sta (l : Launch) (Z : State) (a0 : Array Value) (hw : ∀ d ∈ tables_1, d.before a0 Z = true) (ws : List Jvm.Cond) (p : Int32) (r0 : Addr) (r1 : Addr) (r2 : Addr) (r3 : Addr) (h0 : Heap) (n0 : Nat) (Z0 : n0 ≤ h0.size) (S_ElementState_ABSENT : Sta Z h0 "com/example/rolling_rung/rollingrung/schema/ElementState" "ABSENT" "Lcom/example/rolling_rung/rollingrung/schema/ElementState;" (.ref r0)) (S_ElementState_DELETE_ONLY : Sta Z h0 "com/example/rolling_rung/rollingrung/schema/ElementState" "DELETE_ONLY" "Lcom/example/rolling_rung/rollingrung/schema/ElementState;" (.ref r1)) (S_ElementState_WRITE_ONLY : Sta Z h0 "com/example/rolling_rung/rollingrung/schema/ElementState" "WRITE_ONLY" "Lcom/example/rolling_rung/rollingrung/schema/ElementState;" (.ref r2)) (S_ElementState_PUBLIC : Sta Z h0 "com/example/rolling_rung/rollingrung/schema/ElementState" "PUBLIC" "Lcom/example/rolling_rung/rollingrung/schema/ElementState;" (.ref r3)) :
    MetFree l (⟨"com/example/rolling_rung/rollingrung/schema/FieldWithStatePinLaw", "stateOf", "(I)Lcom/example/rolling_rung/rollingrung/schema/ElementState;"⟩ : MethodName) (head1 (Jvm.Cond.code (⟨"com/example/rolling_rung/rollingrung/schema/FieldWithStatePinLaw", "stateOf", "(I)Lcom/example/rolling_rung/rollingrung/schema/ElementState;"⟩ : MethodName) method_4_code 1 (some (.object "com/example/rolling_rung/rollingrung/schema/ElementState")) :: ws) ({ frames := 0, cells := 0, slots := 0, locals := 0 } : Room)) (fun aa_ U_ => aa_ = #[(.int p)] ∧ Z.Warmed39 U_.vm ∧ U_.heap = h0) (fun _ _ _ _ _ => True) (fun _ U_ o_ U'_ => ∃ v_ L_, o_ = .returned v_ ∧ Q_sta Z p r0 r1 r2 r3 h0 n0 v_ U'_.heap L_ ∧ FrameEnd U_ o_ U'_ L_ ({ frames := 0, cells := 0, slots := 0, locals := 0 } : Room).cells ({ frames := 0, cells := 0, slots := 0, locals := 0 } : Room).slots) := by
  by_cases he : p = 0
  · exact rm_sta_0 l Z a0 hw ws p r0 r1 r2 r3 h0 n0 Z0 S_ElementState_ABSENT S_ElementState_DELETE_ONLY S_ElementState_WRITE_ONLY S_ElementState_PUBLIC  he
  · have hn0 := he
    by_cases he : p = 1
    · exact rm_sta_1 l Z a0 hw ws p r0 r1 r2 r3 h0 n0 Z0 S_ElementState_ABSENT S_ElementState_DELETE_ONLY S_ElementState_WRITE_ONLY S_ElementState_PUBLIC hn0 he
    · have hn1 := he
      by_cases he : p = 2
      · exact rm_sta_2 l Z a0 hw ws p r0 r1 r2 r3 h0 n0 Z0 S_ElementState_ABSENT S_ElementState_DELETE_ONLY S_ElementState_WRITE_ONLY S_ElementState_PUBLIC hn0 hn1 he
      · have hn2 := he
        exact rm_sta_3 l Z a0 hw ws p r0 r1 r2 r3 h0 n0 Z0 S_ElementState_ABSENT S_ElementState_DELETE_ONLY S_ElementState_WRITE_ONLY S_ElementState_PUBLIC hn0 hn1 hn2
theorem d_jdk_30m1_0 : decode jdk_30_method_1_code 0 = .ok (.aload_n 0, 1) := by decide +kernel
theorem d_jdk_30m1_1 : decode jdk_30_method_1_code 1 = .ok (.invokespecial 1, 3) := by decide +kernel
theorem d_jdk_30m1_4 : decode jdk_30_method_1_code 4 = .ok (.return_, 1) := by decide +kernel
theorem pn_3 : plainName "java/lang/Record" = true := by first | (simp [plainName, overriddenIn]; done) | decide +kernel
theorem ef_rec (mM : MethodId) (x0 : Addr) : entryFrame mM #[(.ref x0)] 1 = mkF mM 0 #[.val (.ref x0)] [] := by first | (simp [entryFrame, mkF, argsToLocals, Value.category]; done) | rfl
def Q_rec (Z : State) (a : Addr) (h0 : Heap) (n0 : Nat) (v_ : Option Value) (h_ : Heap) (L_ : List Loc) : Prop := v_ = none ∧ Fr n0 L_ ∧ h_ = h0
set_option maxRecDepth 65536 in
set_option maxHeartbeats 40000000 in
theorem rm_rec (l : Launch) (Z : State) (a0 : Array Value) (hw : ∀ d ∈ tables_1, d.before a0 Z = true) (ws : List Jvm.Cond) (a : Addr) (h0 : Heap) (n0 : Nat) (Z0 : n0 ≤ h0.size) :
    MetFree l (⟨"java/lang/Record", "<init>", "()V"⟩ : MethodName) (head1 (Jvm.Cond.code (⟨"java/lang/Record", "<init>", "()V"⟩ : MethodName) jdk_30_method_1_code 1 none :: ws) ({ frames := 1, cells := 0, slots := 0, locals := 12 } : Room)) (fun aa_ U_ => aa_ = #[(.ref a)] ∧ Z.Warmed39 U_.vm ∧ U_.heap = h0) (fun _ _ _ _ _ => True) (fun _ U_ o_ U'_ => ∃ v_ L_, o_ = .returned v_ ∧ Q_rec Z a h0 n0 v_ U'_.heap L_ ∧ FrameEnd U_ o_ U'_ L_ ({ frames := 1, cells := 0, slots := 0, locals := 12 } : Room).cells ({ frames := 1, cells := 0, slots := 0, locals := 12 } : Room).slots) := by
  refine MetFree.of_bodySF (plainFor_of_name pn_3) hisR ?_
  intro pP eE sS mM argsA below meth cC s₁ Bd hml0 hP hK
  obtain ⟨rfl, hZ, hh⟩ := hP
  have hx := Bd.exec
  have hby := Bd.bytes
  have hml : cC.maxLocals = 1 := hml0
  have hown : sS.vm.findClass "java/lang/Record" = some mM.cls := findClass_of_methodNamed Bd.named
  have hnm := (name_of_methodNamed Bd.named Bd.method).1
  have X0 : Stand pP l eE ({ frames := 1, cells := 0, slots := 0, locals := 12 } : Room) sS mM #[(.ref a)] below meth cC s₁ [] 0 0 := Stand.of_body Bd
  have e0 : s₁.heap = h0 := by rw [← hh, Bd.state]; rfl
  have N0 := Fr.nil n0
  have pre0 : ∀ t_, Steps pP.tables eE below (s₁.setTop (mkF mM 0 #[.val (.ref a)] [])) t_ → Steps pP.tables eE below (s₁.setTop (entryFrame mM #[(.ref a)] 1)) t_ := fun t_ k_ => castTop (ef_rec mM a) k_
  obtain ⟨T_1, X_1, e_1, st_1⟩ := initO X0 hx hZ hown (ow hw 55 rfl) (ow hw 12 rfl) (ow hw 13 rfl) e0 (g := (mkF mM 1 #[.val (.ref a)] [(.ref a)])) rfl (by rw [hml]; rfl) rfl (hb hby d_jdk_30m1_1) (by decide) (W := 0) (by show 2 * 0 + _ ≤ _; exact Nat.le_of_eq rfl) (by decide)
  obtain ⟨fs, hr, hrun, hended, hW, hsame⟩ := X_1.leave (v := none) (fun _ => rfl)
  refine ⟨_, _, pre0 _ ?_, hrun, hended, _, _, rfl, ?_, ⟨_, rfl⟩, hW, hsame.mono (by decide) (by decide)⟩
  · show oS pP eE below s₁ (mkF mM 0 #[.val (.ref a)] []) _
    refine XS.aloadN X0.here hx rfl (hb hby d_jdk_30m1_0) rfl rfl ?_
    show oS pP eE below s₁ (mkF mM 1 #[.val (.ref a)] [(.ref a)]) _
    refine st_1 _ ?_
    show oS pP eE below T_1 (mkF mM 4 #[.val (.ref a)] []) _
    exact X_1.returnOut hx Bd.returns (hb hby d_jdk_30m1_4) hr
  · show Q_rec Z a h0 n0 _ T_1.heap _
    rw [e_1]
    exact ⟨rfl, N0, rfl⟩
theorem d_jdk_31m11_0 : decode jdk_31_method_11_code 0 = .ok (.aload_n 0, 1) := by decide +kernel
theorem d_jdk_31m11_1 : decode jdk_31_method_11_code 1 = .ok (.ifnonnull 12, 3) := by decide +kernel
theorem d_jdk_31m11_13 : decode jdk_31_method_11_code 13 = .ok (.aload_n 0, 1) := by decide +kernel
theorem d_jdk_31m11_14 : decode jdk_31_method_11_code 14 = .ok (.areturn, 1) := by decide +kernel
theorem pn_4 : plainName "java/util/Objects" = true := by first | (simp [plainName, overriddenIn]; done) | decide +kernel
theorem ef_rnn (mM : MethodId) (x0 : Addr) (x1 : Addr) : entryFrame mM #[(.ref x0), (.ref x1)] 2 = mkF mM 0 #[.val (.ref x0), .val (.ref x1)] [] := by first | (simp [entryFrame, mkF, argsToLocals, Value.category]; done) | rfl
def Q_rnn (Z : State) (a : Addr) (b : Addr) (h0 : Heap) (n0 : Nat) (v_ : Option Value) (h_ : Heap) (L_ : List Loc) : Prop := v_ = some (.ref a) ∧ Fr n0 L_ ∧ h_ = h0
set_option maxRecDepth 65536 in
set_option maxHeartbeats 40000000 in
theorem rm_rnn (l : Launch) (Z : State) (a0 : Array Value) (hw : ∀ d ∈ tables_1, d.before a0 Z = true) (ws : List Jvm.Cond) (a : Addr) (b : Addr) (h0 : Heap) (n0 : Nat) (Z0 : n0 ≤ h0.size) :
    MetFree l (⟨"java/util/Objects", "requireNonNull", "(Ljava/lang/Object;Ljava/lang/String;)Ljava/lang/Object;"⟩ : MethodName) (head1 (Jvm.Cond.code (⟨"java/util/Objects", "requireNonNull", "(Ljava/lang/Object;Ljava/lang/String;)Ljava/lang/Object;"⟩ : MethodName) jdk_31_method_11_code 2 (some (.object "java/lang/Object")) :: ws) ({ frames := 0, cells := 0, slots := 0, locals := 0 } : Room)) (fun aa_ U_ => aa_ = #[(.ref a), (.ref b)] ∧ Z.Warmed39 U_.vm ∧ U_.heap = h0) (fun _ _ _ _ _ => True) (fun _ U_ o_ U'_ => ∃ v_ L_, o_ = .returned v_ ∧ Q_rnn Z a b h0 n0 v_ U'_.heap L_ ∧ FrameEnd U_ o_ U'_ L_ ({ frames := 0, cells := 0, slots := 0, locals := 0 } : Room).cells ({ frames := 0, cells := 0, slots := 0, locals := 0 } : Room).slots) := by
  refine MetFree.of_bodySF (plainFor_of_name pn_4) hisR ?_
  intro pP eE sS mM argsA below meth cC s₁ Bd hml0 hP hK
  obtain ⟨rfl, hZ, hh⟩ := hP
  have hx := Bd.exec
  have hby := Bd.bytes
  have hml : cC.maxLocals = 2 := hml0
  have hown : sS.vm.findClass "java/util/Objects" = some mM.cls := findClass_of_methodNamed Bd.named
  have hnm := (name_of_methodNamed Bd.named Bd.method).1
  have X0 : Stand pP l eE ({ frames := 0, cells := 0, slots := 0, locals := 0 } : Room) sS mM #[(.ref a), (.ref b)] below meth cC s₁ [] 0 0 := Stand.of_body Bd
  have e0 : s₁.heap = h0 := by rw [← hh, Bd.state]; rfl
  have N0 := Fr.nil n0
  have pre0 : ∀ t_, Steps pP.tables eE below (s₁.setTop (mkF mM 0 #[.val (.ref a), .val (.ref b)] [])) t_ → Steps pP.tables eE below (s₁.setTop (entryFrame mM #[(.ref a), (.ref b)] 2)) t_ := fun t_ k_ => castTop (ef_rnn mM a b) k_
  obtain ⟨fs, hr, hrun, hended, hW, hsame⟩ := X0.leave (v := some (.ref a)) (fun h => by rw [Bd.returns] at h; cases h)
  refine ⟨_, _, pre0 _ ?_, hrun, hended, _, _, rfl, ?_, ⟨_, rfl⟩, hW, hsame.mono (by decide) (by decide)⟩
  · show oS pP eE below s₁ (mkF mM 0 #[.val (.ref a), .val (.ref b)] []) _
    refine XS.aloadN X0.here hx rfl (hb hby d_jdk_31m11_0) rfl rfl ?_
    show oS pP eE below s₁ (mkF mM 1 #[.val (.ref a), .val (.ref b)] [(.ref a)]) _
    refine XT.ifnonnullYes X0.here hx rfl (pc0 := 1) (pc' := 13) rfl (hb hby d_jdk_31m11_1) rfl (by decide) (by decide) ?_
    refine XS.aloadN X0.here hx rfl (hb hby d_jdk_31m11_13) rfl rfl ?_
    show oS pP eE below s₁ (mkF mM 14 #[.val (.ref a), .val (.ref b)] [(.ref a)]) _
    exact retOut X0 hx Bd.returns rfl (Or.inr (Or.inr (Or.inr (Or.inr ⟨rfl, rfl, rfl⟩)))) (hb hby d_jdk_31m11_14) hr
  · show Q_rnn Z a b h0 n0 _ s₁.heap _
    rw [e0]
    exact ⟨rfl, N0, rfl⟩
abbrev lc20 (a : Addr) (nm : Addr) (num : Int32) (ty : Addr) (rq : Int32) (rp : Int32) (stt : Addr) : Array Slot := #[.val (.ref a), .val (.ref nm), .val (.int num), .val (.ref ty), .val (.int rq), .val (.int rp), .val (.ref stt)]
theorem d_prog_32m1_0 : decode prog_32_method_1_code 0 = .ok (.aload_n 0, 1) := by decide +kernel
theorem d_prog_32m1_1 : decode prog_32_method_1_code 1 = .ok (.invokespecial 1, 3) := by decide +kernel
theorem pd_4 : parseMethodDescriptor "()V" = some ⟨[], none⟩ := by decide +kernel
abbrev MN4 : MethodName := ⟨"java/lang/Record", "<init>", "()V"⟩
theorem d_prog_32m1_4 : decode prog_32_method_1_code 4 = .ok (.aload_n 1, 1) := by decide +kernel
theorem d_prog_32m1_5 : decode prog_32_method_1_code 5 = .ok (.ldc 7, 2) := by decide +kernel
theorem d_prog_32m1_7 : decode prog_32_method_1_code 7 = .ok (.invokestatic 9, 3) := by decide +kernel
theorem pd_5 : parseMethodDescriptor "(Ljava/lang/Object;Ljava/lang/String;)Ljava/lang/Object;" = some ⟨[(.object "java/lang/Object"), (.object "java/lang/String")], some (.object "java/lang/Object")⟩ := by decide +kernel
abbrev MN5 : MethodName := ⟨"java/util/Objects", "requireNonNull", "(Ljava/lang/Object;Ljava/lang/String;)Ljava/lang/Object;"⟩
theorem d_prog_32m1_10 : decode prog_32_method_1_code 10 = .ok (.pop, 1) := by decide +kernel
theorem d_prog_32m1_11 : decode prog_32_method_1_code 11 = .ok (.aload_n 3, 1) := by decide +kernel
theorem d_prog_32m1_12 : decode prog_32_method_1_code 12 = .ok (.ldc 15, 2) := by decide +kernel
theorem d_prog_32m1_14 : decode prog_32_method_1_code 14 = .ok (.invokestatic 9, 3) := by decide +kernel
theorem d_prog_32m1_17 : decode prog_32_method_1_code 17 = .ok (.pop, 1) := by decide +kernel
theorem d_prog_32m1_18 : decode prog_32_method_1_code 18 = .ok (.aload 6, 2) := by decide +kernel
theorem d_prog_32m1_20 : decode prog_32_method_1_code 20 = .ok (.ldc 17, 2) := by decide +kernel
theorem d_prog_32m1_22 : decode prog_32_method_1_code 22 = .ok (.invokestatic 9, 3) := by decide +kernel
theorem d_prog_32m1_25 : decode prog_32_method_1_code 25 = .ok (.pop, 1) := by decide +kernel
theorem d_prog_32m1_26 : decode prog_32_method_1_code 26 = .ok (.aload_n 0, 1) := by decide +kernel
theorem d_prog_32m1_27 : decode prog_32_method_1_code 27 = .ok (.aload_n 1, 1) := by decide +kernel
theorem d_prog_32m1_28 : decode prog_32_method_1_code 28 = .ok (.putfield 19, 3) := by decide +kernel
theorem d_prog_32m1_31 : decode prog_32_method_1_code 31 = .ok (.aload_n 0, 1) := by decide +kernel
theorem d_prog_32m1_32 : decode prog_32_method_1_code 32 = .ok (.iload_n 2, 1) := by decide +kernel
theorem d_prog_32m1_33 : decode prog_32_method_1_code 33 = .ok (.putfield 24, 3) := by decide +kernel
theorem d_prog_32m1_36 : decode prog_32_method_1_code 36 = .ok (.aload_n 0, 1) := by decide +kernel
theorem d_prog_32m1_37 : decode prog_32_method_1_code 37 = .ok (.aload_n 3, 1) := by decide +kernel
theorem d_prog_32m1_38 : decode prog_32_method_1_code 38 = .ok (.putfield 28, 3) := by decide +kernel
theorem d_prog_32m1_41 : decode prog_32_method_1_code 41 = .ok (.aload_n 0, 1) := by decide +kernel
theorem d_prog_32m1_42 : decode prog_32_method_1_code 42 = .ok (.iload 4, 2) := by decide +kernel
theorem d_prog_32m1_44 : decode prog_32_method_1_code 44 = .ok (.putfield 31, 3) := by decide +kernel
theorem d_prog_32m1_47 : decode prog_32_method_1_code 47 = .ok (.aload_n 0, 1) := by decide +kernel
theorem d_prog_32m1_48 : decode prog_32_method_1_code 48 = .ok (.iload 5, 2) := by decide +kernel
theorem d_prog_32m1_50 : decode prog_32_method_1_code 50 = .ok (.putfield 35, 3) := by decide +kernel
theorem d_prog_32m1_53 : decode prog_32_method_1_code 53 = .ok (.aload_n 0, 1) := by decide +kernel
theorem d_prog_32m1_54 : decode prog_32_method_1_code 54 = .ok (.aload 6, 2) := by decide +kernel
theorem d_prog_32m1_56 : decode prog_32_method_1_code 56 = .ok (.putfield 38, 3) := by decide +kernel
theorem d_prog_32m1_59 : decode prog_32_method_1_code 59 = .ok (.return_, 1) := by decide +kernel
theorem pn_5 : plainName "com/example/rolling_rung/rollingrung/schema/Field" = true := by first | (simp [plainName, overriddenIn]; done) | decide +kernel
theorem ef_fini (mM : MethodId) (x0 : Addr) (x1 : Addr) (x2 : Int32) (x3 : Addr) (x4 : Int32) (x5 : Int32) (x6 : Addr) : entryFrame mM #[(.ref x0), (.ref x1), (.int x2), (.ref x3), (.int x4), (.int x5), (.ref x6)] 7 = mkF mM 0 #[.val (.ref x0), .val (.ref x1), .val (.int x2), .val (.ref x3), .val (.int x4), .val (.int x5), .val (.ref x6)] [] := by first | (simp [entryFrame, mkF, argsToLocals, Value.category]; done) | rfl
def Q_fini (Z : State) (a : Addr) (nm : Addr) (num : Int32) (ty : Addr) (rq : Int32) (rp : Int32) (stt : Addr) (h0 : Heap) (n0 : Nat) (v_ : Option Value) (h_ : Heap) (L_ : List Loc) : Prop := v_ = none ∧ Fr n0 L_ ∧ Keep h0 h_ [a] ∧ Fld Z h_ a "com/example/rolling_rung/rollingrung/schema/Field" "name" "Ljava/lang/String;" (.ref nm) ∧ Fld Z h_ a "com/example/rolling_rung/rollingrung/schema/Field" "number" "I" (.int num) ∧ Fld Z h_ a "com/example/rolling_rung/rollingrung/schema/Field" "type" "Lcom/example/rolling_rung/rollingrung/schema/FieldType;" (.ref ty) ∧ Fld Z h_ a "com/example/rolling_rung/rollingrung/schema/Field" "required" "Z" (.int (nar .boolean rq)) ∧ Fld Z h_ a "com/example/rolling_rung/rollingrung/schema/Field" "repeated" "Z" (.int (nar .boolean rp)) ∧ Fld Z h_ a "com/example/rolling_rung/rollingrung/schema/Field" "state" "Lcom/example/rolling_rung/rollingrung/schema/ElementState;" (.ref stt) ∧ Exa Z h_ a "com/example/rolling_rung/rollingrung/schema/Field"
set_option maxRecDepth 65536 in
set_option maxHeartbeats 40000000 in
theorem rm_fini (l : Launch) (Z : State) (a0 : Array Value) (hw : ∀ d ∈ tables_1, d.before a0 Z = true) (ws : List Jvm.Cond) (a : Addr) (nm : Addr) (num : Int32) (ty : Addr) (rq : Int32) (rp : Int32) (stt : Addr) (h0 : Heap) (n0 : Nat) (Z0 : n0 ≤ h0.size) (F_name_a : Fld Z h0 a "com/example/rolling_rung/rollingrung/schema/Field" "name" "Ljava/lang/String;" .null) (F_number_a : Fld Z h0 a "com/example/rolling_rung/rollingrung/schema/Field" "number" "I" (.int (0 : Int32))) (F_type_a : Fld Z h0 a "com/example/rolling_rung/rollingrung/schema/Field" "type" "Lcom/example/rolling_rung/rollingrung/schema/FieldType;" .null) (F_required_a : Fld Z h0 a "com/example/rolling_rung/rollingrung/schema/Field" "required" "Z" (.int (0 : Int32))) (F_repeated_a : Fld Z h0 a "com/example/rolling_rung/rollingrung/schema/Field" "repeated" "Z" (.int (0 : Int32))) (F_state_a : Fld Z h0 a "com/example/rolling_rung/rollingrung/schema/Field" "state" "Lcom/example/rolling_rung/rollingrung/schema/ElementState;" .null) (E_a : Exa Z h0 a "com/example/rolling_rung/rollingrung/schema/Field") (g_a : n0 ≤ a) :
    MetFree l (⟨"com/example/rolling_rung/rollingrung/schema/Field", "<init>", "(Ljava/lang/String;ILcom/example/rolling_rung/rollingrung/schema/FieldType;ZZLcom/example/rolling_rung/rollingrung/schema/ElementState;)V"⟩ : MethodName) (head1 (Jvm.Cond.code (⟨"com/example/rolling_rung/rollingrung/schema/Field", "<init>", "(Ljava/lang/String;ILcom/example/rolling_rung/rollingrung/schema/FieldType;ZZLcom/example/rolling_rung/rollingrung/schema/ElementState;)V"⟩ : MethodName) prog_32_method_1_code 7 none :: ws) ({ frames := 2, cells := 6, slots := 64, locals := 24 } : Room)) (fun aa_ U_ => aa_ = #[(.ref a), (.ref nm), (.int num), (.ref ty), (.int rq), (.int rp), (.ref stt)] ∧ Z.Warmed39 U_.vm ∧ U_.heap = h0) (fun _ _ _ _ _ => True) (fun _ U_ o_ U'_ => ∃ v_ L_, o_ = .returned v_ ∧ Q_fini Z a nm num ty rq rp stt h0 n0 v_ U'_.heap L_ ∧ ReturnedEndW U_ o_ U'_ L_ ({ frames := 2, cells := 6, slots := 64, locals := 24 } : Room).cells ({ frames := 2, cells := 6, slots := 64, locals := 24 } : Room).slots) := by
  refine MetFree.of_bodySF (plainFor_of_name pn_5) hisR ?_
  intro pP eE sS mM argsA below meth cC s₁ Bd hml0 hP hK
  obtain ⟨rfl, hZ, hh⟩ := hP
  have hx := Bd.exec
  have hby := Bd.bytes
  have hml : cC.maxLocals = 7 := hml0
  have hown : sS.vm.findClass "com/example/rolling_rung/rollingrung/schema/Field" = some mM.cls := findClass_of_methodNamed Bd.named
  have hnm := (name_of_methodNamed Bd.named Bd.method).1
  have X0 : Stand pP l eE ({ frames := 2, cells := 6, slots := 64, locals := 24 } : Room) (sS.setVm sS.vm) mM #[(.ref a), (.ref nm), (.int num), (.ref ty), (.int rq), (.int rp), (.ref stt)] below meth cC s₁ [] 0 0 := Stand.of_body Bd
  have e0 : s₁.heap = h0 := by rw [← hh, Bd.state]; rfl
  have N0 := Fr.nil n0
  have pre0 : ∀ t_, Steps pP.tables eE below (s₁.setTop (mkF mM 0 #[.val (.ref a), .val (.ref nm), .val (.int num), .val (.ref ty), .val (.int rq), .val (.int rp), .val (.ref stt)] [])) t_ → Steps pP.tables eE below (s₁.setTop (entryFrame mM #[(.ref a), (.ref nm), (.int num), (.ref ty), (.int rq), (.int rp), (.ref stt)] 7)) t_ := fun t_ k_ => castTop (ef_fini mM a nm num ty rq rp stt) k_
  have hZ : Z.Warmed39 (sS.setVm sS.vm).vm := hZ
  have hown : (sS.setVm sS.vm).vm.findClass "com/example/rolling_rung/rollingrung/schema/Field" = some mM.cls := hown
  have hS0 : sS.Since sS.vm 0 := (State.WarmedH.refl sS).since 0
  have hk0 : 0 ≤ h0.size := Nat.zero_le _
  obtain ⟨_, _, ⟨T_1, L_1, k_1, n_1⟩, -, X_1, ⟨Lc_1, hQ_1, l_1, y_1, z_1⟩, st_1⟩ := X0.specialBack hx (y := MN4) rfl hown (mvT hZ (ow hw 50 rfl)) (mvT hZ (ow hw 51 rfl)) (mvT hZ (ow hw 54 rfl)) (by decide) (backOf (W := 0) (rm_rec l Z a0 hw [] a h0 n0 Z0 ) hZ (ow hw 54 rfl) (ow hw 53 rfl) (by decide) (by decide)) (g := (mkF mM 1 (lc20 a nm num ty rq rp stt) [(.ref a)])) rfl (by rw [hml]; rfl) (Steps.refl _) (a := a) (argsL := []) (rest := []) (lenOf pd_4 rfl) rfl (by show 2 * 0 + _ ≤ _; exact Nat.le_of_eq rfl) (hb hby d_prog_32m1_1) (fun _ _ => ⟨rfl, e0, (by decide : 0 + 0 ≤ _), (by decide : 0 + 0 ≤ _)⟩)
  dsimp only [Pt.U, Pt.locs, Pt.cells, Pt.slots] at X_1 l_1 y_1 z_1 st_1 hQ_1
  subst l_1 y_1 z_1
  obtain ⟨rfl, N_1q, eh_1⟩ := hQ_1
  have N_1 := Fr.app N0 N_1q
  obtain ⟨a_2, T_2, h_2, k_2, X_2, e_2, E_2, hS_2, hk_2, hZ_2, hown_2, st_2⟩ := ldcS X_1 hx hZ hown (ow hw 56 rfl) (own_wS hw) eh_1 hS0 hk0 (g := (mkF mM 5 (lc20 a nm num ty rq rp stt) [(.ref nm)])) rfl (hb hby d_prog_32m1_5) (n := 16) (by decide) (by decide) (by decide) (by decide)
  have Z_2 : n0 ≤ h_2.size := (Nat.le_trans Z0 E_2.1)
  have K_2 : Keep h0 h_2 [a] := (Keep.refl h0 [a]).ext E_2
  obtain ⟨_, _, ⟨T_3, L_3, k_3, n_3⟩, -, X_3, ⟨Lc_3, hQ_3, l_3, y_3, z_3⟩, st_3⟩ := Jvm.LawKit.callS X_2 hx (y := MN5) hown_2 (mvT hZ_2 (ow hw 59 rfl)) (mvT hZ_2 (ow hw 60 rfl)) (mvT hZ_2 (ow hw 61 rfl)) (mvT hZ_2 (ow hw 62 rfl)) (by decide) (backOf (W := 0) (rm_rnn l Z a0 hw [] nm a_2 h_2 n0 Z_2 ) hZ_2 (ow hw 62 rfl) (ow hw 61 rfl) (by decide) (by decide)) (g := (mkF mM 7 (lc20 a nm num ty rq rp stt) [(.ref a_2), (.ref nm)])) rfl (by rw [hml]; rfl) (argsL := [(.ref nm), (.ref a_2)]) (rest := []) (lenOf pd_5 rfl) rfl (by show 2 * 0 + _ ≤ _; exact Nat.le_of_eq rfl) (hb hby d_prog_32m1_7) (fun _ _ => ⟨rfl, e_2, (by decide : 2 + 0 ≤ _), (by decide : 20 + 0 ≤ _)⟩)
  dsimp only [Pt.U, Pt.locs, Pt.cells, Pt.slots] at X_3 l_3 y_3 z_3 st_3 hQ_3
  subst l_3 y_3 z_3
  obtain ⟨rfl, N_3q, eh_3⟩ := hQ_3
  have N_3 := Fr.app N_1 N_3q
  obtain ⟨a_4, T_4, h_4, k_4, X_4, e_4, E_4, hS_4, hk_4, hZ_4, hown_4, st_4⟩ := ldcS X_3 hx hZ_2 hown_2 (ow hw 63 rfl) (own_wS hw) eh_3 hS_2 hk_2 (g := (mkF mM 12 (lc20 a nm num ty rq rp stt) [(.ref ty)])) rfl (hb hby d_prog_32m1_12) (n := 16) (by decide) (by decide) (by decide) (by decide)
  have Z_4 : n0 ≤ h_4.size := (Nat.le_trans Z_2 E_4.1)
  have K_4 : Keep h0 h_4 [a] := K_2.ext E_4
  obtain ⟨_, _, ⟨T_5, L_5, k_5, n_5⟩, -, X_5, ⟨Lc_5, hQ_5, l_5, y_5, z_5⟩, st_5⟩ := Jvm.LawKit.callS X_4 hx (y := MN5) hown_4 (mvT hZ_4 (ow hw 59 rfl)) (mvT hZ_4 (ow hw 60 rfl)) (mvT hZ_4 (ow hw 61 rfl)) (mvT hZ_4 (ow hw 62 rfl)) (by decide) (backOf (W := 0) (rm_rnn l Z a0 hw [] ty a_4 h_4 n0 Z_4 ) hZ_4 (ow hw 62 rfl) (ow hw 61 rfl) (by decide) (by decide)) (g := (mkF mM 14 (lc20 a nm num ty rq rp stt) [(.ref a_4), (.ref ty)])) rfl (by rw [hml]; rfl) (argsL := [(.ref ty), (.ref a_4)]) (rest := []) (lenOf pd_5 rfl) rfl (by show 2 * 0 + _ ≤ _; exact Nat.le_of_eq rfl) (hb hby d_prog_32m1_14) (fun _ _ => ⟨rfl, e_4, (by decide : 4 + 0 ≤ _), (by decide : 40 + 0 ≤ _)⟩)
  dsimp only [Pt.U, Pt.locs, Pt.cells, Pt.slots] at X_5 l_5 y_5 z_5 st_5 hQ_5
  subst l_5 y_5 z_5
  obtain ⟨rfl, N_5q, eh_5⟩ := hQ_5
  have N_5 := Fr.app N_3 N_5q
  obtain ⟨a_6, T_6, h_6, k_6, X_6, e_6, E_6, hS_6, hk_6, hZ_6, hown_6, st_6⟩ := ldcS X_5 hx hZ_4 hown_4 (ow hw 64 rfl) (own_wS hw) eh_5 hS_4 hk_4 (g := (mkF mM 20 (lc20 a nm num ty rq rp stt) [(.ref stt)])) rfl (hb hby d_prog_32m1_20) (n := 20) (by decide) (by decide) (by decide) (by decide)
  have Z_6 : n0 ≤ h_6.size := (Nat.le_trans Z_4 E_6.1)
  have K_6 : Keep h0 h_6 [a] := K_4.ext E_6
  obtain ⟨_, _, ⟨T_7, L_7, k_7, n_7⟩, -, X_7, ⟨Lc_7, hQ_7, l_7, y_7, z_7⟩, st_7⟩ := Jvm.LawKit.callS X_6 hx (y := MN5) hown_6 (mvT hZ_6 (ow hw 59 rfl)) (mvT hZ_6 (ow hw 60 rfl)) (mvT hZ_6 (ow hw 61 rfl)) (mvT hZ_6 (ow hw 62 rfl)) (by decide) (backOf (W := 0) (rm_rnn l Z a0 hw [] stt a_6 h_6 n0 Z_6 ) hZ_6 (ow hw 62 rfl) (ow hw 61 rfl) (by decide) (by decide)) (g := (mkF mM 22 (lc20 a nm num ty rq rp stt) [(.ref a_6), (.ref stt)])) rfl (by rw [hml]; rfl) (argsL := [(.ref stt), (.ref a_6)]) (rest := []) (lenOf pd_5 rfl) rfl (by show 2 * 0 + _ ≤ _; exact Nat.le_of_eq rfl) (hb hby d_prog_32m1_22) (fun _ _ => ⟨rfl, e_6, (by decide : 6 + 0 ≤ _), (by decide : 64 + 0 ≤ _)⟩)
  dsimp only [Pt.U, Pt.locs, Pt.cells, Pt.slots] at X_7 l_7 y_7 z_7 st_7 hQ_7
  subst l_7 y_7 z_7
  obtain ⟨rfl, N_7q, eh_7⟩ := hQ_7
  have N_7 := Fr.app N_5 N_7q
  obtain ⟨T_8, h_8, X_8, e_8, W_8, st_8⟩ := putF X_7 hx hZ_6 hown_6 (host := "") (Or.inl (ow hw 65 rfl)) Via.refl eh_7 (((F_name_a.ext E_2).ext E_4).ext E_6) (((E_a.ext E_2).ext E_4).ext E_6) (Or.inr ⟨(ow hw 66 rfl), rfl, hnm⟩) (ow hw 45 rfl) (ty := (.object "java/lang/String")) (by decide) rfl rfl (g := (mkF mM 28 (lc20 a nm num ty rq rp stt) [(.ref nm), (.ref a)])) rfl rfl (hb hby d_prog_32m1_28)
  have Fw_8 := (((F_name_a.ext E_2).ext E_4).ext E_6).same W_8
  have Z_8 : n0 ≤ h_8.size := (Nat.le_trans Z_6 (Keep.of_wr W_8).1)
  have K_8 : Keep h0 h_8 [a] := K_6.wr W_8 (Or.inl (List.mem_of_getElem? (i := 0) rfl))
  have hk_8 : _ ≤ h_8.size := Nat.le_trans hk_6 (Keep.of_wr W_8).1
  have N_8 := Fr.snoc X_8 N_7 g_a
  obtain ⟨T_9, h_9, X_9, e_9, W_9, st_9⟩ := putF X_8 hx hZ_6 hown_6 (host := "") (Or.inl (ow hw 67 rfl)) Via.refl e_8 ((((F_number_a.ext E_2).ext E_4).ext E_6).other W_8 (Or.inr (slot_ne (Or.inr (ow hw 68 rfl)) (Or.inr (ow hw 66 rfl)) (by decide) (t := .int) (t' := (.object "java/lang/String")) (by decide) (by decide)))) ((((E_a.ext E_2).ext E_4).ext E_6).wr W_8) (Or.inr ⟨(ow hw 68 rfl), rfl, hnm⟩) (ow hw 45 rfl) (ty := .int) (by decide) rfl rfl (g := (mkF mM 33 (lc20 a nm num ty rq rp stt) [(.int num), (.ref a)])) rfl rfl (hb hby d_prog_32m1_33)
  have Fw_9 := ((((F_number_a.ext E_2).ext E_4).ext E_6).other W_8 (Or.inr (slot_ne (Or.inr (ow hw 68 rfl)) (Or.inr (ow hw 66 rfl)) (by decide) (t := .int) (t' := (.object "java/lang/String")) (by decide) (by decide)))).same W_9
  have Z_9 : n0 ≤ h_9.size := (Nat.le_trans Z_8 (Keep.of_wr W_9).1)
  have K_9 : Keep h0 h_9 [a] := K_8.wr W_9 (Or.inl (List.mem_of_getElem? (i := 0) rfl))
  have hk_9 : _ ≤ h_9.size := Nat.le_trans hk_8 (Keep.of_wr W_9).1
  have N_9 := Fr.snoc X_9 N_8 g_a
  obtain ⟨T_10, h_10, X_10, e_10, W_10, st_10⟩ := putF X_9 hx hZ_6 hown_6 (host := "") (Or.inl (ow hw 69 rfl)) Via.refl e_9 (((((F_type_a.ext E_2).ext E_4).ext E_6).other W_8 (Or.inr (slot_ne (Or.inr (ow hw 70 rfl)) (Or.inr (ow hw 66 rfl)) (by decide) (t := (.object "com/example/rolling_rung/rollingrung/schema/FieldType")) (t' := (.object "java/lang/String")) (by decide) (by decide)))).other W_9 (Or.inr (slot_ne (Or.inr (ow hw 70 rfl)) (Or.inr (ow hw 68 rfl)) (by decide) (t := (.object "com/example/rolling_rung/rollingrung/schema/FieldType")) (t' := .int) (by decide) (by decide)))) (((((E_a.ext E_2).ext E_4).ext E_6).wr W_8).wr W_9) (Or.inr ⟨(ow hw 70 rfl), rfl, hnm⟩) (ow hw 45 rfl) (ty := (.object "com/example/rolling_rung/rollingrung/schema/FieldType")) (by decide) rfl rfl (g := (mkF mM 38 (lc20 a nm num ty rq rp stt) [(.ref ty), (.ref a)])) rfl rfl (hb hby d_prog_32m1_38)
  have Fw_10 := (((((F_type_a.ext E_2).ext E_4).ext E_6).other W_8 (Or.inr (slot_ne (Or.inr (ow hw 70 rfl)) (Or.inr (ow hw 66 rfl)) (by decide) (t := (.object "com/example/rolling_rung/rollingrung/schema/FieldType")) (t' := (.object "java/lang/String")) (by decide) (by decide)))).other W_9 (Or.inr (slot_ne (Or.inr (ow hw 70 rfl)) (Or.inr (ow hw 68 rfl)) (by decide) (t := (.object "com/example/rolling_rung/rollingrung/schema/FieldType")) (t' := .int) (by decide) (by decide)))).same W_10
  have Z_10 : n0 ≤ h_10.size := (Nat.le_trans Z_9 (Keep.of_wr W_10).1)
  have K_10 : Keep h0 h_10 [a] := K_9.wr W_10 (Or.inl (List.mem_of_getElem? (i := 0) rfl))
  have hk_10 : _ ≤ h_10.size := Nat.le_trans hk_9 (Keep.of_wr W_10).1
  have N_10 := Fr.snoc X_10 N_9 g_a
  obtain ⟨T_11, h_11, X_11, e_11, W_11, st_11⟩ := putFN X_10 hx hZ_6 hown_6 (ow hw 71 rfl) Via.refl e_10 ((((((F_required_a.ext E_2).ext E_4).ext E_6).other W_8 (Or.inr (slot_ne (Or.inr (ow hw 72 rfl)) (Or.inr (ow hw 66 rfl)) (by decide) (t := .boolean) (t' := (.object "java/lang/String")) (by decide) (by decide)))).other W_9 (Or.inr (slot_ne (Or.inr (ow hw 72 rfl)) (Or.inr (ow hw 68 rfl)) (by decide) (t := .boolean) (t' := .int) (by decide) (by decide)))).other W_10 (Or.inr (slot_ne (Or.inr (ow hw 72 rfl)) (Or.inr (ow hw 70 rfl)) (by decide) (t := .boolean) (t' := (.object "com/example/rolling_rung/rollingrung/schema/FieldType")) (by decide) (by decide)))) ((((((E_a.ext E_2).ext E_4).ext E_6).wr W_8).wr W_9).wr W_10) (Or.inr ⟨(ow hw 72 rfl), rfl, hnm⟩) (ow hw 45 rfl) (ty := .boolean) (v' := (.int (nar .boolean rq))) (by decide) rfl (fits_nar_bool _) (g := (mkF mM 44 (lc20 a nm num ty rq rp stt) [(.int rq), (.ref a)])) rfl rfl (hb hby d_prog_32m1_44)
  have Fw_11 := ((((((F_required_a.ext E_2).ext E_4).ext E_6).other W_8 (Or.inr (slot_ne (Or.inr (ow hw 72 rfl)) (Or.inr (ow hw 66 rfl)) (by decide) (t := .boolean) (t' := (.object "java/lang/String")) (by decide) (by decide)))).other W_9 (Or.inr (slot_ne (Or.inr (ow hw 72 rfl)) (Or.inr (ow hw 68 rfl)) (by decide) (t := .boolean) (t' := .int) (by decide) (by decide)))).other W_10 (Or.inr (slot_ne (Or.inr (ow hw 72 rfl)) (Or.inr (ow hw 70 rfl)) (by decide) (t := .boolean) (t' := (.object "com/example/rolling_rung/rollingrung/schema/FieldType")) (by decide) (by decide)))).same W_11
  have Z_11 : n0 ≤ h_11.size := (Nat.le_trans Z_10 (Keep.of_wr W_11).1)
  have K_11 : Keep h0 h_11 [a] := K_10.wr W_11 (Or.inl (List.mem_of_getElem? (i := 0) rfl))
  have hk_11 : _ ≤ h_11.size := Nat.le_trans hk_10 (Keep.of_wr W_11).1
  have N_11 := Fr.snoc X_11 N_10 g_a
  obtain ⟨T_12, h_12, X_12, e_12, W_12, st_12⟩ := putFN X_11 hx hZ_6 hown_6 (ow hw 73 rfl) Via.refl e_11 (((((((F_repeated_a.ext E_2).ext E_4).ext E_6).other W_8 (Or.inr (slot_ne (Or.inr (ow hw 74 rfl)) (Or.inr (ow hw 66 rfl)) (by decide) (t := .boolean) (t' := (.object "java/lang/String")) (by decide) (by decide)))).other W_9 (Or.inr (slot_ne (Or.inr (ow hw 74 rfl)) (Or.inr (ow hw 68 rfl)) (by decide) (t := .boolean) (t' := .int) (by decide) (by decide)))).other W_10 (Or.inr (slot_ne (Or.inr (ow hw 74 rfl)) (Or.inr (ow hw 70 rfl)) (by decide) (t := .boolean) (t' := (.object "com/example/rolling_rung/rollingrung/schema/FieldType")) (by decide) (by decide)))).other W_11 (Or.inr (slot_ne (Or.inr (ow hw 74 rfl)) (Or.inr (ow hw 72 rfl)) (by decide) (t := .boolean) (t' := .boolean) (by decide) (by decide)))) (((((((E_a.ext E_2).ext E_4).ext E_6).wr W_8).wr W_9).wr W_10).wr W_11) (Or.inr ⟨(ow hw 74 rfl), rfl, hnm⟩) (ow hw 45 rfl) (ty := .boolean) (v' := (.int (nar .boolean rp))) (by decide) rfl (fits_nar_bool _) (g := (mkF mM 50 (lc20 a nm num ty rq rp stt) [(.int rp), (.ref a)])) rfl rfl (hb hby d_prog_32m1_50)
  have Fw_12 := (((((((F_repeated_a.ext E_2).ext E_4).ext E_6).other W_8 (Or.inr (slot_ne (Or.inr (ow hw 74 rfl)) (Or.inr (ow hw 66 rfl)) (by decide) (t := .boolean) (t' := (.object "java/lang/String")) (by decide) (by decide)))).other W_9 (Or.inr (slot_ne (Or.inr (ow hw 74 rfl)) (Or.inr (ow hw 68 rfl)) (by decide) (t := .boolean) (t' := .int) (by decide) (by decide)))).other W_10 (Or.inr (slot_ne (Or.inr (ow hw 74 rfl)) (Or.inr (ow hw 70 rfl)) (by decide) (t := .boolean) (t' := (.object "com/example/rolling_rung/rollingrung/schema/FieldType")) (by decide) (by decide)))).other W_11 (Or.inr (slot_ne (Or.inr (ow hw 74 rfl)) (Or.inr (ow hw 72 rfl)) (by decide) (t := .boolean) (t' := .boolean) (by decide) (by decide)))).same W_12
  have Z_12 : n0 ≤ h_12.size := (Nat.le_trans Z_11 (Keep.of_wr W_12).1)
  have K_12 : Keep h0 h_12 [a] := K_11.wr W_12 (Or.inl (List.mem_of_getElem? (i := 0) rfl))
  have hk_12 : _ ≤ h_12.size := Nat.le_trans hk_11 (Keep.of_wr W_12).1
  have N_12 := Fr.snoc X_12 N_11 g_a
  obtain ⟨T_13, h_13, X_13, e_13, W_13, st_13⟩ := putF X_12 hx hZ_6 hown_6 (host := "") (Or.inl (ow hw 75 rfl)) Via.refl e_12 ((((((((F_state_a.ext E_2).ext E_4).ext E_6).other W_8 (Or.inr (slot_ne (Or.inr (ow hw 76 rfl)) (Or.inr (ow hw 66 rfl)) (by decide) (t := (.object "com/example/rolling_rung/rollingrung/schema/ElementState")) (t' := (.object "java/lang/String")) (by decide) (by decide)))).other W_9 (Or.inr (slot_ne (Or.inr (ow hw 76 rfl)) (Or.inr (ow hw 68 rfl)) (by decide) (t := (.object "com/example/rolling_rung/rollingrung/schema/ElementState")) (t' := .int) (by decide) (by decide)))).other W_10 (Or.inr (slot_ne (Or.inr (ow hw 76 rfl)) (Or.inr (ow hw 70 rfl)) (by decide) (t := (.object "com/example/rolling_rung/rollingrung/schema/ElementState")) (t' := (.object "com/example/rolling_rung/rollingrung/schema/FieldType")) (by decide) (by decide)))).other W_11 (Or.inr (slot_ne (Or.inr (ow hw 76 rfl)) (Or.inr (ow hw 72 rfl)) (by decide) (t := (.object "com/example/rolling_rung/rollingrung/schema/ElementState")) (t' := .boolean) (by decide) (by decide)))).other W_12 (Or.inr (slot_ne (Or.inr (ow hw 76 rfl)) (Or.inr (ow hw 74 rfl)) (by decide) (t := (.object "com/example/rolling_rung/rollingrung/schema/ElementState")) (t' := .boolean) (by decide) (by decide)))) ((((((((E_a.ext E_2).ext E_4).ext E_6).wr W_8).wr W_9).wr W_10).wr W_11).wr W_12) (Or.inr ⟨(ow hw 76 rfl), rfl, hnm⟩) (ow hw 45 rfl) (ty := (.object "com/example/rolling_rung/rollingrung/schema/ElementState")) (by decide) rfl rfl (g := (mkF mM 56 (lc20 a nm num ty rq rp stt) [(.ref stt), (.ref a)])) rfl rfl (hb hby d_prog_32m1_56)
  have Fw_13 := ((((((((F_state_a.ext E_2).ext E_4).ext E_6).other W_8 (Or.inr (slot_ne (Or.inr (ow hw 76 rfl)) (Or.inr (ow hw 66 rfl)) (by decide) (t := (.object "com/example/rolling_rung/rollingrung/schema/ElementState")) (t' := (.object "java/lang/String")) (by decide) (by decide)))).other W_9 (Or.inr (slot_ne (Or.inr (ow hw 76 rfl)) (Or.inr (ow hw 68 rfl)) (by decide) (t := (.object "com/example/rolling_rung/rollingrung/schema/ElementState")) (t' := .int) (by decide) (by decide)))).other W_10 (Or.inr (slot_ne (Or.inr (ow hw 76 rfl)) (Or.inr (ow hw 70 rfl)) (by decide) (t := (.object "com/example/rolling_rung/rollingrung/schema/ElementState")) (t' := (.object "com/example/rolling_rung/rollingrung/schema/FieldType")) (by decide) (by decide)))).other W_11 (Or.inr (slot_ne (Or.inr (ow hw 76 rfl)) (Or.inr (ow hw 72 rfl)) (by decide) (t := (.object "com/example/rolling_rung/rollingrung/schema/ElementState")) (t' := .boolean) (by decide) (by decide)))).other W_12 (Or.inr (slot_ne (Or.inr (ow hw 76 rfl)) (Or.inr (ow hw 74 rfl)) (by decide) (t := (.object "com/example/rolling_rung/rollingrung/schema/ElementState")) (t' := .boolean) (by decide) (by decide)))).same W_13
  have Z_13 : n0 ≤ h_13.size := (Nat.le_trans Z_12 (Keep.of_wr W_13).1)
  have K_13 : Keep h0 h_13 [a] := K_12.wr W_13 (Or.inl (List.mem_of_getElem? (i := 0) rfl))
  have hk_13 : _ ≤ h_13.size := Nat.le_trans hk_12 (Keep.of_wr W_13).1
  have N_13 := Fr.snoc X_13 N_12 g_a
  obtain ⟨fs, hr, hrun, hended, hRE⟩ := X_13.leaveW hS_6 (show _ ≤ T_13.heap.size by rw [e_13]; exact hk_13) (v := none) (fun _ => rfl)
  refine ⟨_, _, pre0 _ ?_, hrun, hended, _, _, rfl, ?_, ⟨_, rfl⟩, hRE.2.1, hRE.2.2.1, hRE.2.2.2.mono (by decide) (by decide)⟩
  · show oS pP eE below s₁ (mkF mM 0 (lc20 a nm num ty rq rp stt) []) _
    refine XS.aloadN X0.here hx rfl (hb hby d_prog_32m1_0) rfl rfl ?_
    show oS pP eE below s₁ (mkF mM 1 (lc20 a nm num ty rq rp stt) [(.ref a)]) _
    refine st_1.trans ?_
    show oS pP eE below T_1 (mkF mM 4 (lc20 a nm num ty rq rp stt) []) _
    refine XS.aloadN X_1.here hx rfl (hb hby d_prog_32m1_4) rfl rfl ?_
    show oS pP eE below T_1 (mkF mM 5 (lc20 a nm num ty rq rp stt) [(.ref nm)]) _
    refine st_2 _ ?_
    show oS pP eE below T_2 (mkF mM 7 (lc20 a nm num ty rq rp stt) [(.ref a_2), (.ref nm)]) _
    refine st_3 _ ?_
    show oS pP eE below T_3 (mkF mM 10 (lc20 a nm num ty rq rp stt) [(.ref nm)]) _
    refine XT.pop X_3.here hx rfl (hb hby d_prog_32m1_10) rfl rfl ?_
    refine XS.aloadN X_3.here hx rfl (hb hby d_prog_32m1_11) rfl rfl ?_
    show oS pP eE below T_3 (mkF mM 12 (lc20 a nm num ty rq rp stt) [(.ref ty)]) _
    refine st_4 _ ?_
    show oS pP eE below T_4 (mkF mM 14 (lc20 a nm num ty rq rp stt) [(.ref a_4), (.ref ty)]) _
    refine st_5 _ ?_
    show oS pP eE below T_5 (mkF mM 17 (lc20 a nm num ty rq rp stt) [(.ref ty)]) _
    refine XT.pop X_5.here hx rfl (hb hby d_prog_32m1_17) rfl rfl ?_
    refine XS.aload X_5.here hx rfl (hb hby d_prog_32m1_18) rfl rfl ?_
    show oS pP eE below T_5 (mkF mM 20 (lc20 a nm num ty rq rp stt) [(.ref stt)]) _
    refine st_6 _ ?_
    show oS pP eE below T_6 (mkF mM 22 (lc20 a nm num ty rq rp stt) [(.ref a_6), (.ref stt)]) _
    refine st_7 _ ?_
    show oS pP eE below T_7 (mkF mM 25 (lc20 a nm num ty rq rp stt) [(.ref stt)]) _
    refine XT.pop X_7.here hx rfl (hb hby d_prog_32m1_25) rfl rfl ?_
    refine XS.aloadN X_7.here hx rfl (hb hby d_prog_32m1_26) rfl rfl ?_
    refine XS.aloadN X_7.here hx rfl (hb hby d_prog_32m1_27) rfl rfl ?_
    show oS pP eE below T_7 (mkF mM 28 (lc20 a nm num ty rq rp stt) [(.ref nm), (.ref a)]) _
    refine st_8 _ ?_
    show oS pP eE below T_8 (mkF mM 31 (lc20 a nm num ty rq rp stt) []) _
    refine XS.aloadN X_8.here hx rfl (hb hby d_prog_32m1_31) rfl rfl ?_
    refine XS.iloadN X_8.here hx rfl (hb hby d_prog_32m1_32) rfl ?_
    show oS pP eE below T_8 (mkF mM 33 (lc20 a nm num ty rq rp stt) [(.int num), (.ref a)]) _
    refine st_9 _ ?_
    show oS pP eE below T_9 (mkF mM 36 (lc20 a nm num ty rq rp stt) []) _
    refine XS.aloadN X_9.here hx rfl (hb hby d_prog_32m1_36) rfl rfl ?_
    refine XS.aloadN X_9.here hx rfl (hb hby d_prog_32m1_37) rfl rfl ?_
    show oS pP eE below T_9 (mkF mM 38 (lc20 a nm num ty rq rp stt) [(.ref ty), (.ref a)]) _
    refine st_10 _ ?_
    show oS pP eE below T_10 (mkF mM 41 (lc20 a nm num ty rq rp stt) []) _
    refine XS.aloadN X_10.here hx rfl (hb hby d_prog_32m1_41) rfl rfl ?_
    refine XS.iload X_10.here hx rfl (hb hby d_prog_32m1_42) rfl ?_
    show oS pP eE below T_10 (mkF mM 44 (lc20 a nm num ty rq rp stt) [(.int rq), (.ref a)]) _
    refine st_11 _ ?_
    show oS pP eE below T_11 (mkF mM 47 (lc20 a nm num ty rq rp stt) []) _
    refine XS.aloadN X_11.here hx rfl (hb hby d_prog_32m1_47) rfl rfl ?_
    refine XS.iload X_11.here hx rfl (hb hby d_prog_32m1_48) rfl ?_
    show oS pP eE below T_11 (mkF mM 50 (lc20 a nm num ty rq rp stt) [(.int rp), (.ref a)]) _
    refine st_12 _ ?_
    show oS pP eE below T_12 (mkF mM 53 (lc20 a nm num ty rq rp stt) []) _
    refine XS.aloadN X_12.here hx rfl (hb hby d_prog_32m1_53) rfl rfl ?_
    refine XS.aload X_12.here hx rfl (hb hby d_prog_32m1_54) rfl rfl ?_
    show oS pP eE below T_12 (mkF mM 56 (lc20 a nm num ty rq rp stt) [(.ref stt), (.ref a)]) _
    refine st_13 _ ?_
    show oS pP eE below T_13 (mkF mM 59 (lc20 a nm num ty rq rp stt) []) _
    exact X_13.returnOut hx Bd.returns (hb hby d_prog_32m1_59) hr
  · show Q_fini Z a nm num ty rq rp stt h0 n0 _ T_13.heap _
    rw [e_13]
    exact ⟨rfl, N_13, K_13, (((((Fw_8.other W_9 (Or.inr (slot_ne (Or.inr (ow hw 66 rfl)) (Or.inr (ow hw 68 rfl)) (by decide) (t := (.object "java/lang/String")) (t' := .int) (by decide) (by decide)))).other W_10 (Or.inr (slot_ne (Or.inr (ow hw 66 rfl)) (Or.inr (ow hw 70 rfl)) (by decide) (t := (.object "java/lang/String")) (t' := (.object "com/example/rolling_rung/rollingrung/schema/FieldType")) (by decide) (by decide)))).other W_11 (Or.inr (slot_ne (Or.inr (ow hw 66 rfl)) (Or.inr (ow hw 72 rfl)) (by decide) (t := (.object "java/lang/String")) (t' := .boolean) (by decide) (by decide)))).other W_12 (Or.inr (slot_ne (Or.inr (ow hw 66 rfl)) (Or.inr (ow hw 74 rfl)) (by decide) (t := (.object "java/lang/String")) (t' := .boolean) (by decide) (by decide)))).other W_13 (Or.inr (slot_ne (Or.inr (ow hw 66 rfl)) (Or.inr (ow hw 76 rfl)) (by decide) (t := (.object "java/lang/String")) (t' := (.object "com/example/rolling_rung/rollingrung/schema/ElementState")) (by decide) (by decide)))), ((((Fw_9.other W_10 (Or.inr (slot_ne (Or.inr (ow hw 68 rfl)) (Or.inr (ow hw 70 rfl)) (by decide) (t := .int) (t' := (.object "com/example/rolling_rung/rollingrung/schema/FieldType")) (by decide) (by decide)))).other W_11 (Or.inr (slot_ne (Or.inr (ow hw 68 rfl)) (Or.inr (ow hw 72 rfl)) (by decide) (t := .int) (t' := .boolean) (by decide) (by decide)))).other W_12 (Or.inr (slot_ne (Or.inr (ow hw 68 rfl)) (Or.inr (ow hw 74 rfl)) (by decide) (t := .int) (t' := .boolean) (by decide) (by decide)))).other W_13 (Or.inr (slot_ne (Or.inr (ow hw 68 rfl)) (Or.inr (ow hw 76 rfl)) (by decide) (t := .int) (t' := (.object "com/example/rolling_rung/rollingrung/schema/ElementState")) (by decide) (by decide)))), (((Fw_10.other W_11 (Or.inr (slot_ne (Or.inr (ow hw 70 rfl)) (Or.inr (ow hw 72 rfl)) (by decide) (t := (.object "com/example/rolling_rung/rollingrung/schema/FieldType")) (t' := .boolean) (by decide) (by decide)))).other W_12 (Or.inr (slot_ne (Or.inr (ow hw 70 rfl)) (Or.inr (ow hw 74 rfl)) (by decide) (t := (.object "com/example/rolling_rung/rollingrung/schema/FieldType")) (t' := .boolean) (by decide) (by decide)))).other W_13 (Or.inr (slot_ne (Or.inr (ow hw 70 rfl)) (Or.inr (ow hw 76 rfl)) (by decide) (t := (.object "com/example/rolling_rung/rollingrung/schema/FieldType")) (t' := (.object "com/example/rolling_rung/rollingrung/schema/ElementState")) (by decide) (by decide)))), ((Fw_11.other W_12 (Or.inr (slot_ne (Or.inr (ow hw 72 rfl)) (Or.inr (ow hw 74 rfl)) (by decide) (t := .boolean) (t' := .boolean) (by decide) (by decide)))).other W_13 (Or.inr (slot_ne (Or.inr (ow hw 72 rfl)) (Or.inr (ow hw 76 rfl)) (by decide) (t := .boolean) (t' := (.object "com/example/rolling_rung/rollingrung/schema/ElementState")) (by decide) (by decide)))), (Fw_12.other W_13 (Or.inr (slot_ne (Or.inr (ow hw 74 rfl)) (Or.inr (ow hw 76 rfl)) (by decide) (t := .boolean) (t' := (.object "com/example/rolling_rung/rollingrung/schema/ElementState")) (by decide) (by decide)))), Fw_13, (((((((((E_a.ext E_2).ext E_4).ext E_6).wr W_8).wr W_9).wr W_10).wr W_11).wr W_12).wr W_13)⟩
theorem d_prog_32m7_0 : decode prog_32_method_7_code 0 = .ok (.aload_n 0, 1) := by decide +kernel
theorem d_prog_32m7_1 : decode prog_32_method_7_code 1 = .ok (.getfield 19, 3) := by decide +kernel
theorem d_prog_32m7_4 : decode prog_32_method_7_code 4 = .ok (.areturn, 1) := by decide +kernel
theorem ef_get_name (mM : MethodId) (x0 : Addr) : entryFrame mM #[(.ref x0)] 1 = mkF mM 0 #[.val (.ref x0)] [] := by first | (simp [entryFrame, mkF, argsToLocals, Value.category]; done) | rfl
def Q_get_name (Z : State) (a : Addr) (w : Addr) (h0 : Heap) (n0 : Nat) (v_ : Option Value) (h_ : Heap) (L_ : List Loc) : Prop := v_ = some (.ref w) ∧ Fr n0 L_ ∧ h_ = h0
set_option maxRecDepth 65536 in
set_option maxHeartbeats 40000000 in
theorem rm_get_name (l : Launch) (Z : State) (a0 : Array Value) (hw : ∀ d ∈ tables_1, d.before a0 Z = true) (ws : List Jvm.Cond) (a : Addr) (w : Addr) (h0 : Heap) (n0 : Nat) (Z0 : n0 ≤ h0.size) (F_name_a : Fld Z h0 a "com/example/rolling_rung/rollingrung/schema/Field" "name" "Ljava/lang/String;" (.ref w)) :
    MetFree l (⟨"com/example/rolling_rung/rollingrung/schema/Field", "name", "()Ljava/lang/String;"⟩ : MethodName) (head1 (Jvm.Cond.code (⟨"com/example/rolling_rung/rollingrung/schema/Field", "name", "()Ljava/lang/String;"⟩ : MethodName) prog_32_method_7_code 1 (some (.object "java/lang/String")) :: ws) ({ frames := 0, cells := 0, slots := 0, locals := 0 } : Room)) (fun aa_ U_ => aa_ = #[(.ref a)] ∧ Z.Warmed39 U_.vm ∧ U_.heap = h0) (fun _ _ _ _ _ => True) (fun _ U_ o_ U'_ => ∃ v_ L_, o_ = .returned v_ ∧ Q_get_name Z a w h0 n0 v_ U'_.heap L_ ∧ FrameEnd U_ o_ U'_ L_ ({ frames := 0, cells := 0, slots := 0, locals := 0 } : Room).cells ({ frames := 0, cells := 0, slots := 0, locals := 0 } : Room).slots) := by
  refine MetFree.of_bodySF (plainFor_of_name pn_5) hisR ?_
  intro pP eE sS mM argsA below meth cC s₁ Bd hml0 hP hK
  obtain ⟨rfl, hZ, hh⟩ := hP
  have hx := Bd.exec
  have hby := Bd.bytes
  have hml : cC.maxLocals = 1 := hml0
  have hown : sS.vm.findClass "com/example/rolling_rung/rollingrung/schema/Field" = some mM.cls := findClass_of_methodNamed Bd.named
  have hnm := (name_of_methodNamed Bd.named Bd.method).1
  have X0 : Stand pP l eE ({ frames := 0, cells := 0, slots := 0, locals := 0 } : Room) sS mM #[(.ref a)] below meth cC s₁ [] 0 0 := Stand.of_body Bd
  have e0 : s₁.heap = h0 := by rw [← hh, Bd.state]; rfl
  have N0 := Fr.nil n0
  have pre0 : ∀ t_, Steps pP.tables eE below (s₁.setTop (mkF mM 0 #[.val (.ref a)] [])) t_ → Steps pP.tables eE below (s₁.setTop (entryFrame mM #[(.ref a)] 1)) t_ := fun t_ k_ => castTop (ef_get_name mM a) k_
  obtain ⟨T_1, X_1, e_1, st_1⟩ := getF X0 hx hZ hown (host := "") (Or.inl (ow hw 65 rfl)) Via.refl e0 F_name_a (g := (mkF mM 1 #[.val (.ref a)] [(.ref a)])) rfl rfl (hb hby d_prog_32m7_1)
  obtain ⟨fs, hr, hrun, hended, hW, hsame⟩ := X_1.leave (v := some (.ref w)) (fun h => by rw [Bd.returns] at h; cases h)
  refine ⟨_, _, pre0 _ ?_, hrun, hended, _, _, rfl, ?_, ⟨_, rfl⟩, hW, hsame.mono (by decide) (by decide)⟩
  · show oS pP eE below s₁ (mkF mM 0 #[.val (.ref a)] []) _
    refine XS.aloadN X0.here hx rfl (hb hby d_prog_32m7_0) rfl rfl ?_
    show oS pP eE below s₁ (mkF mM 1 #[.val (.ref a)] [(.ref a)]) _
    refine st_1 _ ?_
    show oS pP eE below T_1 (mkF mM 4 #[.val (.ref a)] [(.ref w)]) _
    exact retOut X_1 hx Bd.returns rfl (Or.inr (Or.inr (Or.inr (Or.inr ⟨rfl, rfl, rfl⟩)))) (hb hby d_prog_32m7_4) hr
  · show Q_get_name Z a w h0 n0 _ T_1.heap _
    rw [e_1]
    exact ⟨rfl, N0, rfl⟩
theorem d_prog_32m8_0 : decode prog_32_method_8_code 0 = .ok (.aload_n 0, 1) := by decide +kernel
theorem d_prog_32m8_1 : decode prog_32_method_8_code 1 = .ok (.getfield 24, 3) := by decide +kernel
theorem d_prog_32m8_4 : decode prog_32_method_8_code 4 = .ok (.ireturn, 1) := by decide +kernel
theorem ef_get_number (mM : MethodId) (x0 : Addr) : entryFrame mM #[(.ref x0)] 1 = mkF mM 0 #[.val (.ref x0)] [] := by first | (simp [entryFrame, mkF, argsToLocals, Value.category]; done) | rfl
def Q_get_number (Z : State) (a : Addr) (w : Int32) (h0 : Heap) (n0 : Nat) (v_ : Option Value) (h_ : Heap) (L_ : List Loc) : Prop := v_ = some (.int w) ∧ Fr n0 L_ ∧ h_ = h0
set_option maxRecDepth 65536 in
set_option maxHeartbeats 40000000 in
theorem rm_get_number (l : Launch) (Z : State) (a0 : Array Value) (hw : ∀ d ∈ tables_1, d.before a0 Z = true) (ws : List Jvm.Cond) (a : Addr) (w : Int32) (h0 : Heap) (n0 : Nat) (Z0 : n0 ≤ h0.size) (F_number_a : Fld Z h0 a "com/example/rolling_rung/rollingrung/schema/Field" "number" "I" (.int w)) :
    MetFree l (⟨"com/example/rolling_rung/rollingrung/schema/Field", "number", "()I"⟩ : MethodName) (head1 (Jvm.Cond.code (⟨"com/example/rolling_rung/rollingrung/schema/Field", "number", "()I"⟩ : MethodName) prog_32_method_8_code 1 (some .int) :: ws) ({ frames := 0, cells := 0, slots := 0, locals := 0 } : Room)) (fun aa_ U_ => aa_ = #[(.ref a)] ∧ Z.Warmed39 U_.vm ∧ U_.heap = h0) (fun _ _ _ _ _ => True) (fun _ U_ o_ U'_ => ∃ v_ L_, o_ = .returned v_ ∧ Q_get_number Z a w h0 n0 v_ U'_.heap L_ ∧ FrameEnd U_ o_ U'_ L_ ({ frames := 0, cells := 0, slots := 0, locals := 0 } : Room).cells ({ frames := 0, cells := 0, slots := 0, locals := 0 } : Room).slots) := by
  refine MetFree.of_bodySF (plainFor_of_name pn_5) hisR ?_
  intro pP eE sS mM argsA below meth cC s₁ Bd hml0 hP hK
  obtain ⟨rfl, hZ, hh⟩ := hP
  have hx := Bd.exec
  have hby := Bd.bytes
  have hml : cC.maxLocals = 1 := hml0
  have hown : sS.vm.findClass "com/example/rolling_rung/rollingrung/schema/Field" = some mM.cls := findClass_of_methodNamed Bd.named
  have hnm := (name_of_methodNamed Bd.named Bd.method).1
  have X0 : Stand pP l eE ({ frames := 0, cells := 0, slots := 0, locals := 0 } : Room) sS mM #[(.ref a)] below meth cC s₁ [] 0 0 := Stand.of_body Bd
  have e0 : s₁.heap = h0 := by rw [← hh, Bd.state]; rfl
  have N0 := Fr.nil n0
  have pre0 : ∀ t_, Steps pP.tables eE below (s₁.setTop (mkF mM 0 #[.val (.ref a)] [])) t_ → Steps pP.tables eE below (s₁.setTop (entryFrame mM #[(.ref a)] 1)) t_ := fun t_ k_ => castTop (ef_get_number mM a) k_
  obtain ⟨T_1, X_1, e_1, st_1⟩ := getF X0 hx hZ hown (host := "") (Or.inl (ow hw 67 rfl)) Via.refl e0 F_number_a (g := (mkF mM 1 #[.val (.ref a)] [(.ref a)])) rfl rfl (hb hby d_prog_32m8_1)
  obtain ⟨fs, hr, hrun, hended, hW, hsame⟩ := X_1.leave (v := some (.int w)) (fun h => by rw [Bd.returns] at h; cases h)
  refine ⟨_, _, pre0 _ ?_, hrun, hended, _, _, rfl, ?_, ⟨_, rfl⟩, hW, hsame.mono (by decide) (by decide)⟩
  · show oS pP eE below s₁ (mkF mM 0 #[.val (.ref a)] []) _
    refine XS.aloadN X0.here hx rfl (hb hby d_prog_32m8_0) rfl rfl ?_
    show oS pP eE below s₁ (mkF mM 1 #[.val (.ref a)] [(.ref a)]) _
    refine st_1 _ ?_
    show oS pP eE below T_1 (mkF mM 4 #[.val (.ref a)] [(.int w)]) _
    exact retI X_1 hx Bd.returns (hb hby d_prog_32m8_4) hr
  · show Q_get_number Z a w h0 n0 _ T_1.heap _
    rw [e_1]
    exact ⟨rfl, N0, rfl⟩
theorem d_prog_32m9_0 : decode prog_32_method_9_code 0 = .ok (.aload_n 0, 1) := by decide +kernel
theorem d_prog_32m9_1 : decode prog_32_method_9_code 1 = .ok (.getfield 28, 3) := by decide +kernel
theorem d_prog_32m9_4 : decode prog_32_method_9_code 4 = .ok (.areturn, 1) := by decide +kernel
theorem ef_get_type (mM : MethodId) (x0 : Addr) : entryFrame mM #[(.ref x0)] 1 = mkF mM 0 #[.val (.ref x0)] [] := by first | (simp [entryFrame, mkF, argsToLocals, Value.category]; done) | rfl
def Q_get_type (Z : State) (a : Addr) (w : Addr) (h0 : Heap) (n0 : Nat) (v_ : Option Value) (h_ : Heap) (L_ : List Loc) : Prop := v_ = some (.ref w) ∧ Fr n0 L_ ∧ h_ = h0
set_option maxRecDepth 65536 in
set_option maxHeartbeats 40000000 in
theorem rm_get_type (l : Launch) (Z : State) (a0 : Array Value) (hw : ∀ d ∈ tables_1, d.before a0 Z = true) (ws : List Jvm.Cond) (a : Addr) (w : Addr) (h0 : Heap) (n0 : Nat) (Z0 : n0 ≤ h0.size) (F_type_a : Fld Z h0 a "com/example/rolling_rung/rollingrung/schema/Field" "type" "Lcom/example/rolling_rung/rollingrung/schema/FieldType;" (.ref w)) :
    MetFree l (⟨"com/example/rolling_rung/rollingrung/schema/Field", "type", "()Lcom/example/rolling_rung/rollingrung/schema/FieldType;"⟩ : MethodName) (head1 (Jvm.Cond.code (⟨"com/example/rolling_rung/rollingrung/schema/Field", "type", "()Lcom/example/rolling_rung/rollingrung/schema/FieldType;"⟩ : MethodName) prog_32_method_9_code 1 (some (.object "com/example/rolling_rung/rollingrung/schema/FieldType")) :: ws) ({ frames := 0, cells := 0, slots := 0, locals := 0 } : Room)) (fun aa_ U_ => aa_ = #[(.ref a)] ∧ Z.Warmed39 U_.vm ∧ U_.heap = h0) (fun _ _ _ _ _ => True) (fun _ U_ o_ U'_ => ∃ v_ L_, o_ = .returned v_ ∧ Q_get_type Z a w h0 n0 v_ U'_.heap L_ ∧ FrameEnd U_ o_ U'_ L_ ({ frames := 0, cells := 0, slots := 0, locals := 0 } : Room).cells ({ frames := 0, cells := 0, slots := 0, locals := 0 } : Room).slots) := by
  refine MetFree.of_bodySF (plainFor_of_name pn_5) hisR ?_
  intro pP eE sS mM argsA below meth cC s₁ Bd hml0 hP hK
  obtain ⟨rfl, hZ, hh⟩ := hP
  have hx := Bd.exec
  have hby := Bd.bytes
  have hml : cC.maxLocals = 1 := hml0
  have hown : sS.vm.findClass "com/example/rolling_rung/rollingrung/schema/Field" = some mM.cls := findClass_of_methodNamed Bd.named
  have hnm := (name_of_methodNamed Bd.named Bd.method).1
  have X0 : Stand pP l eE ({ frames := 0, cells := 0, slots := 0, locals := 0 } : Room) sS mM #[(.ref a)] below meth cC s₁ [] 0 0 := Stand.of_body Bd
  have e0 : s₁.heap = h0 := by rw [← hh, Bd.state]; rfl
  have N0 := Fr.nil n0
  have pre0 : ∀ t_, Steps pP.tables eE below (s₁.setTop (mkF mM 0 #[.val (.ref a)] [])) t_ → Steps pP.tables eE below (s₁.setTop (entryFrame mM #[(.ref a)] 1)) t_ := fun t_ k_ => castTop (ef_get_type mM a) k_
  obtain ⟨T_1, X_1, e_1, st_1⟩ := getF X0 hx hZ hown (host := "") (Or.inl (ow hw 69 rfl)) Via.refl e0 F_type_a (g := (mkF mM 1 #[.val (.ref a)] [(.ref a)])) rfl rfl (hb hby d_prog_32m9_1)
  obtain ⟨fs, hr, hrun, hended, hW, hsame⟩ := X_1.leave (v := some (.ref w)) (fun h => by rw [Bd.returns] at h; cases h)
  refine ⟨_, _, pre0 _ ?_, hrun, hended, _, _, rfl, ?_, ⟨_, rfl⟩, hW, hsame.mono (by decide) (by decide)⟩
  · show oS pP eE below s₁ (mkF mM 0 #[.val (.ref a)] []) _
    refine XS.aloadN X0.here hx rfl (hb hby d_prog_32m9_0) rfl rfl ?_
    show oS pP eE below s₁ (mkF mM 1 #[.val (.ref a)] [(.ref a)]) _
    refine st_1 _ ?_
    show oS pP eE below T_1 (mkF mM 4 #[.val (.ref a)] [(.ref w)]) _
    exact retOut X_1 hx Bd.returns rfl (Or.inr (Or.inr (Or.inr (Or.inr ⟨rfl, rfl, rfl⟩)))) (hb hby d_prog_32m9_4) hr
  · show Q_get_type Z a w h0 n0 _ T_1.heap _
    rw [e_1]
    exact ⟨rfl, N0, rfl⟩
theorem d_prog_32m10_0 : decode prog_32_method_10_code 0 = .ok (.aload_n 0, 1) := by decide +kernel
theorem d_prog_32m10_1 : decode prog_32_method_10_code 1 = .ok (.getfield 31, 3) := by decide +kernel
theorem d_prog_32m10_4 : decode prog_32_method_10_code 4 = .ok (.ireturn, 1) := by decide +kernel
theorem ef_get_required (mM : MethodId) (x0 : Addr) : entryFrame mM #[(.ref x0)] 1 = mkF mM 0 #[.val (.ref x0)] [] := by first | (simp [entryFrame, mkF, argsToLocals, Value.category]; done) | rfl
def Q_get_required (Z : State) (a : Addr) (w : Int32) (h0 : Heap) (n0 : Nat) (v_ : Option Value) (h_ : Heap) (L_ : List Loc) : Prop := v_ = some (.int (nar .boolean w)) ∧ Fr n0 L_ ∧ h_ = h0
set_option maxRecDepth 65536 in
set_option maxHeartbeats 40000000 in
theorem rm_get_required (l : Launch) (Z : State) (a0 : Array Value) (hw : ∀ d ∈ tables_1, d.before a0 Z = true) (ws : List Jvm.Cond) (a : Addr) (w : Int32) (h0 : Heap) (n0 : Nat) (Z0 : n0 ≤ h0.size) (F_required_a : Fld Z h0 a "com/example/rolling_rung/rollingrung/schema/Field" "required" "Z" (.int w)) :
    MetFree l (⟨"com/example/rolling_rung/rollingrung/schema/Field", "required", "()Z"⟩ : MethodName) (head1 (Jvm.Cond.code (⟨"com/example/rolling_rung/rollingrung/schema/Field", "required", "()Z"⟩ : MethodName) prog_32_method_10_code 1 (some .boolean) :: ws) ({ frames := 0, cells := 0, slots := 0, locals := 0 } : Room)) (fun aa_ U_ => aa_ = #[(.ref a)] ∧ Z.Warmed39 U_.vm ∧ U_.heap = h0) (fun _ _ _ _ _ => True) (fun _ U_ o_ U'_ => ∃ v_ L_, o_ = .returned v_ ∧ Q_get_required Z a w h0 n0 v_ U'_.heap L_ ∧ FrameEnd U_ o_ U'_ L_ ({ frames := 0, cells := 0, slots := 0, locals := 0 } : Room).cells ({ frames := 0, cells := 0, slots := 0, locals := 0 } : Room).slots) := by
  refine MetFree.of_bodySF (plainFor_of_name pn_5) hisR ?_
  intro pP eE sS mM argsA below meth cC s₁ Bd hml0 hP hK
  obtain ⟨rfl, hZ, hh⟩ := hP
  have hx := Bd.exec
  have hby := Bd.bytes
  have hml : cC.maxLocals = 1 := hml0
  have hown : sS.vm.findClass "com/example/rolling_rung/rollingrung/schema/Field" = some mM.cls := findClass_of_methodNamed Bd.named
  have hnm := (name_of_methodNamed Bd.named Bd.method).1
  have X0 : Stand pP l eE ({ frames := 0, cells := 0, slots := 0, locals := 0 } : Room) sS mM #[(.ref a)] below meth cC s₁ [] 0 0 := Stand.of_body Bd
  have e0 : s₁.heap = h0 := by rw [← hh, Bd.state]; rfl
  have N0 := Fr.nil n0
  have pre0 : ∀ t_, Steps pP.tables eE below (s₁.setTop (mkF mM 0 #[.val (.ref a)] [])) t_ → Steps pP.tables eE below (s₁.setTop (entryFrame mM #[(.ref a)] 1)) t_ := fun t_ k_ => castTop (ef_get_required mM a) k_
  obtain ⟨T_1, X_1, e_1, st_1⟩ := getF X0 hx hZ hown (host := "") (Or.inl (ow hw 71 rfl)) Via.refl e0 F_required_a (g := (mkF mM 1 #[.val (.ref a)] [(.ref a)])) rfl rfl (hb hby d_prog_32m10_1)
  obtain ⟨fs, hr, hrun, hended, hW, hsame⟩ := X_1.leave (v := some (.int (nar .boolean w))) (fun h => by rw [Bd.returns] at h; cases h)
  refine ⟨_, _, pre0 _ ?_, hrun, hended, _, _, rfl, ?_, ⟨_, rfl⟩, hW, hsame.mono (by decide) (by decide)⟩
  · show oS pP eE below s₁ (mkF mM 0 #[.val (.ref a)] []) _
    refine XS.aloadN X0.here hx rfl (hb hby d_prog_32m10_0) rfl rfl ?_
    show oS pP eE below s₁ (mkF mM 1 #[.val (.ref a)] [(.ref a)]) _
    refine st_1 _ ?_
    show oS pP eE below T_1 (mkF mM 4 #[.val (.ref a)] [(.int w)]) _
    exact retN X_1 hx (t := .boolean) Bd.returns (by simp) (hb hby d_prog_32m10_4) hr
  · show Q_get_required Z a w h0 n0 _ T_1.heap _
    rw [e_1]
    exact ⟨rfl, N0, rfl⟩
theorem d_prog_32m11_0 : decode prog_32_method_11_code 0 = .ok (.aload_n 0, 1) := by decide +kernel
theorem d_prog_32m11_1 : decode prog_32_method_11_code 1 = .ok (.getfield 35, 3) := by decide +kernel
theorem d_prog_32m11_4 : decode prog_32_method_11_code 4 = .ok (.ireturn, 1) := by decide +kernel
theorem ef_get_repeated (mM : MethodId) (x0 : Addr) : entryFrame mM #[(.ref x0)] 1 = mkF mM 0 #[.val (.ref x0)] [] := by first | (simp [entryFrame, mkF, argsToLocals, Value.category]; done) | rfl
def Q_get_repeated (Z : State) (a : Addr) (w : Int32) (h0 : Heap) (n0 : Nat) (v_ : Option Value) (h_ : Heap) (L_ : List Loc) : Prop := v_ = some (.int (nar .boolean w)) ∧ Fr n0 L_ ∧ h_ = h0
set_option maxRecDepth 65536 in
set_option maxHeartbeats 40000000 in
theorem rm_get_repeated (l : Launch) (Z : State) (a0 : Array Value) (hw : ∀ d ∈ tables_1, d.before a0 Z = true) (ws : List Jvm.Cond) (a : Addr) (w : Int32) (h0 : Heap) (n0 : Nat) (Z0 : n0 ≤ h0.size) (F_repeated_a : Fld Z h0 a "com/example/rolling_rung/rollingrung/schema/Field" "repeated" "Z" (.int w)) :
    MetFree l (⟨"com/example/rolling_rung/rollingrung/schema/Field", "repeated", "()Z"⟩ : MethodName) (head1 (Jvm.Cond.code (⟨"com/example/rolling_rung/rollingrung/schema/Field", "repeated", "()Z"⟩ : MethodName) prog_32_method_11_code 1 (some .boolean) :: ws) ({ frames := 0, cells := 0, slots := 0, locals := 0 } : Room)) (fun aa_ U_ => aa_ = #[(.ref a)] ∧ Z.Warmed39 U_.vm ∧ U_.heap = h0) (fun _ _ _ _ _ => True) (fun _ U_ o_ U'_ => ∃ v_ L_, o_ = .returned v_ ∧ Q_get_repeated Z a w h0 n0 v_ U'_.heap L_ ∧ FrameEnd U_ o_ U'_ L_ ({ frames := 0, cells := 0, slots := 0, locals := 0 } : Room).cells ({ frames := 0, cells := 0, slots := 0, locals := 0 } : Room).slots) := by
  refine MetFree.of_bodySF (plainFor_of_name pn_5) hisR ?_
  intro pP eE sS mM argsA below meth cC s₁ Bd hml0 hP hK
  obtain ⟨rfl, hZ, hh⟩ := hP
  have hx := Bd.exec
  have hby := Bd.bytes
  have hml : cC.maxLocals = 1 := hml0
  have hown : sS.vm.findClass "com/example/rolling_rung/rollingrung/schema/Field" = some mM.cls := findClass_of_methodNamed Bd.named
  have hnm := (name_of_methodNamed Bd.named Bd.method).1
  have X0 : Stand pP l eE ({ frames := 0, cells := 0, slots := 0, locals := 0 } : Room) sS mM #[(.ref a)] below meth cC s₁ [] 0 0 := Stand.of_body Bd
  have e0 : s₁.heap = h0 := by rw [← hh, Bd.state]; rfl
  have N0 := Fr.nil n0
  have pre0 : ∀ t_, Steps pP.tables eE below (s₁.setTop (mkF mM 0 #[.val (.ref a)] [])) t_ → Steps pP.tables eE below (s₁.setTop (entryFrame mM #[(.ref a)] 1)) t_ := fun t_ k_ => castTop (ef_get_repeated mM a) k_
  obtain ⟨T_1, X_1, e_1, st_1⟩ := getF X0 hx hZ hown (host := "") (Or.inl (ow hw 73 rfl)) Via.refl e0 F_repeated_a (g := (mkF mM 1 #[.val (.ref a)] [(.ref a)])) rfl rfl (hb hby d_prog_32m11_1)
  obtain ⟨fs, hr, hrun, hended, hW, hsame⟩ := X_1.leave (v := some (.int (nar .boolean w))) (fun h => by rw [Bd.returns] at h; cases h)
  refine ⟨_, _, pre0 _ ?_, hrun, hended, _, _, rfl, ?_, ⟨_, rfl⟩, hW, hsame.mono (by decide) (by decide)⟩
  · show oS pP eE below s₁ (mkF mM 0 #[.val (.ref a)] []) _
    refine XS.aloadN X0.here hx rfl (hb hby d_prog_32m11_0) rfl rfl ?_
    show oS pP eE below s₁ (mkF mM 1 #[.val (.ref a)] [(.ref a)]) _
    refine st_1 _ ?_
    show oS pP eE below T_1 (mkF mM 4 #[.val (.ref a)] [(.int w)]) _
    exact retN X_1 hx (t := .boolean) Bd.returns (by simp) (hb hby d_prog_32m11_4) hr
  · show Q_get_repeated Z a w h0 n0 _ T_1.heap _
    rw [e_1]
    exact ⟨rfl, N0, rfl⟩
theorem d_prog_32m12_0 : decode prog_32_method_12_code 0 = .ok (.aload_n 0, 1) := by decide +kernel
theorem d_prog_32m12_1 : decode prog_32_method_12_code 1 = .ok (.getfield 38, 3) := by decide +kernel
theorem d_prog_32m12_4 : decode prog_32_method_12_code 4 = .ok (.areturn, 1) := by decide +kernel
theorem ef_get_state (mM : MethodId) (x0 : Addr) : entryFrame mM #[(.ref x0)] 1 = mkF mM 0 #[.val (.ref x0)] [] := by first | (simp [entryFrame, mkF, argsToLocals, Value.category]; done) | rfl
def Q_get_state (Z : State) (a : Addr) (w : Addr) (h0 : Heap) (n0 : Nat) (v_ : Option Value) (h_ : Heap) (L_ : List Loc) : Prop := v_ = some (.ref w) ∧ Fr n0 L_ ∧ h_ = h0
set_option maxRecDepth 65536 in
set_option maxHeartbeats 40000000 in
theorem rm_get_state (l : Launch) (Z : State) (a0 : Array Value) (hw : ∀ d ∈ tables_1, d.before a0 Z = true) (ws : List Jvm.Cond) (a : Addr) (w : Addr) (h0 : Heap) (n0 : Nat) (Z0 : n0 ≤ h0.size) (F_state_a : Fld Z h0 a "com/example/rolling_rung/rollingrung/schema/Field" "state" "Lcom/example/rolling_rung/rollingrung/schema/ElementState;" (.ref w)) :
    MetFree l (⟨"com/example/rolling_rung/rollingrung/schema/Field", "state", "()Lcom/example/rolling_rung/rollingrung/schema/ElementState;"⟩ : MethodName) (head1 (Jvm.Cond.code (⟨"com/example/rolling_rung/rollingrung/schema/Field", "state", "()Lcom/example/rolling_rung/rollingrung/schema/ElementState;"⟩ : MethodName) prog_32_method_12_code 1 (some (.object "com/example/rolling_rung/rollingrung/schema/ElementState")) :: ws) ({ frames := 0, cells := 0, slots := 0, locals := 0 } : Room)) (fun aa_ U_ => aa_ = #[(.ref a)] ∧ Z.Warmed39 U_.vm ∧ U_.heap = h0) (fun _ _ _ _ _ => True) (fun _ U_ o_ U'_ => ∃ v_ L_, o_ = .returned v_ ∧ Q_get_state Z a w h0 n0 v_ U'_.heap L_ ∧ FrameEnd U_ o_ U'_ L_ ({ frames := 0, cells := 0, slots := 0, locals := 0 } : Room).cells ({ frames := 0, cells := 0, slots := 0, locals := 0 } : Room).slots) := by
  refine MetFree.of_bodySF (plainFor_of_name pn_5) hisR ?_
  intro pP eE sS mM argsA below meth cC s₁ Bd hml0 hP hK
  obtain ⟨rfl, hZ, hh⟩ := hP
  have hx := Bd.exec
  have hby := Bd.bytes
  have hml : cC.maxLocals = 1 := hml0
  have hown : sS.vm.findClass "com/example/rolling_rung/rollingrung/schema/Field" = some mM.cls := findClass_of_methodNamed Bd.named
  have hnm := (name_of_methodNamed Bd.named Bd.method).1
  have X0 : Stand pP l eE ({ frames := 0, cells := 0, slots := 0, locals := 0 } : Room) sS mM #[(.ref a)] below meth cC s₁ [] 0 0 := Stand.of_body Bd
  have e0 : s₁.heap = h0 := by rw [← hh, Bd.state]; rfl
  have N0 := Fr.nil n0
  have pre0 : ∀ t_, Steps pP.tables eE below (s₁.setTop (mkF mM 0 #[.val (.ref a)] [])) t_ → Steps pP.tables eE below (s₁.setTop (entryFrame mM #[(.ref a)] 1)) t_ := fun t_ k_ => castTop (ef_get_state mM a) k_
  obtain ⟨T_1, X_1, e_1, st_1⟩ := getF X0 hx hZ hown (host := "") (Or.inl (ow hw 75 rfl)) Via.refl e0 F_state_a (g := (mkF mM 1 #[.val (.ref a)] [(.ref a)])) rfl rfl (hb hby d_prog_32m12_1)
  obtain ⟨fs, hr, hrun, hended, hW, hsame⟩ := X_1.leave (v := some (.ref w)) (fun h => by rw [Bd.returns] at h; cases h)
  refine ⟨_, _, pre0 _ ?_, hrun, hended, _, _, rfl, ?_, ⟨_, rfl⟩, hW, hsame.mono (by decide) (by decide)⟩
  · show oS pP eE below s₁ (mkF mM 0 #[.val (.ref a)] []) _
    refine XS.aloadN X0.here hx rfl (hb hby d_prog_32m12_0) rfl rfl ?_
    show oS pP eE below s₁ (mkF mM 1 #[.val (.ref a)] [(.ref a)]) _
    refine st_1 _ ?_
    show oS pP eE below T_1 (mkF mM 4 #[.val (.ref a)] [(.ref w)]) _
    exact retOut X_1 hx Bd.returns rfl (Or.inr (Or.inr (Or.inr (Or.inr ⟨rfl, rfl, rfl⟩)))) (hb hby d_prog_32m12_4) hr
  · show Q_get_state Z a w h0 n0 _ T_1.heap _
    rw [e_1]
    exact ⟨rfl, N0, rfl⟩
theorem d_prog_32m2_0 : decode prog_32_method_2_code 0 = .ok (.new 20, 3) := by decide +kernel
theorem d_prog_32m2_3 : decode prog_32_method_2_code 3 = .ok (.dup, 1) := by decide +kernel
theorem d_prog_32m2_4 : decode prog_32_method_2_code 4 = .ok (.aload_n 0, 1) := by decide +kernel
theorem d_prog_32m2_5 : decode prog_32_method_2_code 5 = .ok (.getfield 19, 3) := by decide +kernel
theorem d_prog_32m2_8 : decode prog_32_method_2_code 8 = .ok (.aload_n 0, 1) := by decide +kernel
theorem d_prog_32m2_9 : decode prog_32_method_2_code 9 = .ok (.getfield 24, 3) := by decide +kernel
theorem d_prog_32m2_12 : decode prog_32_method_2_code 12 = .ok (.aload_n 0, 1) := by decide +kernel
theorem d_prog_32m2_13 : decode prog_32_method_2_code 13 = .ok (.getfield 28, 3) := by decide +kernel
theorem d_prog_32m2_16 : decode prog_32_method_2_code 16 = .ok (.aload_n 0, 1) := by decide +kernel
theorem d_prog_32m2_17 : decode prog_32_method_2_code 17 = .ok (.getfield 31, 3) := by decide +kernel
theorem d_prog_32m2_20 : decode prog_32_method_2_code 20 = .ok (.aload_n 0, 1) := by decide +kernel
theorem d_prog_32m2_21 : decode prog_32_method_2_code 21 = .ok (.getfield 35, 3) := by decide +kernel
theorem d_prog_32m2_24 : decode prog_32_method_2_code 24 = .ok (.aload_n 1, 1) := by decide +kernel
theorem d_prog_32m2_25 : decode prog_32_method_2_code 25 = .ok (.invokespecial 41, 3) := by decide +kernel
theorem pd_6 : parseMethodDescriptor "(Ljava/lang/String;ILcom/example/rolling_rung/rollingrung/schema/FieldType;ZZLcom/example/rolling_rung/rollingrung/schema/ElementState;)V" = some ⟨[(.object "java/lang/String"), .int, (.object "com/example/rolling_rung/rollingrung/schema/FieldType"), .boolean, .boolean, (.object "com/example/rolling_rung/rollingrung/schema/ElementState")], none⟩ := by decide +kernel
abbrev MN6 : MethodName := ⟨"com/example/rolling_rung/rollingrung/schema/Field", "<init>", "(Ljava/lang/String;ILcom/example/rolling_rung/rollingrung/schema/FieldType;ZZLcom/example/rolling_rung/rollingrung/schema/ElementState;)V"⟩
theorem d_prog_32m2_28 : decode prog_32_method_2_code 28 = .ok (.areturn, 1) := by decide +kernel
theorem ef_wst (mM : MethodId) (x0 : Addr) (x1 : Addr) : entryFrame mM #[(.ref x0), (.ref x1)] 2 = mkF mM 0 #[.val (.ref x0), .val (.ref x1)] [] := by first | (simp [entryFrame, mkF, argsToLocals, Value.category]; done) | rfl
def Q_wst (Z : State) (a : Addr) (nm : Addr) (num : Int32) (ty : Addr) (rq : Int32) (rp : Int32) (stt : Addr) (s2 : Addr) (h0 : Heap) (n0 : Nat) (v_ : Option Value) (h_ : Heap) (L_ : List Loc) : Prop := ∃ g : Addr, v_ = some (.ref g) ∧ Fr n0 L_ ∧ Keep h0 h_ [] ∧ h0.size ≤ g ∧ Exa Z h_ g "com/example/rolling_rung/rollingrung/schema/Field" ∧ Fld Z h_ g "com/example/rolling_rung/rollingrung/schema/Field" "name" "Ljava/lang/String;" (.ref nm) ∧ Fld Z h_ g "com/example/rolling_rung/rollingrung/schema/Field" "number" "I" (.int num) ∧ Fld Z h_ g "com/example/rolling_rung/rollingrung/schema/Field" "type" "Lcom/example/rolling_rung/rollingrung/schema/FieldType;" (.ref ty) ∧ Fld Z h_ g "com/example/rolling_rung/rollingrung/schema/Field" "required" "Z" (.int (nar .boolean rq)) ∧ Fld Z h_ g "com/example/rolling_rung/rollingrung/schema/Field" "repeated" "Z" (.int (nar .boolean rp)) ∧ Fld Z h_ g "com/example/rolling_rung/rollingrung/schema/Field" "state" "Lcom/example/rolling_rung/rollingrung/schema/ElementState;" (.ref s2)
set_option maxRecDepth 65536 in
set_option maxHeartbeats 40000000 in
theorem rm_wst (l : Launch) (Z : State) (a0 : Array Value) (hw : ∀ d ∈ tables_1, d.before a0 Z = true) (ws : List Jvm.Cond) (a : Addr) (nm : Addr) (num : Int32) (ty : Addr) (rq : Int32) (rp : Int32) (stt : Addr) (s2 : Addr) (h0 : Heap) (n0 : Nat) (Z0 : n0 ≤ h0.size) (F_name_a : Fld Z h0 a "com/example/rolling_rung/rollingrung/schema/Field" "name" "Ljava/lang/String;" (.ref nm)) (F_number_a : Fld Z h0 a "com/example/rolling_rung/rollingrung/schema/Field" "number" "I" (.int num)) (F_type_a : Fld Z h0 a "com/example/rolling_rung/rollingrung/schema/Field" "type" "Lcom/example/rolling_rung/rollingrung/schema/FieldType;" (.ref ty)) (F_required_a : Fld Z h0 a "com/example/rolling_rung/rollingrung/schema/Field" "required" "Z" (.int rq)) (F_repeated_a : Fld Z h0 a "com/example/rolling_rung/rollingrung/schema/Field" "repeated" "Z" (.int rp)) (F_state_a : Fld Z h0 a "com/example/rolling_rung/rollingrung/schema/Field" "state" "Lcom/example/rolling_rung/rollingrung/schema/ElementState;" (.ref stt)) (E_a : Exa Z h0 a "com/example/rolling_rung/rollingrung/schema/Field") :
    MetFree l (⟨"com/example/rolling_rung/rollingrung/schema/Field", "withState", "(Lcom/example/rolling_rung/rollingrung/schema/ElementState;)Lcom/example/rolling_rung/rollingrung/schema/Field;"⟩ : MethodName) (head1 (Jvm.Cond.code (⟨"com/example/rolling_rung/rollingrung/schema/Field", "withState", "(Lcom/example/rolling_rung/rollingrung/schema/ElementState;)Lcom/example/rolling_rung/rollingrung/schema/Field;"⟩ : MethodName) prog_32_method_2_code 2 (some (.object "com/example/rolling_rung/rollingrung/schema/Field")) :: ws) ({ frames := 3, cells := 7, slots := 70, locals := 43 } : Room)) (fun aa_ U_ => aa_ = #[(.ref a), (.ref s2)] ∧ Z.Warmed39 U_.vm ∧ U_.heap = h0) (fun _ _ _ _ _ => True) (fun _ U_ o_ U'_ => ∃ v_ L_, o_ = .returned v_ ∧ Q_wst Z a nm num ty rq rp stt s2 h0 n0 v_ U'_.heap L_ ∧ ReturnedEndW U_ o_ U'_ L_ ({ frames := 3, cells := 7, slots := 70, locals := 43 } : Room).cells ({ frames := 3, cells := 7, slots := 70, locals := 43 } : Room).slots) := by
  refine MetFree.of_bodySF (plainFor_of_name pn_5) hisR ?_
  intro pP eE sS mM argsA below meth cC s₁ Bd hml0 hP hK
  obtain ⟨rfl, hZ, hh⟩ := hP
  have hx := Bd.exec
  have hby := Bd.bytes
  have hml : cC.maxLocals = 2 := hml0
  have hown : sS.vm.findClass "com/example/rolling_rung/rollingrung/schema/Field" = some mM.cls := findClass_of_methodNamed Bd.named
  have hnm := (name_of_methodNamed Bd.named Bd.method).1
  have X0 : Stand pP l eE ({ frames := 3, cells := 7, slots := 70, locals := 43 } : Room) (sS.setVm sS.vm) mM #[(.ref a), (.ref s2)] below meth cC s₁ [] 0 0 := Stand.of_body Bd
  have e0 : s₁.heap = h0 := by rw [← hh, Bd.state]; rfl
  have N0 := Fr.nil n0
  have pre0 : ∀ t_, Steps pP.tables eE below (s₁.setTop (mkF mM 0 #[.val (.ref a), .val (.ref s2)] [])) t_ → Steps pP.tables eE below (s₁.setTop (entryFrame mM #[(.ref a), (.ref s2)] 2)) t_ := fun t_ k_ => castTop (ef_wst mM a s2) k_
  have hZ : Z.Warmed39 (sS.setVm sS.vm).vm := hZ
  have hown : (sS.setVm sS.vm).vm.findClass "com/example/rolling_rung/rollingrung/schema/Field" = some mM.cls := hown
  have hS0 : sS.Since sS.vm 0 := (State.WarmedH.refl sS).since 0
  have hk0 : 0 ≤ h0.size := Nat.zero_le _
  obtain ⟨T_1, h_1, X_1, e_1, E_1, A_1, D_1, -, st_1⟩ := newO X0 hx hZ hown (ow hw 82 rfl) (ow hw 45 rfl) (ow hw 46 rfl) e0 (g := (mkF mM 0 #[.val (.ref a), .val (.ref s2)] [])) rfl (hb hby d_prog_32m2_0) (by decide) (by decide)
  obtain ⟨b_1, g_1⟩ : ∃ z, z = h0.size := ⟨_, rfl⟩
  rw [← g_1] at A_1 D_1 st_1
  have g_b_1 : n0 ≤ b_1 := Nat.le_trans Z0 (Nat.le_of_eq g_1.symm)
  have sz_b_1 : h0.size ≤ b_1 := Nat.le_trans (Keep.refl h0 []).1 (Nat.le_of_eq g_1.symm)
  have Z_1 : n0 ≤ h_1.size := (Nat.le_trans Z0 E_1.1)
  have K_1 : Keep h0 h_1 [] := (Keep.refl h0 []).ext E_1
  have hk_1 : _ ≤ h_1.size := Nat.le_trans hk0 E_1.1
  have F_name_b_1__1 : Fld Z h_1 b_1 "com/example/rolling_rung/rollingrung/schema/Field" "name" "Ljava/lang/String;" .null := D_1 (Or.inr (ow hw 66 rfl)) (ty := (.object "java/lang/String")) (by decide)
  have F_number_b_1__1 : Fld Z h_1 b_1 "com/example/rolling_rung/rollingrung/schema/Field" "number" "I" (.int (0 : Int32)) := D_1 (Or.inr (ow hw 68 rfl)) (ty := .int) (by decide)
  have F_type_b_1__1 : Fld Z h_1 b_1 "com/example/rolling_rung/rollingrung/schema/Field" "type" "Lcom/example/rolling_rung/rollingrung/schema/FieldType;" .null := D_1 (Or.inr (ow hw 70 rfl)) (ty := (.object "com/example/rolling_rung/rollingrung/schema/FieldType")) (by decide)
  have F_required_b_1__1 : Fld Z h_1 b_1 "com/example/rolling_rung/rollingrung/schema/Field" "required" "Z" (.int (0 : Int32)) := D_1 (Or.inr (ow hw 72 rfl)) (ty := .boolean) (by decide)
  have F_repeated_b_1__1 : Fld Z h_1 b_1 "com/example/rolling_rung/rollingrung/schema/Field" "repeated" "Z" (.int (0 : Int32)) := D_1 (Or.inr (ow hw 74 rfl)) (ty := .boolean) (by decide)
  have F_state_b_1__1 : Fld Z h_1 b_1 "com/example/rolling_rung/rollingrung/schema/Field" "state" "Lcom/example/rolling_rung/rollingrung/schema/ElementState;" .null := D_1 (Or.inr (ow hw 76 rfl)) (ty := (.object "com/example/rolling_rung/rollingrung/schema/ElementState")) (by decide)
  obtain ⟨T_2, X_2, e_2, st_2⟩ := getF X_1 hx hZ hown (host := "") (Or.inl (ow hw 65 rfl)) Via.refl e_1 (F_name_a.ext E_1) (g := (mkF mM 5 #[.val (.ref a), .val (.ref s2)] [(.ref a), (.ref b_1), (.ref b_1)])) rfl rfl (hb hby d_prog_32m2_5)
  obtain ⟨T_3, X_3, e_3, st_3⟩ := getF X_2 hx hZ hown (host := "") (Or.inl (ow hw 67 rfl)) Via.refl e_2 (F_number_a.ext E_1) (g := (mkF mM 9 #[.val (.ref a), .val (.ref s2)] [(.ref a), (.ref nm), (.ref b_1), (.ref b_1)])) rfl rfl (hb hby d_prog_32m2_9)
  obtain ⟨T_4, X_4, e_4, st_4⟩ := getF X_3 hx hZ hown (host := "") (Or.inl (ow hw 69 rfl)) Via.refl e_3 (F_type_a.ext E_1) (g := (mkF mM 13 #[.val (.ref a), .val (.ref s2)] [(.ref a), (.int num), (.ref nm), (.ref b_1), (.ref b_1)])) rfl rfl (hb hby d_prog_32m2_13)
  obtain ⟨T_5, X_5, e_5, st_5⟩ := getF X_4 hx hZ hown (host := "") (Or.inl (ow hw 71 rfl)) Via.refl e_4 (F_required_a.ext E_1) (g := (mkF mM 17 #[.val (.ref a), .val (.ref s2)] [(.ref a), (.ref ty), (.int num), (.ref nm), (.ref b_1), (.ref b_1)])) rfl rfl (hb hby d_prog_32m2_17)
  obtain ⟨T_6, X_6, e_6, st_6⟩ := getF X_5 hx hZ hown (host := "") (Or.inl (ow hw 73 rfl)) Via.refl e_5 (F_repeated_a.ext E_1) (g := (mkF mM 21 #[.val (.ref a), .val (.ref s2)] [(.ref a), (.int rq), (.ref ty), (.int num), (.ref nm), (.ref b_1), (.ref b_1)])) rfl rfl (hb hby d_prog_32m2_21)
  obtain ⟨_, _, ⟨T_7, L_7, k_7, n_7⟩, -, Xc_7, hSc_7, hgr_7, ⟨Lc_7, hQ_7, l_7, y_7, z_7⟩, st_7⟩ := X_6.specialBackS hx (y := MN6) rfl hown (mvT hZ (ow hw 83 rfl)) (mvT hZ (ow hw 48 rfl)) (mvT hZ (ow hw 49 rfl)) (by decide) (backOfS (W := 1) (rm_fini l Z a0 hw [] b_1 nm num ty rq rp s2 h_1 n0 Z_1 F_name_b_1__1 F_number_b_1__1 F_type_b_1__1 F_required_b_1__1 F_repeated_b_1__1 F_state_b_1__1 A_1 g_b_1) hZ (ow hw 49 rfl) (ow hw 46 rfl) (by decide) (by decide)) (g := (mkF mM 25 #[.val (.ref a), .val (.ref s2)] [(.ref s2), (.int rp), (.int rq), (.ref ty), (.int num), (.ref nm), (.ref b_1), (.ref b_1)])) rfl (by rw [hml]; rfl) (Steps.refl _) (a := b_1) (argsL := [(.ref nm), (.int num), (.ref ty), (.int rq), (.int rp), (.ref s2)]) (rest := [(.ref b_1)]) (lenOf pd_6 rfl) rfl (by show 2 * 0 + _ ≤ _; exact Nat.le_of_eq rfl) (hb hby d_prog_32m2_25) (fun _ _ => ⟨rfl, e_6, (by decide : 1 + 6 ≤ _), (by decide : 6 + 64 ≤ _)⟩)
  dsimp only [Pt.U, Pt.locs, Pt.cells, Pt.slots] at Xc_7 hSc_7 hgr_7 l_7 y_7 z_7 st_7 hQ_7
  subst l_7 y_7 z_7
  obtain ⟨X_7, hS_7, hZ_7, hown_7⟩ := rebS hS0 (show _ ≤ T_6.heap.size by rw [e_6]; exact hk_1) Xc_7 hSc_7 hgr_7 hZ hown
  obtain ⟨rfl, N_7q, Kc_7, pfF_name_a_7, pfF_number_a_7, pfF_type_a_7, pfF_required_a_7, pfF_repeated_a_7, pfF_state_a_7, pfE_a_7⟩ := hQ_7
  have Z_7 : n0 ≤ T_7.heap.size := (Nat.le_trans Z_1 Kc_7.1)
  have K_7 : Keep h0 T_7.heap [] := K_1.trans Kc_7 (allS (Or.inr sz_b_1) all0)
  have hk_7 : _ ≤ T_7.heap.size := Nat.le_refl _
  have N_7 := Fr.app N0 N_7q
  obtain ⟨fs, hr, hrun, hended, hRE⟩ := X_7.leaveW hS_7 hk_7 (v := some (.ref b_1)) (fun h => by rw [Bd.returns] at h; cases h)
  refine ⟨_, _, pre0 _ ?_, hrun, hended, _, _, rfl, ?_, ⟨_, rfl⟩, hRE.2.1, hRE.2.2.1, hRE.2.2.2.mono (by decide) (by decide)⟩
  · show oS pP eE below s₁ (mkF mM 0 #[.val (.ref a), .val (.ref s2)] []) _
    refine st_1 _ ?_
    show oS pP eE below T_1 (mkF mM 3 #[.val (.ref a), .val (.ref s2)] [(.ref b_1)]) _
    refine XS.dup X_1.here hx rfl (hb hby d_prog_32m2_3) rfl rfl ?_
    refine XS.aloadN X_1.here hx rfl (hb hby d_prog_32m2_4) rfl rfl ?_
    show oS pP eE below T_1 (mkF mM 5 #[.val (.ref a), .val (.ref s2)] [(.ref a), (.ref b_1), (.ref b_1)]) _
    refine st_2 _ ?_
    show oS pP eE below T_2 (mkF mM 8 #[.val (.ref a), .val (.ref s2)] [(.ref nm), (.ref b_1), (.ref b_1)]) _
    refine XS.aloadN X_2.here hx rfl (hb hby d_prog_32m2_8) rfl rfl ?_
    show oS pP eE below T_2 (mkF mM 9 #[.val (.ref a), .val (.ref s2)] [(.ref a), (.ref nm), (.ref b_1), (.ref b_1)]) _
    refine st_3 _ ?_
    show oS pP eE below T_3 (mkF mM 12 #[.val (.ref a), .val (.ref s2)] [(.int num), (.ref nm), (.ref b_1), (.ref b_1)]) _
    refine XS.aloadN X_3.here hx rfl (hb hby d_prog_32m2_12) rfl rfl ?_
    show oS pP eE below T_3 (mkF mM 13 #[.val (.ref a), .val (.ref s2)] [(.ref a), (.int num), (.ref nm), (.ref b_1), (.ref b_1)]) _
    refine st_4 _ ?_
    show oS pP eE below T_4 (mkF mM 16 #[.val (.ref a), .val (.ref s2)] [(.ref ty), (.int num), (.ref nm), (.ref b_1), (.ref b_1)]) _
    refine XS.aloadN X_4.here hx rfl (hb hby d_prog_32m2_16) rfl rfl ?_
    show oS pP eE below T_4 (mkF mM 17 #[.val (.ref a), .val (.ref s2)] [(.ref a), (.ref ty), (.int num), (.ref nm), (.ref b_1), (.ref b_1)]) _
    refine st_5 _ ?_
    show oS pP eE below T_5 (mkF mM 20 #[.val (.ref a), .val (.ref s2)] [(.int rq), (.ref ty), (.int num), (.ref nm), (.ref b_1), (.ref b_1)]) _
    refine XS.aloadN X_5.here hx rfl (hb hby d_prog_32m2_20) rfl rfl ?_
    show oS pP eE below T_5 (mkF mM 21 #[.val (.ref a), .val (.ref s2)] [(.ref a), (.int rq), (.ref ty), (.int num), (.ref nm), (.ref b_1), (.ref b_1)]) _
    refine st_6 _ ?_
    show oS pP eE below T_6 (mkF mM 24 #[.val (.ref a), .val (.ref s2)] [(.int rp), (.int rq), (.ref ty), (.int num), (.ref nm), (.ref b_1), (.ref b_1)]) _
    refine XS.aloadN X_6.here hx rfl (hb hby d_prog_32m2_24) rfl rfl ?_
    show oS pP eE below T_6 (mkF mM 25 #[.val (.ref a), .val (.ref s2)] [(.ref s2), (.int rp), (.int rq), (.ref ty), (.int num), (.ref nm), (.ref b_1), (.ref b_1)]) _
    refine st_7.trans ?_
    show oS pP eE below T_7 (mkF mM 28 #[.val (.ref a), .val (.ref s2)] [(.ref b_1)]) _
    exact retOut X_7 hx Bd.returns rfl (Or.inr (Or.inr (Or.inr (Or.inr ⟨rfl, rfl, rfl⟩)))) (hb hby d_prog_32m2_28) hr
  · show Q_wst Z a nm num ty rq rp stt s2 h0 n0 _ T_7.heap _
    exact ⟨b_1, rfl, N_7, K_7, sz_b_1, pfE_a_7, pfF_name_a_7, pfF_number_a_7, pfF_type_a_7, pfF_required_a_7, pfF_repeated_a_7, pfF_state_a_7⟩
theorem d_jdk_42m66_0 : decode jdk_42_method_66_code 0 = .ok (.aload_n 0, 1) := by decide +kernel
theorem d_jdk_42m66_1 : decode jdk_42_method_66_code 1 = .ok (.aload_n 1, 1) := by decide +kernel
theorem d_jdk_42m66_2 : decode jdk_42_method_66_code 2 = .ok (.if_acmp .ne 5, 3) := by decide +kernel
theorem d_jdk_42m66_5 : decode jdk_42_method_66_code 5 = .ok (.iconst 1, 1) := by decide +kernel
theorem d_jdk_42m66_6 : decode jdk_42_method_66_code 6 = .ok (.ireturn, 1) := by decide +kernel
theorem ef_seq (mM : MethodId) (x0 : Addr) (x1 : Addr) : entryFrame mM #[(.ref x0), (.ref x1)] 3 = mkF mM 0 #[.val (.ref x0), .val (.ref x1), .unset] [] := by first | (simp [entryFrame, mkF, argsToLocals, Value.category]; done) | rfl
def Q_seq (Z : State) (a : Addr) (h0 : Heap) (n0 : Nat) (v_ : Option Value) (h_ : Heap) (L_ : List Loc) : Prop := v_ = some (.int (1 : Int32)) ∧ Fr n0 L_ ∧ h_ = h0
set_option maxRecDepth 65536 in
set_option maxHeartbeats 40000000 in
theorem rm_seq (l : Launch) (Z : State) (a0 : Array Value) (hw : ∀ d ∈ tables_1, d.before a0 Z = true) (ws : List Jvm.Cond) (a : Addr) (h0 : Heap) (n0 : Nat) (Z0 : n0 ≤ h0.size) :
    MetFree l (⟨"java/lang/String", "equals", "(Ljava/lang/Object;)Z"⟩ : MethodName) (head1 (Jvm.Cond.code (⟨"java/lang/String", "equals", "(Ljava/lang/Object;)Z"⟩ : MethodName) jdk_42_method_66_code 3 (some .boolean) :: ws) ({ frames := 0, cells := 0, slots := 0, locals := 0 } : Room)) (fun aa_ U_ => aa_ = #[(.ref a), (.ref a)] ∧ Z.Warmed39 U_.vm ∧ U_.heap = h0) (fun _ _ _ _ _ => True) (fun _ U_ o_ U'_ => ∃ v_ L_, o_ = .returned v_ ∧ Q_seq Z a h0 n0 v_ U'_.heap L_ ∧ FrameEnd U_ o_ U'_ L_ ({ frames := 0, cells := 0, slots := 0, locals := 0 } : Room).cells ({ frames := 0, cells := 0, slots := 0, locals := 0 } : Room).slots) := by
  refine MetFree.of_bodySF (plainFor_of_name pn_1) hisR ?_
  intro pP eE sS mM argsA below meth cC s₁ Bd hml0 hP hK
  obtain ⟨rfl, hZ, hh⟩ := hP
  have hx := Bd.exec
  have hby := Bd.bytes
  have hml : cC.maxLocals = 3 := hml0
  have hown : sS.vm.findClass "java/lang/String" = some mM.cls := findClass_of_methodNamed Bd.named
  have hnm := (name_of_methodNamed Bd.named Bd.method).1
  have X0 : Stand pP l eE ({ frames := 0, cells := 0, slots := 0, locals := 0 } : Room) sS mM #[(.ref a), (.ref a)] below meth cC s₁ [] 0 0 := Stand.of_body Bd
  have e0 : s₁.heap = h0 := by rw [← hh, Bd.state]; rfl
  have N0 := Fr.nil n0
  have pre0 : ∀ t_, Steps pP.tables eE below (s₁.setTop (mkF mM 0 #[.val (.ref a), .val (.ref a), .unset] [])) t_ → Steps pP.tables eE below (s₁.setTop (entryFrame mM #[(.ref a), (.ref a)] 3)) t_ := fun t_ k_ => castTop (ef_seq mM a a) k_
  obtain ⟨fs, hr, hrun, hended, hW, hsame⟩ := X0.leave (v := some (.int (1 : Int32))) (fun h => by rw [Bd.returns] at h; cases h)
  refine ⟨_, _, pre0 _ ?_, hrun, hended, _, _, rfl, ?_, ⟨_, rfl⟩, hW, hsame.mono (by decide) (by decide)⟩
  · show oS pP eE below s₁ (mkF mM 0 #[.val (.ref a), .val (.ref a), .unset] []) _
    refine XS.aloadN X0.here hx rfl (hb hby d_jdk_42m66_0) rfl rfl ?_
    refine XS.aloadN X0.here hx rfl (hb hby d_jdk_42m66_1) rfl rfl ?_
    show oS pP eE below s₁ (mkF mM 2 #[.val (.ref a), .val (.ref a), .unset] [(.ref a), (.ref a)]) _
    refine Jvm.RoadKit.acmp (g := (mkF mM 2 #[.val (.ref a), .val (.ref a), .unset] [(.ref a), (.ref a)])) X0 hx rfl rfl rfl (pc0 := 2) (pc' := 5) (same := true) rfl (hb hby d_jdk_42m66_2) rfl (decide_eq_true rfl) (by decide) (by decide) ?_
    refine XS.iconst X0.here hx rfl (hb hby d_jdk_42m66_5) ?_
    show oS pP eE below s₁ (mkF mM 6 #[.val (.ref a), .val (.ref a), .unset] [(.int (1 : Int32))]) _
    exact retN X0 hx (t := .boolean) Bd.returns (by simp) (hb hby d_jdk_42m66_6) hr
  · show Q_seq Z a h0 n0 _ s₁.heap _
    rw [e0]
    exact ⟨rfl, N0, rfl⟩
abbrev lc21 (p1 : Int32) (p2 : Int32) (p3 : Int32) (p4 : Int32) (p5 : Int32) : Array Slot := #[.val (.int p1), .val (.int p2), .val (.int p3), .val (.int p4), .val (.int p5), .unset, .unset, .unset, .unset, .unset, .unset, .unset, .unset, .unset]
abbrev lc22 (p1 : Int32) (p2 : Int32) (p3 : Int32) (p4 : Int32) (p5 : Int32) (b_1 : Addr) : Array Slot := #[.val (.int p1), .val (.int p2), .val (.int p3), .val (.int p4), .val (.int p5), .val (.ref b_1), .unset, .unset, .unset, .unset, .unset, .unset, .unset, .unset]
theorem pd_7 : parseMethodDescriptor "([C)V" = some ⟨[(.array .char)], none⟩ := by decide +kernel
abbrev MN7 : MethodName := ⟨"java/lang/String", "<init>", "([C)V"⟩
abbrev lc23 (p1 : Int32) (p2 : Int32) (p3 : Int32) (p4 : Int32) (p5 : Int32) (b_1 : Addr) (b_4 : Addr) : Array Slot := #[.val (.int p1), .val (.int p2), .val (.int p3), .val (.int p4), .val (.int p5), .val (.ref b_1), .val (.ref b_4), .unset, .unset, .unset, .unset, .unset, .unset, .unset]
theorem pd_8 : parseMethodDescriptor "(I)Lcom/example/rolling_rung/rollingrung/schema/FieldType;" = some ⟨[.int], some (.object "com/example/rolling_rung/rollingrung/schema/FieldType")⟩ := by decide +kernel
abbrev MN8 : MethodName := ⟨"com/example/rolling_rung/rollingrung/schema/FieldWithStatePinLaw", "typeOf", "(I)Lcom/example/rolling_rung/rollingrung/schema/FieldType;"⟩
abbrev lc24 (p1 : Int32) (p2 : Int32) (p3 : Int32) (p4 : Int32) (p5 : Int32) (b_1 : Addr) (b_4 : Addr) (t0 : Addr) (t1 : Addr) (t2 : Addr) (t3 : Addr) (t4 : Addr) (t5 : Addr) (t6 : Addr) (t7 : Addr) (t8 : Addr) : Array Slot := #[.val (.int p1), .val (.int p2), .val (.int p3), .val (.int p4), .val (.int p5), .val (.ref b_1), .val (.ref b_4), .val (.ref (own_ty ((p3 &&& (2147483647 : Int32)) % (9 : Int32)) t0 t1 t2 t3 t4 t5 t6 t7 t8)), .unset, .unset, .unset, .unset, .unset, .unset]
abbrev lc25 (p1 : Int32) (p2 : Int32) (p3 : Int32) (p4 : Int32) (p5 : Int32) (b_1 : Addr) (b_4 : Addr) (t0 : Addr) (t1 : Addr) (t2 : Addr) (t3 : Addr) (t4 : Addr) (t5 : Addr) (t6 : Addr) (t7 : Addr) (t8 : Addr) : Array Slot := #[.val (.int p1), .val (.int p2), .val (.int p3), .val (.int p4), .val (.int p5), .val (.ref b_1), .val (.ref b_4), .val (.ref (own_ty ((p3 &&& (2147483647 : Int32)) % (9 : Int32)) t0 t1 t2 t3 t4 t5 t6 t7 t8)), .val (.int (own_nz (p4 &&& (1 : Int32)))), .unset, .unset, .unset, .unset, .unset]
abbrev lc26 (p1 : Int32) (p2 : Int32) (p3 : Int32) (p4 : Int32) (p5 : Int32) (b_1 : Addr) (b_4 : Addr) (t0 : Addr) (t1 : Addr) (t2 : Addr) (t3 : Addr) (t4 : Addr) (t5 : Addr) (t6 : Addr) (t7 : Addr) (t8 : Addr) : Array Slot := #[.val (.int p1), .val (.int p2), .val (.int p3), .val (.int p4), .val (.int p5), .val (.ref b_1), .val (.ref b_4), .val (.ref (own_ty ((p3 &&& (2147483647 : Int32)) % (9 : Int32)) t0 t1 t2 t3 t4 t5 t6 t7 t8)), .val (.int (own_nz (p4 &&& (1 : Int32)))), .val (.int (own_nz (p4 &&& (2 : Int32)))), .unset, .unset, .unset, .unset]
theorem pd_9 : parseMethodDescriptor "(I)Lcom/example/rolling_rung/rollingrung/schema/ElementState;" = some ⟨[.int], some (.object "com/example/rolling_rung/rollingrung/schema/ElementState")⟩ := by decide +kernel
abbrev MN9 : MethodName := ⟨"com/example/rolling_rung/rollingrung/schema/FieldWithStatePinLaw", "stateOf", "(I)Lcom/example/rolling_rung/rollingrung/schema/ElementState;"⟩
abbrev lc27 (p1 : Int32) (p2 : Int32) (p3 : Int32) (p4 : Int32) (p5 : Int32) (b_1 : Addr) (b_4 : Addr) (t0 : Addr) (t1 : Addr) (t2 : Addr) (t3 : Addr) (t4 : Addr) (t5 : Addr) (t6 : Addr) (t7 : Addr) (t8 : Addr) (es0 : Addr) (es1 : Addr) (es2 : Addr) (es3 : Addr) : Array Slot := #[.val (.int p1), .val (.int p2), .val (.int p3), .val (.int p4), .val (.int p5), .val (.ref b_1), .val (.ref b_4), .val (.ref (own_ty ((p3 &&& (2147483647 : Int32)) % (9 : Int32)) t0 t1 t2 t3 t4 t5 t6 t7 t8)), .val (.int (own_nz (p4 &&& (1 : Int32)))), .val (.int (own_nz (p4 &&& (2 : Int32)))), .val (.ref (own_st (p5 &&& (3 : Int32)) es0 es1 es2 es3)), .unset, .unset, .unset]
abbrev lc28 (p1 : Int32) (p2 : Int32) (p3 : Int32) (p4 : Int32) (p5 : Int32) (b_1 : Addr) (b_4 : Addr) (t0 : Addr) (t1 : Addr) (t2 : Addr) (t3 : Addr) (t4 : Addr) (t5 : Addr) (t6 : Addr) (t7 : Addr) (t8 : Addr) (es0 : Addr) (es1 : Addr) (es2 : Addr) (es3 : Addr) : Array Slot := #[.val (.int p1), .val (.int p2), .val (.int p3), .val (.int p4), .val (.int p5), .val (.ref b_1), .val (.ref b_4), .val (.ref (own_ty ((p3 &&& (2147483647 : Int32)) % (9 : Int32)) t0 t1 t2 t3 t4 t5 t6 t7 t8)), .val (.int (own_nz (p4 &&& (1 : Int32)))), .val (.int (own_nz (p4 &&& (2 : Int32)))), .val (.ref (own_st (p5 &&& (3 : Int32)) es0 es1 es2 es3)), .val (.ref (own_st ((XT.ushr p5 (2 : Int32)) &&& (3 : Int32)) es0 es1 es2 es3)), .unset, .unset]
abbrev lc29 (p1 : Int32) (p2 : Int32) (p3 : Int32) (p4 : Int32) (p5 : Int32) (b_1 : Addr) (b_4 : Addr) (t0 : Addr) (t1 : Addr) (t2 : Addr) (t3 : Addr) (t4 : Addr) (t5 : Addr) (t6 : Addr) (t7 : Addr) (t8 : Addr) (es0 : Addr) (es1 : Addr) (es2 : Addr) (es3 : Addr) (b_11 : Addr) : Array Slot := #[.val (.int p1), .val (.int p2), .val (.int p3), .val (.int p4), .val (.int p5), .val (.ref b_1), .val (.ref b_4), .val (.ref (own_ty ((p3 &&& (2147483647 : Int32)) % (9 : Int32)) t0 t1 t2 t3 t4 t5 t6 t7 t8)), .val (.int (own_nz (p4 &&& (1 : Int32)))), .val (.int (own_nz (p4 &&& (2 : Int32)))), .val (.ref (own_st (p5 &&& (3 : Int32)) es0 es1 es2 es3)), .val (.ref (own_st ((XT.ushr p5 (2 : Int32)) &&& (3 : Int32)) es0 es1 es2 es3)), .val (.ref b_11), .unset]
theorem pd_10 : parseMethodDescriptor "(Lcom/example/rolling_rung/rollingrung/schema/ElementState;)Lcom/example/rolling_rung/rollingrung/schema/Field;" = some ⟨[(.object "com/example/rolling_rung/rollingrung/schema/ElementState")], some (.object "com/example/rolling_rung/rollingrung/schema/Field")⟩ := by decide +kernel
abbrev MN10 : MethodName := ⟨"com/example/rolling_rung/rollingrung/schema/Field", "withState", "(Lcom/example/rolling_rung/rollingrung/schema/ElementState;)Lcom/example/rolling_rung/rollingrung/schema/Field;"⟩
abbrev lc30 (p1 : Int32) (p2 : Int32) (p3 : Int32) (p4 : Int32) (p5 : Int32) (b_1 : Addr) (b_4 : Addr) (t0 : Addr) (t1 : Addr) (t2 : Addr) (t3 : Addr) (t4 : Addr) (t5 : Addr) (t6 : Addr) (t7 : Addr) (t8 : Addr) (es0 : Addr) (es1 : Addr) (es2 : Addr) (es3 : Addr) (b_11 : Addr) (g__13 : Addr) : Array Slot := #[.val (.int p1), .val (.int p2), .val (.int p3), .val (.int p4), .val (.int p5), .val (.ref b_1), .val (.ref b_4), .val (.ref (own_ty ((p3 &&& (2147483647 : Int32)) % (9 : Int32)) t0 t1 t2 t3 t4 t5 t6 t7 t8)), .val (.int (own_nz (p4 &&& (1 : Int32)))), .val (.int (own_nz (p4 &&& (2 : Int32)))), .val (.ref (own_st (p5 &&& (3 : Int32)) es0 es1 es2 es3)), .val (.ref (own_st ((XT.ushr p5 (2 : Int32)) &&& (3 : Int32)) es0 es1 es2 es3)), .val (.ref b_11), .val (.ref g__13)]
theorem pd_11 : parseMethodDescriptor "()Ljava/lang/String;" = some ⟨[], some (.object "java/lang/String")⟩ := by decide +kernel
abbrev MN11 : MethodName := ⟨"com/example/rolling_rung/rollingrung/schema/Field", "name", "()Ljava/lang/String;"⟩
theorem pd_12 : parseMethodDescriptor "(Ljava/lang/Object;)Z" = some ⟨[(.object "java/lang/Object")], some .boolean⟩ := by decide +kernel
abbrev MN12 : MethodName := ⟨"java/lang/String", "equals", "(Ljava/lang/Object;)Z"⟩
theorem pd_13 : parseMethodDescriptor "()I" = some ⟨[], some .int⟩ := by decide +kernel
abbrev MN13 : MethodName := ⟨"com/example/rolling_rung/rollingrung/schema/Field", "number", "()I"⟩
theorem pd_14 : parseMethodDescriptor "()Lcom/example/rolling_rung/rollingrung/schema/FieldType;" = some ⟨[], some (.object "com/example/rolling_rung/rollingrung/schema/FieldType")⟩ := by decide +kernel
abbrev MN14 : MethodName := ⟨"com/example/rolling_rung/rollingrung/schema/Field", "type", "()Lcom/example/rolling_rung/rollingrung/schema/FieldType;"⟩
theorem pd_15 : parseMethodDescriptor "()Z" = some ⟨[], some .boolean⟩ := by decide +kernel
abbrev MN15 : MethodName := ⟨"com/example/rolling_rung/rollingrung/schema/Field", "required", "()Z"⟩
abbrev MN16 : MethodName := ⟨"com/example/rolling_rung/rollingrung/schema/Field", "repeated", "()Z"⟩
theorem pd_16 : parseMethodDescriptor "()Lcom/example/rolling_rung/rollingrung/schema/ElementState;" = some ⟨[], some (.object "com/example/rolling_rung/rollingrung/schema/ElementState")⟩ := by decide +kernel
abbrev MN17 : MethodName := ⟨"com/example/rolling_rung/rollingrung/schema/Field", "state", "()Lcom/example/rolling_rung/rollingrung/schema/ElementState;"⟩
theorem ef_law (mM : MethodId) (x0 : Int32) (x1 : Int32) (x2 : Int32) (x3 : Int32) (x4 : Int32) : entryFrame mM #[(.int x0), (.int x1), (.int x2), (.int x3), (.int x4)] maxLocals = mkF mM 0 #[.val (.int x0), .val (.int x1), .val (.int x2), .val (.int x3), .val (.int x4), .unset, .unset, .unset, .unset, .unset, .unset, .unset, .unset, .unset] [] := by first | (simp [entryFrame, mkF, argsToLocals, Value.category, maxLocals]; done) | rfl
def Q_law (Z : State) (p1 : Int32) (p2 : Int32) (p3 : Int32) (p4 : Int32) (p5 : Int32) (cs : Int32) (t0 : Addr) (t1 : Addr) (t2 : Addr) (t3 : Addr) (t4 : Addr) (t5 : Addr) (t6 : Addr) (t7 : Addr) (t8 : Addr) (es0 : Addr) (es1 : Addr) (es2 : Addr) (es3 : Addr) (h0 : Heap) (n0 : Nat) (v_ : Option Value) (h_ : Heap) (L_ : List Loc) : Prop := v_ = some (.int (1 : Int32)) ∧ Fr n0 L_
set_option maxRecDepth 65536 in
set_option maxHeartbeats 40000000 in
theorem rm_law (l : Launch) (Z : State) (a0 : Array Value) (hw : ∀ d ∈ tables_1, d.before a0 Z = true) (ws : List Jvm.Cond) (p1 : Int32) (p2 : Int32) (p3 : Int32) (p4 : Int32) (p5 : Int32) (cs : Int32) (t0 : Addr) (t1 : Addr) (t2 : Addr) (t3 : Addr) (t4 : Addr) (t5 : Addr) (t6 : Addr) (t7 : Addr) (t8 : Addr) (es0 : Addr) (es1 : Addr) (es2 : Addr) (es3 : Addr) (h0 : Heap) (n0 : Nat) (Z0 : n0 ≤ h0.size) (S_String_COMPACT_STRINGS : Sta Z h0 "java/lang/String" "COMPACT_STRINGS" "Z" (.int cs)) (hcs : ¬ cs = 0) (S_FieldType_STRING : Sta Z h0 "com/example/rolling_rung/rollingrung/schema/FieldType" "STRING" "Lcom/example/rolling_rung/rollingrung/schema/FieldType;" (.ref t0)) (S_FieldType_BYTES : Sta Z h0 "com/example/rolling_rung/rollingrung/schema/FieldType" "BYTES" "Lcom/example/rolling_rung/rollingrung/schema/FieldType;" (.ref t1)) (S_FieldType_BOOL : Sta Z h0 "com/example/rolling_rung/rollingrung/schema/FieldType" "BOOL" "Lcom/example/rolling_rung/rollingrung/schema/FieldType;" (.ref t2)) (S_FieldType_INT32 : Sta Z h0 "com/example/rolling_rung/rollingrung/schema/FieldType" "INT32" "Lcom/example/rolling_rung/rollingrung/schema/FieldType;" (.ref t3)) (S_FieldType_INT64 : Sta Z h0 "com/example/rolling_rung/rollingrung/schema/FieldType" "INT64" "Lcom/example/rolling_rung/rollingrung/schema/FieldType;" (.ref t4)) (S_FieldType_SINT32 : Sta Z h0 "com/example/rolling_rung/rollingrung/schema/FieldType" "SINT32" "Lcom/example/rolling_rung/rollingrung/schema/FieldType;" (.ref t5)) (S_FieldType_SINT64 : Sta Z h0 "com/example/rolling_rung/rollingrung/schema/FieldType" "SINT64" "Lcom/example/rolling_rung/rollingrung/schema/FieldType;" (.ref t6)) (S_FieldType_DOUBLE : Sta Z h0 "com/example/rolling_rung/rollingrung/schema/FieldType" "DOUBLE" "Lcom/example/rolling_rung/rollingrung/schema/FieldType;" (.ref t7)) (S_FieldType_FLOAT : Sta Z h0 "com/example/rolling_rung/rollingrung/schema/FieldType" "FLOAT" "Lcom/example/rolling_rung/rollingrung/schema/FieldType;" (.ref t8)) (S_ElementState_ABSENT : Sta Z h0 "com/example/rolling_rung/rollingrung/schema/ElementState" "ABSENT" "Lcom/example/rolling_rung/rollingrung/schema/ElementState;" (.ref es0)) (S_ElementState_DELETE_ONLY : Sta Z h0 "com/example/rolling_rung/rollingrung/schema/ElementState" "DELETE_ONLY" "Lcom/example/rolling_rung/rollingrung/schema/ElementState;" (.ref es1)) (S_ElementState_WRITE_ONLY : Sta Z h0 "com/example/rolling_rung/rollingrung/schema/ElementState" "WRITE_ONLY" "Lcom/example/rolling_rung/rollingrung/schema/ElementState;" (.ref es2)) (S_ElementState_PUBLIC : Sta Z h0 "com/example/rolling_rung/rollingrung/schema/ElementState" "PUBLIC" "Lcom/example/rolling_rung/rollingrung/schema/ElementState;" (.ref es3)) :
    MetFree l x (head1 (Jvm.Cond.code x code maxLocals ret :: ws) room_1) (fun aa_ U_ => aa_ = #[(.int p1), (.int p2), (.int p3), (.int p4), (.int p5)] ∧ Z.Warmed39 U_.vm ∧ U_.heap = h0) (fun _ _ _ _ _ => True) (fun _ U_ o_ U'_ => ∃ v_ L_, o_ = .returned v_ ∧ Q_law Z p1 p2 p3 p4 p5 cs t0 t1 t2 t3 t4 t5 t6 t7 t8 es0 es1 es2 es3 h0 n0 v_ U'_.heap L_ ∧ ReturnedEndW U_ o_ U'_ L_ 17 148) := by
  refine MetFree.of_bodySF (plainFor_of_name pn_2) hisR ?_
  intro pP eE sS mM argsA below meth cC s₁ Bd hml0 hP hK
  obtain ⟨rfl, hZ, hh⟩ := hP
  have hx := Bd.exec
  have hby := Bd.bytes
  have hml : cC.maxLocals = 14 := hml0
  have hown : sS.vm.findClass "com/example/rolling_rung/rollingrung/schema/FieldWithStatePinLaw" = some mM.cls := findClass_of_methodNamed Bd.named
  have hnm := (name_of_methodNamed Bd.named Bd.method).1
  have X0 : Stand pP l eE room_1 (sS.setVm sS.vm) mM #[(.int p1), (.int p2), (.int p3), (.int p4), (.int p5)] below meth cC s₁ [] 0 0 := Stand.of_body Bd
  have e0 : s₁.heap = h0 := by rw [← hh, Bd.state]; rfl
  have N0 := Fr.nil n0
  have pre0 : ∀ t_, Steps pP.tables eE below (s₁.setTop (mkF mM 0 #[.val (.int p1), .val (.int p2), .val (.int p3), .val (.int p4), .val (.int p5), .unset, .unset, .unset, .unset, .unset, .unset, .unset, .unset, .unset] [])) t_ → Steps pP.tables eE below (s₁.setTop (entryFrame mM #[(.int p1), (.int p2), (.int p3), (.int p4), (.int p5)] maxLocals)) t_ := fun t_ k_ => castTop (ef_law mM p1 p2 p3 p4 p5) k_
  have hZ : Z.Warmed39 (sS.setVm sS.vm).vm := hZ
  have hown : (sS.setVm sS.vm).vm.findClass "com/example/rolling_rung/rollingrung/schema/FieldWithStatePinLaw" = some mM.cls := hown
  have hS0 : sS.Since sS.vm 0 := (State.WarmedH.refl sS).since 0
  have hk0 : 0 ≤ h0.size := Nat.zero_le _
  obtain ⟨T_1, h_1, k_1, X_1, e_1, E_1, A_1, st_1⟩ := newP X0 hx hZ (ow hw 0 rfl) e0 (g := (mkF mM 1 (lc21 p1 p2 p3 p4 p5) [(.int (2 : Int32))])) rfl (hb hby at_1) rfl (by decide) (cap := 2) (by decide) (by decide) (by decide) (by decide)
  obtain ⟨b_1, g_1⟩ : ∃ z, z = h0.size := ⟨_, rfl⟩
  rw [← g_1] at A_1 st_1
  have g_b_1 : n0 ≤ b_1 := Nat.le_trans Z0 (Nat.le_of_eq g_1.symm)
  have sz_b_1 : h0.size ≤ b_1 := Nat.le_trans (Keep.refl h0 []).1 (Nat.le_of_eq g_1.symm)
  have Z_1 : n0 ≤ h_1.size := (Nat.le_trans Z0 E_1.1)
  have K_1 : Keep h0 h_1 [] := (Keep.refl h0 []).ext E_1
  have hk_1 : _ ≤ h_1.size := Nat.le_trans hk0 E_1.1
  have V_b_1 : Arv Z h_1 b_1 k_1 .char (2 : Int32) [(.int (0 : Int32)), (.int (0 : Int32))] (.int (0 : Int32)) := (Arv.new A_1 (by decide)).pad (pad_rep [] (.int (0 : Int32)) 2)
  obtain ⟨cl_2, Ar_2, qa_2, Sa_2, Na_2, Ha_2, Ga_2⟩ := id V_b_1
  have hin_2 : ¬ ((0 : Int32) < 0 ∨ cl_2.slots.size ≤ ((0 : Int32)).toNatClampNeg) := inb_of Sa_2 ⟨by decide, by decide⟩
  obtain ⟨T_2, h_2, X_2, e_2, W_2, st_2⟩ := stC X_1 hx hZ e_1 Ar_2 (j := (0 : Int32)) hin_2 (g := (mkF mM 14 (lc22 p1 p2 p3 p4 p5 b_1) [(.int ((p1 &&& (255 : Int32)).toUInt32.toUInt16.toUInt32.toInt32)), (.int (0 : Int32)), (.ref b_1)])) rfl rfl (hb hby at_14)
  have V_2 : Arv Z h_2 b_1 k_1 .char (2 : Int32) [(.int (nar .char ((p1 &&& (255 : Int32)).toUInt32.toUInt16.toUInt32.toInt32))), (.int (0 : Int32))] (.int (0 : Int32)) := Arv.set Ar_2 qa_2 Sa_2 Na_2 Ha_2 Ga_2 (fits_nar_char _) W_2 0 rfl (Nat.le_of_ble_eq_true rfl)
  have Z_2 : n0 ≤ h_2.size := (Nat.le_trans Z_1 (Keep.of_wr W_2).1)
  have K_2 : Keep h0 h_2 [] := K_1.wr W_2 (Or.inr sz_b_1)
  have hk_2 : _ ≤ h_2.size := Nat.le_trans hk_1 (Keep.of_wr W_2).1
  have N_2 := Fr.snoc X_2 N0 g_b_1
  obtain ⟨cl_3, Ar_3, qa_3, Sa_3, Na_3, Ha_3, Ga_3⟩ := id V_2
  have hin_3 : ¬ ((1 : Int32) < 0 ∨ cl_3.slots.size ≤ ((1 : Int32)).toNatClampNeg) := inb_of Sa_3 ⟨by decide, by decide⟩
  obtain ⟨T_3, h_3, X_3, e_3, W_3, st_3⟩ := stC X_2 hx hZ e_2 Ar_3 (j := (1 : Int32)) hin_3 (g := (mkF mM 27 (lc22 p1 p2 p3 p4 p5 b_1) [(.int (((XT.ushr p1 (8 : Int32)) &&& (255 : Int32)).toUInt32.toUInt16.toUInt32.toInt32)), (.int (1 : Int32)), (.ref b_1)])) rfl rfl (hb hby at_27)
  have V_3 : Arv Z h_3 b_1 k_1 .char (2 : Int32) [(.int (nar .char ((p1 &&& (255 : Int32)).toUInt32.toUInt16.toUInt32.toInt32))), (.int (nar .char (((XT.ushr p1 (8 : Int32)) &&& (255 : Int32)).toUInt32.toUInt16.toUInt32.toInt32)))] (.int (0 : Int32)) := Arv.set Ar_3 qa_3 Sa_3 Na_3 Ha_3 Ga_3 (fits_nar_char _) W_3 1 rfl (Nat.le_of_ble_eq_true rfl)
  have Z_3 : n0 ≤ h_3.size := (Nat.le_trans Z_2 (Keep.of_wr W_3).1)
  have K_3 : Keep h0 h_3 [] := K_2.wr W_3 (Or.inr sz_b_1)
  have hk_3 : _ ≤ h_3.size := Nat.le_trans hk_2 (Keep.of_wr W_3).1
  have N_3 := Fr.snoc X_3 N_2 g_b_1
  obtain ⟨T_4, h_4, X_4, e_4, E_4, A_4, D_4, -, st_4⟩ := newO X_3 hx hZ hown (ow hw 1 rfl) (ow hw 2 rfl) (ow hw 3 rfl) e_3 (g := (mkF mM 28 (lc22 p1 p2 p3 p4 p5 b_1) [])) rfl (hb hby at_28) (by decide) (by decide)
  obtain ⟨b_4, g_4⟩ : ∃ z, z = h_3.size := ⟨_, rfl⟩
  rw [← g_4] at A_4 D_4 st_4
  have g_b_4 : n0 ≤ b_4 := Nat.le_trans Z_3 (Nat.le_of_eq g_4.symm)
  have sz_b_4 : h0.size ≤ b_4 := Nat.le_trans K_3.1 (Nat.le_of_eq g_4.symm)
  have Z_4 : n0 ≤ h_4.size := (Nat.le_trans Z_3 E_4.1)
  have K_4 : Keep h0 h_4 [] := K_3.ext E_4
  have hk_4 : _ ≤ h_4.size := Nat.le_trans hk_3 E_4.1
  have F_coder_b_4__4 : Fld Z h_4 b_4 "java/lang/String" "coder" "B" (.int (0 : Int32)) := D_4 (Or.inr (ow hw 27 rfl)) (ty := .byte) (by decide)
  have F_value_b_4__4 : Fld Z h_4 b_4 "java/lang/String" "value" "[B" .null := D_4 (Or.inr (ow hw 29 rfl)) (ty := (.array .byte)) (by decide)
  obtain ⟨_, _, ⟨T_5, L_5, k_5, n_5⟩, -, X_5, ⟨Lc_5, hQ_5, l_5, y_5, z_5⟩, st_5⟩ := X_4.specialBack hx (y := MN7) rfl hown (mvT hZ (ow hw 4 rfl)) (mvT hZ (ow hw 5 rfl)) (mvT hZ (ow hw 6 rfl)) (by decide) (backOf (W := 1) (rm_str_2 l Z a0 hw [] b_4 b_1 k_1 cs (nar .char ((p1 &&& (255 : Int32)).toUInt32.toUInt16.toUInt32.toInt32)) (nar .char (((XT.ushr p1 (8 : Int32)) &&& (255 : Int32)).toUInt32.toUInt16.toUInt32.toInt32)) h_4 n0 Z_4 F_value_b_4__4 F_coder_b_4__4 A_4 g_b_4 ((((S_String_COMPACT_STRINGS.ext E_1).wr W_2).wr W_3).ext E_4) hcs (V_3.ext E_4) (Ne.symm (Nat.ne_of_lt (Nat.lt_of_lt_of_le V_3.lt (Nat.le_of_eq g_4.symm)))) (own_c255n _) (own_c255n _)) hZ (ow hw 6 rfl) (ow hw 3 rfl) (by decide) (by decide)) (g := (mkF mM 34 (lc22 p1 p2 p3 p4 p5 b_1) [(.ref b_1), (.ref b_4), (.ref b_4)])) rfl (by rw [hml]; rfl) (Steps.refl _) (a := b_4) (argsL := [(.ref b_1)]) (rest := [(.ref b_4)]) (lenOf pd_7 rfl) rfl (by show 2 * 0 + _ ≤ _; exact Nat.le_of_eq rfl) (hb hby at_34) (fun _ _ => ⟨rfl, e_4, (by decide : 2 + 1 ≤ _), (by decide : 6 + 2 ≤ _)⟩)
  dsimp only [Pt.U, Pt.locs, Pt.cells, Pt.slots] at X_5 l_5 y_5 z_5 st_5 hQ_5
  subst l_5 y_5 z_5
  obtain ⟨d__5, ⟨kd__5, ⟨rfl, N_5q, Kc_5, pfsz_d_5, pfE_a_5, pfF_value_a_5, pfF_coder_a_5, pfV_d_5⟩⟩⟩ := hQ_5
  have Z_5 : n0 ≤ T_5.heap.size := (Nat.le_trans Z_4 Kc_5.1)
  have K_5 : Keep h0 T_5.heap [] := K_4.trans Kc_5 (allS (Or.inr sz_b_4) all0)
  have hk_5 : _ ≤ T_5.heap.size := Nat.le_trans hk_4 Kc_5.1
  have sz_d__5 : h0.size ≤ d__5 := Nat.le_trans K_4.1 pfsz_d_5
  have g_d__5 : n0 ≤ d__5 := Nat.le_trans Z_4 pfsz_d_5
  have N_5 := Fr.app N_3 N_5q
  obtain ⟨_, _, ⟨T_6, L_6, k_6, n_6⟩, -, X_6, ⟨Lc_6, hQ_6, l_6, y_6, z_6⟩, st_6⟩ := Jvm.LawKit.callS X_5 hx (y := MN8) hown (mvT hZ (ow hw 31 rfl)) (mvT hZ (ow hw 32 rfl)) (mvT hZ (ow hw 33 rfl)) (mvT hZ (ow hw 34 rfl)) (by decide) (backOf (W := 0) (rm_typ l Z a0 hw [] ((p3 &&& (2147483647 : Int32)) % (9 : Int32)) t0 t1 t2 t3 t4 t5 t6 t7 t8 T_5.heap n0 Z_5 (own_sta_keep ((((S_FieldType_STRING.ext E_1).wr W_2).wr W_3).ext E_4) Kc_5 (allS (own_exa_ns A_4) all0)) (own_sta_keep ((((S_FieldType_BYTES.ext E_1).wr W_2).wr W_3).ext E_4) Kc_5 (allS (own_exa_ns A_4) all0)) (own_sta_keep ((((S_FieldType_BOOL.ext E_1).wr W_2).wr W_3).ext E_4) Kc_5 (allS (own_exa_ns A_4) all0)) (own_sta_keep ((((S_FieldType_INT32.ext E_1).wr W_2).wr W_3).ext E_4) Kc_5 (allS (own_exa_ns A_4) all0)) (own_sta_keep ((((S_FieldType_INT64.ext E_1).wr W_2).wr W_3).ext E_4) Kc_5 (allS (own_exa_ns A_4) all0)) (own_sta_keep ((((S_FieldType_SINT32.ext E_1).wr W_2).wr W_3).ext E_4) Kc_5 (allS (own_exa_ns A_4) all0)) (own_sta_keep ((((S_FieldType_SINT64.ext E_1).wr W_2).wr W_3).ext E_4) Kc_5 (allS (own_exa_ns A_4) all0)) (own_sta_keep ((((S_FieldType_DOUBLE.ext E_1).wr W_2).wr W_3).ext E_4) Kc_5 (allS (own_exa_ns A_4) all0)) (own_sta_keep ((((S_FieldType_FLOAT.ext E_1).wr W_2).wr W_3).ext E_4) Kc_5 (allS (own_exa_ns A_4) all0))) hZ (ow hw 34 rfl) (ow hw 33 rfl) (by decide) (by decide)) (g := (mkF mM 46 (lc23 p1 p2 p3 p4 p5 b_1 b_4) [(.int ((p3 &&& (2147483647 : Int32)) % (9 : Int32)))])) rfl (by rw [hml]; rfl) (argsL := [(.int ((p3 &&& (2147483647 : Int32)) % (9 : Int32)))]) (rest := []) (lenOf pd_8 rfl) rfl (by show 2 * 0 + _ ≤ _; exact Nat.le_of_eq rfl) (hb hby at_46) (fun _ _ => ⟨rfl, rfl, (by decide : 3 + 0 ≤ _), (by decide : 8 + 0 ≤ _)⟩)
  dsimp only [Pt.U, Pt.locs, Pt.cells, Pt.slots] at X_6 l_6 y_6 z_6 st_6 hQ_6
  subst l_6 y_6 z_6
  obtain ⟨rfl, N_6q, eh_6⟩ := hQ_6
  have N_6 := Fr.app N_5 N_6q
  obtain ⟨_, _, ⟨T_9, L_9, k_9, n_9⟩, -, X_9, ⟨Lc_9, hQ_9, l_9, y_9, z_9⟩, st_9⟩ := Jvm.LawKit.callS X_6 hx (y := MN9) hown (mvT hZ (ow hw 38 rfl)) (mvT hZ (ow hw 39 rfl)) (mvT hZ (ow hw 33 rfl)) (mvT hZ (ow hw 40 rfl)) (by decide) (backOf (W := 0) (rm_sta l Z a0 hw [] (p5 &&& (3 : Int32)) es0 es1 es2 es3 T_5.heap n0 Z_5 (own_sta_keep ((((S_ElementState_ABSENT.ext E_1).wr W_2).wr W_3).ext E_4) Kc_5 (allS (own_exa_ns A_4) all0)) (own_sta_keep ((((S_ElementState_DELETE_ONLY.ext E_1).wr W_2).wr W_3).ext E_4) Kc_5 (allS (own_exa_ns A_4) all0)) (own_sta_keep ((((S_ElementState_WRITE_ONLY.ext E_1).wr W_2).wr W_3).ext E_4) Kc_5 (allS (own_exa_ns A_4) all0)) (own_sta_keep ((((S_ElementState_PUBLIC.ext E_1).wr W_2).wr W_3).ext E_4) Kc_5 (allS (own_exa_ns A_4) all0))) hZ (ow hw 40 rfl) (ow hw 33 rfl) (by decide) (by decide)) (g := (mkF mM 81 (lc26 p1 p2 p3 p4 p5 b_1 b_4 t0 t1 t2 t3 t4 t5 t6 t7 t8) [(.int (p5 &&& (3 : Int32)))])) rfl (by rw [hml]; rfl) (argsL := [(.int (p5 &&& (3 : Int32)))]) (rest := []) (lenOf pd_9 rfl) rfl (by show 2 * 0 + _ ≤ _; exact Nat.le_of_eq rfl) (hb hby at_81) (fun _ _ => ⟨rfl, eh_6, (by decide : 3 + 0 ≤ _), (by decide : 8 + 0 ≤ _)⟩)
  dsimp only [Pt.U, Pt.locs, Pt.cells, Pt.slots] at X_9 l_9 y_9 z_9 st_9 hQ_9
  subst l_9 y_9 z_9
  obtain ⟨rfl, N_9q, eh_9⟩ := hQ_9
  have N_9 := Fr.app N_6 N_9q
  obtain ⟨_, _, ⟨T_10, L_10, k_10, n_10⟩, -, X_10, ⟨Lc_10, hQ_10, l_10, y_10, z_10⟩, st_10⟩ := Jvm.LawKit.callS X_9 hx (y := MN9) hown (mvT hZ (ow hw 38 rfl)) (mvT hZ (ow hw 39 rfl)) (mvT hZ (ow hw 33 rfl)) (mvT hZ (ow hw 40 rfl)) (by decide) (backOf (W := 0) (rm_sta l Z a0 hw [] ((XT.ushr p5 (2 : Int32)) &&& (3 : Int32)) es0 es1 es2 es3 T_5.heap n0 Z_5 (own_sta_keep ((((S_ElementState_ABSENT.ext E_1).wr W_2).wr W_3).ext E_4) Kc_5 (allS (own_exa_ns A_4) all0)) (own_sta_keep ((((S_ElementState_DELETE_ONLY.ext E_1).wr W_2).wr W_3).ext E_4) Kc_5 (allS (own_exa_ns A_4) all0)) (own_sta_keep ((((S_ElementState_WRITE_ONLY.ext E_1).wr W_2).wr W_3).ext E_4) Kc_5 (allS (own_exa_ns A_4) all0)) (own_sta_keep ((((S_ElementState_PUBLIC.ext E_1).wr W_2).wr W_3).ext E_4) Kc_5 (allS (own_exa_ns A_4) all0))) hZ (ow hw 40 rfl) (ow hw 33 rfl) (by decide) (by decide)) (g := (mkF mM 92 (lc27 p1 p2 p3 p4 p5 b_1 b_4 t0 t1 t2 t3 t4 t5 t6 t7 t8 es0 es1 es2 es3) [(.int ((XT.ushr p5 (2 : Int32)) &&& (3 : Int32)))])) rfl (by rw [hml]; rfl) (argsL := [(.int ((XT.ushr p5 (2 : Int32)) &&& (3 : Int32)))]) (rest := []) (lenOf pd_9 rfl) rfl (by show 2 * 0 + _ ≤ _; exact Nat.le_of_eq rfl) (hb hby at_92) (fun _ _ => ⟨rfl, eh_9, (by decide : 3 + 0 ≤ _), (by decide : 8 + 0 ≤ _)⟩)
  dsimp only [Pt.U, Pt.locs, Pt.cells, Pt.slots] at X_10 l_10 y_10 z_10 st_10 hQ_10
  subst l_10 y_10 z_10
  obtain ⟨rfl, N_10q, eh_10⟩ := hQ_10
  have N_10 := Fr.app N_9 N_10q
  obtain ⟨T_11, h_11, X_11, e_11, E_11, A_11, D_11, -, st_11⟩ := newO X_10 hx hZ hown (ow hw 44 rfl) (ow hw 45 rfl) (ow hw 46 rfl) eh_10 (g := (mkF mM 97 (lc28 p1 p2 p3 p4 p5 b_1 b_4 t0 t1 t2 t3 t4 t5 t6 t7 t8 es0 es1 es2 es3) [])) rfl (hb hby at_97) (by decide) (by decide)
  obtain ⟨b_11, g_11⟩ : ∃ z, z = T_5.heap.size := ⟨_, rfl⟩
  rw [← g_11] at A_11 D_11 st_11
  have g_b_11 : n0 ≤ b_11 := Nat.le_trans Z_5 (Nat.le_of_eq g_11.symm)
  have sz_b_11 : h0.size ≤ b_11 := Nat.le_trans K_5.1 (Nat.le_of_eq g_11.symm)
  have Z_11 : n0 ≤ h_11.size := (Nat.le_trans Z_5 E_11.1)
  have K_11 : Keep h0 h_11 [] := K_5.ext E_11
  have hk_11 : _ ≤ h_11.size := Nat.le_trans hk_5 E_11.1
  have F_name_b_11__11 : Fld Z h_11 b_11 "com/example/rolling_rung/rollingrung/schema/Field" "name" "Ljava/lang/String;" .null := D_11 (Or.inr (ow hw 66 rfl)) (ty := (.object "java/lang/String")) (by decide)
  have F_number_b_11__11 : Fld Z h_11 b_11 "com/example/rolling_rung/rollingrung/schema/Field" "number" "I" (.int (0 : Int32)) := D_11 (Or.inr (ow hw 68 rfl)) (ty := .int) (by decide)
  have F_type_b_11__11 : Fld Z h_11 b_11 "com/example/rolling_rung/rollingrung/schema/Field" "type" "Lcom/example/rolling_rung/rollingrung/schema/FieldType;" .null := D_11 (Or.inr (ow hw 70 rfl)) (ty := (.object "com/example/rolling_rung/rollingrung/schema/FieldType")) (by decide)
  have F_required_b_11__11 : Fld Z h_11 b_11 "com/example/rolling_rung/rollingrung/schema/Field" "required" "Z" (.int (0 : Int32)) := D_11 (Or.inr (ow hw 72 rfl)) (ty := .boolean) (by decide)
  have F_repeated_b_11__11 : Fld Z h_11 b_11 "com/example/rolling_rung/rollingrung/schema/Field" "repeated" "Z" (.int (0 : Int32)) := D_11 (Or.inr (ow hw 74 rfl)) (ty := .boolean) (by decide)
  have F_state_b_11__11 : Fld Z h_11 b_11 "com/example/rolling_rung/rollingrung/schema/Field" "state" "Lcom/example/rolling_rung/rollingrung/schema/ElementState;" .null := D_11 (Or.inr (ow hw 76 rfl)) (ty := (.object "com/example/rolling_rung/rollingrung/schema/ElementState")) (by decide)
  obtain ⟨_, _, ⟨T_12, L_12, k_12, n_12⟩, -, Xc_12, hSc_12, hgr_12, ⟨Lc_12, hQ_12, l_12, y_12, z_12⟩, st_12⟩ := X_11.specialBackS hx (y := MN6) rfl hown (mvT hZ (ow hw 47 rfl)) (mvT hZ (ow hw 48 rfl)) (mvT hZ (ow hw 49 rfl)) (by decide) (backOfS (W := 1) (rm_fini l Z a0 hw [] b_11 b_4 p2 (own_ty ((p3 &&& (2147483647 : Int32)) % (9 : Int32)) t0 t1 t2 t3 t4 t5 t6 t7 t8) (own_nz (p4 &&& (1 : Int32))) (own_nz (p4 &&& (2 : Int32))) (own_st (p5 &&& (3 : Int32)) es0 es1 es2 es3) h_11 n0 Z_11 F_name_b_11__11 F_number_b_11__11 F_type_b_11__11 F_required_b_11__11 F_repeated_b_11__11 F_state_b_11__11 A_11 g_b_11) hZ (ow hw 49 rfl) (ow hw 46 rfl) (by decide) (by decide)) (g := (mkF mM 112 (lc28 p1 p2 p3 p4 p5 b_1 b_4 t0 t1 t2 t3 t4 t5 t6 t7 t8 es0 es1 es2 es3) [(.ref (own_st (p5 &&& (3 : Int32)) es0 es1 es2 es3)), (.int (own_nz (p4 &&& (2 : Int32)))), (.int (own_nz (p4 &&& (1 : Int32)))), (.ref (own_ty ((p3 &&& (2147483647 : Int32)) % (9 : Int32)) t0 t1 t2 t3 t4 t5 t6 t7 t8)), (.int p2), (.ref b_4), (.ref b_11), (.ref b_11)])) rfl (by rw [hml]; rfl) (Steps.refl _) (a := b_11) (argsL := [(.ref b_4), (.int p2), (.ref (own_ty ((p3 &&& (2147483647 : Int32)) % (9 : Int32)) t0 t1 t2 t3 t4 t5 t6 t7 t8)), (.int (own_nz (p4 &&& (1 : Int32)))), (.int (own_nz (p4 &&& (2 : Int32)))), (.ref (own_st (p5 &&& (3 : Int32)) es0 es1 es2 es3))]) (rest := [(.ref b_11)]) (lenOf pd_6 rfl) rfl (by show 2 * 0 + _ ≤ _; exact Nat.le_of_eq rfl) (hb hby at_112) (fun _ _ => ⟨rfl, e_11, (by decide : 4 + 6 ≤ _), (by decide : 14 + 64 ≤ _)⟩)
  dsimp only [Pt.U, Pt.locs, Pt.cells, Pt.slots] at Xc_12 hSc_12 hgr_12 l_12 y_12 z_12 st_12 hQ_12
  subst l_12 y_12 z_12
  obtain ⟨X_12, hS_12, hZ_12, hown_12⟩ := rebS hS0 (show _ ≤ T_11.heap.size by rw [e_11]; exact hk_11) Xc_12 hSc_12 hgr_12 hZ hown
  obtain ⟨rfl, N_12q, Kc_12, pfF_name_a_12, pfF_number_a_12, pfF_type_a_12, pfF_required_a_12, pfF_repeated_a_12, pfF_state_a_12, pfE_a_12⟩ := hQ_12
  have Z_12 : n0 ≤ T_12.heap.size := (Nat.le_trans Z_11 Kc_12.1)
  have K_12 : Keep h0 T_12.heap [] := K_11.trans Kc_12 (allS (Or.inr sz_b_11) all0)
  have hk_12 : _ ≤ T_12.heap.size := Nat.le_refl _
  have N_12 := Fr.app N_10 N_12q
  obtain ⟨cq_13, kq_13, q_13a, q_13b, q_13c⟩ := isOf hZ_12 rfl pfE_a_12
  obtain ⟨_, _, ⟨T_13, L_13, k_13, n_13⟩, -, Xc_13, hSc_13, hgr_13, ⟨Lc_13, hQ_13, l_13, y_13, z_13⟩, st_13⟩ := X_12.virtualBackS hx (y := MN10) (z := MN10) hown_12 (mvT hZ_12 (ow hw 77 rfl)) (mvT hZ_12 (ow hw 78 rfl)) (notFace_of_selects (args := #[]) (mvT hZ_12 (ow hw 80 rfl))) (mvT hZ_12 (ow hw 80 rfl)) (mvT hZ_12 (ow hw 79 rfl)) (by decide) (backOfS (W := 0) (rm_wst l Z a0 hw [] b_11 b_4 p2 (own_ty ((p3 &&& (2147483647 : Int32)) % (9 : Int32)) t0 t1 t2 t3 t4 t5 t6 t7 t8) (nar .boolean (own_nz (p4 &&& (1 : Int32)))) (nar .boolean (own_nz (p4 &&& (2 : Int32)))) (own_st (p5 &&& (3 : Int32)) es0 es1 es2 es3) (own_st ((XT.ushr p5 (2 : Int32)) &&& (3 : Int32)) es0 es1 es2 es3) T_12.heap n0 Z_12 pfF_name_a_12 pfF_number_a_12 pfF_type_a_12 pfF_required_a_12 pfF_repeated_a_12 pfF_state_a_12 pfE_a_12) hZ_12 (ow hw 81 rfl) (ow hw 46 rfl) (by decide) (by decide)) q_13a q_13c (g := (mkF mM 121 (lc29 p1 p2 p3 p4 p5 b_1 b_4 t0 t1 t2 t3 t4 t5 t6 t7 t8 es0 es1 es2 es3 b_11) [(.ref (own_st ((XT.ushr p5 (2 : Int32)) &&& (3 : Int32)) es0 es1 es2 es3)), (.ref b_11)])) rfl (by rw [hml]; rfl) (Steps.refl _) (argsL := [(.ref (own_st ((XT.ushr p5 (2 : Int32)) &&& (3 : Int32)) es0 es1 es2 es3))]) (rest := []) (lenOf pd_10 rfl) rfl (by show 2 * 0 + _ ≤ _; exact Nat.le_of_eq rfl) (hb hby at_121) (fun _ _ => ⟨rfl, rfl, (by decide : 10 + 7 ≤ _), (by decide : 78 + 70 ≤ _)⟩)
  dsimp only [Pt.U, Pt.locs, Pt.cells, Pt.slots] at Xc_13 hSc_13 hgr_13 l_13 y_13 z_13 st_13 hQ_13
  subst l_13 y_13 z_13
  obtain ⟨X_13, hS_13, hZ_13, hown_13⟩ := rebS hS_12 hk_12 Xc_13 hSc_13 hgr_13 hZ_12 hown_12
  obtain ⟨g__13, ⟨rfl, N_13q, Kc_13, pfsz_g_13, pfE_g_13, pfF_name_g_13, pfF_number_g_13, pfF_type_g_13, pfF_required_g_13, pfF_repeated_g_13, pfF_state_g_13⟩⟩ := hQ_13
  have Z_13 : n0 ≤ T_13.heap.size := (Nat.le_trans Z_12 Kc_13.1)
  have K_13 : Keep h0 T_13.heap [] := K_12.trans Kc_13 all0
  have hk_13 : _ ≤ T_13.heap.size := Nat.le_refl _
  have sz_g__13 : h0.size ≤ g__13 := Nat.le_trans K_12.1 pfsz_g_13
  have g_g__13 : n0 ≤ g__13 := Nat.le_trans Z_12 pfsz_g_13
  have N_13 := Fr.app N_12 N_13q
  obtain ⟨cq_14, kq_14, q_14a, q_14b, q_14c⟩ := isOf hZ_13 rfl pfE_g_13
  obtain ⟨_, _, ⟨T_14, L_14, k_14, n_14⟩, -, X_14, ⟨Lc_14, hQ_14, l_14, y_14, z_14⟩, st_14⟩ := X_13.virtualBack hx (y := MN11) (z := MN11) hown_13 (mvT hZ_13 (ow hw 84 rfl)) (mvT hZ_13 (ow hw 85 rfl)) (notFace_of_selects (args := #[]) (mvT hZ_13 (ow hw 87 rfl))) (mvT hZ_13 (ow hw 87 rfl)) (mvT hZ_13 (ow hw 86 rfl)) (by decide) (backOf (W := 0) (rm_get_name l Z a0 hw [] g__13 b_4 T_13.heap n0 Z_13 pfF_name_g_13) hZ_13 (ow hw 88 rfl) (ow hw 46 rfl) (by decide) (by decide)) q_14a q_14c (g := (mkF mM 133 (lc30 p1 p2 p3 p4 p5 b_1 b_4 t0 t1 t2 t3 t4 t5 t6 t7 t8 es0 es1 es2 es3 b_11 g__13) [(.ref g__13)])) rfl (by rw [hml]; rfl) (Steps.refl _) (argsL := []) (rest := []) (lenOf pd_11 rfl) rfl (by show 2 * 0 + _ ≤ _; exact Nat.le_of_eq rfl) (hb hby at_133) (fun _ _ => ⟨rfl, rfl, (by decide : 17 + 0 ≤ _), (by decide : 148 + 0 ≤ _)⟩)
  dsimp only [Pt.U, Pt.locs, Pt.cells, Pt.slots] at X_14 l_14 y_14 z_14 st_14 hQ_14
  subst l_14 y_14 z_14
  obtain ⟨rfl, N_14q, eh_14⟩ := hQ_14
  have N_14 := Fr.app N_13 N_14q
  obtain ⟨cq_15, kq_15, q_15a, q_15b, q_15c⟩ := isOf hZ_13 eh_14 (((pfE_a_5.ext E_11).keep Kc_12).keep Kc_13)
  obtain ⟨_, _, ⟨T_15, L_15, k_15, n_15⟩, -, X_15, ⟨Lc_15, hQ_15, l_15, y_15, z_15⟩, st_15⟩ := X_14.virtualBack hx (y := MN12) (z := MN12) hown_13 (mvT hZ_13 (ow hw 89 rfl)) (mvT hZ_13 (ow hw 90 rfl)) (notFace_of_selects (args := #[]) (mvT hZ_13 (ow hw 92 rfl))) (mvT hZ_13 (ow hw 92 rfl)) (mvT hZ_13 (ow hw 91 rfl)) (by decide) (backOf (W := 0) (rm_seq l Z a0 hw [] b_4 T_13.heap n0 Z_13 ) hZ_13 (ow hw 93 rfl) (ow hw 3 rfl) (by decide) (by decide)) q_15a q_15c (g := (mkF mM 138 (lc30 p1 p2 p3 p4 p5 b_1 b_4 t0 t1 t2 t3 t4 t5 t6 t7 t8 es0 es1 es2 es3 b_11 g__13) [(.ref b_4), (.ref b_4)])) rfl (by rw [hml]; rfl) (Steps.refl _) (argsL := [(.ref b_4)]) (rest := []) (lenOf pd_12 rfl) rfl (by show 2 * 0 + _ ≤ _; exact Nat.le_of_eq rfl) (hb hby at_138) (fun _ _ => ⟨rfl, eh_14, (by decide : 17 + 0 ≤ _), (by decide : 148 + 0 ≤ _)⟩)
  dsimp only [Pt.U, Pt.locs, Pt.cells, Pt.slots] at X_15 l_15 y_15 z_15 st_15 hQ_15
  subst l_15 y_15 z_15
  obtain ⟨rfl, N_15q, eh_15⟩ := hQ_15
  have N_15 := Fr.app N_14 N_15q
  obtain ⟨cq_16, kq_16, q_16a, q_16b, q_16c⟩ := isOf hZ_13 eh_15 pfE_g_13
  obtain ⟨_, _, ⟨T_16, L_16, k_16, n_16⟩, -, X_16, ⟨Lc_16, hQ_16, l_16, y_16, z_16⟩, st_16⟩ := X_15.virtualBack hx (y := MN13) (z := MN13) hown_13 (mvT hZ_13 (ow hw 94 rfl)) (mvT hZ_13 (ow hw 95 rfl)) (notFace_of_selects (args := #[]) (mvT hZ_13 (ow hw 97 rfl))) (mvT hZ_13 (ow hw 97 rfl)) (mvT hZ_13 (ow hw 96 rfl)) (by decide) (backOf (W := 0) (rm_get_number l Z a0 hw [] g__13 p2 T_13.heap n0 Z_13 pfF_number_g_13) hZ_13 (ow hw 98 rfl) (ow hw 46 rfl) (by decide) (by decide)) q_16a q_16c (g := (mkF mM 146 (lc30 p1 p2 p3 p4 p5 b_1 b_4 t0 t1 t2 t3 t4 t5 t6 t7 t8 es0 es1 es2 es3 b_11 g__13) [(.ref g__13)])) rfl (by rw [hml]; rfl) (Steps.refl _) (argsL := []) (rest := []) (lenOf pd_13 rfl) rfl (by show 2 * 0 + _ ≤ _; exact Nat.le_of_eq rfl) (hb hby at_146) (fun _ _ => ⟨rfl, eh_15, (by decide : 17 + 0 ≤ _), (by decide : 148 + 0 ≤ _)⟩)
  dsimp only [Pt.U, Pt.locs, Pt.cells, Pt.slots] at X_16 l_16 y_16 z_16 st_16 hQ_16
  subst l_16 y_16 z_16
  obtain ⟨rfl, N_16q, eh_16⟩ := hQ_16
  have N_16 := Fr.app N_15 N_16q
  obtain ⟨cq_17, kq_17, q_17a, q_17b, q_17c⟩ := isOf hZ_13 eh_16 pfE_g_13
  obtain ⟨_, _, ⟨T_17, L_17, k_17, n_17⟩, -, X_17, ⟨Lc_17, hQ_17, l_17, y_17, z_17⟩, st_17⟩ := X_16.virtualBack hx (y := MN14) (z := MN14) hown_13 (mvT hZ_13 (ow hw 99 rfl)) (mvT hZ_13 (ow hw 100 rfl)) (notFace_of_selects (args := #[]) (mvT hZ_13 (ow hw 102 rfl))) (mvT hZ_13 (ow hw 102 rfl)) (mvT hZ_13 (ow hw 101 rfl)) (by decide) (backOf (W := 0) (rm_get_type l Z a0 hw [] g__13 (own_ty ((p3 &&& (2147483647 : Int32)) % (9 : Int32)) t0 t1 t2 t3 t4 t5 t6 t7 t8) T_13.heap n0 Z_13 pfF_type_g_13) hZ_13 (ow hw 103 rfl) (ow hw 46 rfl) (by decide) (by decide)) q_17a q_17c (g := (mkF mM 155 (lc30 p1 p2 p3 p4 p5 b_1 b_4 t0 t1 t2 t3 t4 t5 t6 t7 t8 es0 es1 es2 es3 b_11 g__13) [(.ref g__13)])) rfl (by rw [hml]; rfl) (Steps.refl _) (argsL := []) (rest := []) (lenOf pd_14 rfl) rfl (by show 2 * 0 + _ ≤ _; exact Nat.le_of_eq rfl) (hb hby at_155) (fun _ _ => ⟨rfl, eh_16, (by decide : 17 + 0 ≤ _), (by decide : 148 + 0 ≤ _)⟩)
  dsimp only [Pt.U, Pt.locs, Pt.cells, Pt.slots] at X_17 l_17 y_17 z_17 st_17 hQ_17
  subst l_17 y_17 z_17
  obtain ⟨rfl, N_17q, eh_17⟩ := hQ_17
  have N_17 := Fr.app N_16 N_17q
  obtain ⟨cq_18, kq_18, q_18a, q_18b, q_18c⟩ := isOf hZ_13 eh_17 pfE_g_13
  obtain ⟨_, _, ⟨T_18, L_18, k_18, n_18⟩, -, X_18, ⟨Lc_18, hQ_18, l_18, y_18, z_18⟩, st_18⟩ := X_17.virtualBack hx (y := MN15) (z := MN15) hown_13 (mvT hZ_13 (ow hw 104 rfl)) (mvT hZ_13 (ow hw 105 rfl)) (notFace_of_selects (args := #[]) (mvT hZ_13 (ow hw 107 rfl))) (mvT hZ_13 (ow hw 107 rfl)) (mvT hZ_13 (ow hw 106 rfl)) (by decide) (backOf (W := 0) (rm_get_required l Z a0 hw [] g__13 (nar .boolean (nar .boolean (own_nz (p4 &&& (1 : Int32))))) T_13.heap n0 Z_13 pfF_required_g_13) hZ_13 (ow hw 108 rfl) (ow hw 46 rfl) (by decide) (by decide)) q_18a q_18c (g := (mkF mM 165 (lc30 p1 p2 p3 p4 p5 b_1 b_4 t0 t1 t2 t3 t4 t5 t6 t7 t8 es0 es1 es2 es3 b_11 g__13) [(.ref g__13)])) rfl (by rw [hml]; rfl) (Steps.refl _) (argsL := []) (rest := []) (lenOf pd_15 rfl) rfl (by show 2 * 0 + _ ≤ _; exact Nat.le_of_eq rfl) (hb hby at_165) (fun _ _ => ⟨rfl, eh_17, (by decide : 17 + 0 ≤ _), (by decide : 148 + 0 ≤ _)⟩)
  dsimp only [Pt.U, Pt.locs, Pt.cells, Pt.slots] at X_18 l_18 y_18 z_18 st_18 hQ_18
  subst l_18 y_18 z_18
  obtain ⟨rfl, N_18q, eh_18⟩ := hQ_18
  have N_18 := Fr.app N_17 N_18q
  obtain ⟨cq_19, kq_19, q_19a, q_19b, q_19c⟩ := isOf hZ_13 eh_18 pfE_g_13
  obtain ⟨_, _, ⟨T_19, L_19, k_19, n_19⟩, -, X_19, ⟨Lc_19, hQ_19, l_19, y_19, z_19⟩, st_19⟩ := X_18.virtualBack hx (y := MN16) (z := MN16) hown_13 (mvT hZ_13 (ow hw 109 rfl)) (mvT hZ_13 (ow hw 110 rfl)) (notFace_of_selects (args := #[]) (mvT hZ_13 (ow hw 112 rfl))) (mvT hZ_13 (ow hw 112 rfl)) (mvT hZ_13 (ow hw 111 rfl)) (by decide) (backOf (W := 0) (rm_get_repeated l Z a0 hw [] g__13 (nar .boolean (nar .boolean (own_nz (p4 &&& (2 : Int32))))) T_13.heap n0 Z_13 pfF_repeated_g_13) hZ_13 (ow hw 113 rfl) (ow hw 46 rfl) (by decide) (by decide)) q_19a q_19c (g := (mkF mM 175 (lc30 p1 p2 p3 p4 p5 b_1 b_4 t0 t1 t2 t3 t4 t5 t6 t7 t8 es0 es1 es2 es3 b_11 g__13) [(.ref g__13)])) rfl (by rw [hml]; rfl) (Steps.refl _) (argsL := []) (rest := []) (lenOf pd_15 rfl) rfl (by show 2 * 0 + _ ≤ _; exact Nat.le_of_eq rfl) (hb hby at_175) (fun _ _ => ⟨rfl, eh_18, (by decide : 17 + 0 ≤ _), (by decide : 148 + 0 ≤ _)⟩)
  dsimp only [Pt.U, Pt.locs, Pt.cells, Pt.slots] at X_19 l_19 y_19 z_19 st_19 hQ_19
  subst l_19 y_19 z_19
  obtain ⟨rfl, N_19q, eh_19⟩ := hQ_19
  have N_19 := Fr.app N_18 N_19q
  obtain ⟨cq_20, kq_20, q_20a, q_20b, q_20c⟩ := isOf hZ_13 eh_19 pfE_g_13
  obtain ⟨_, _, ⟨T_20, L_20, k_20, n_20⟩, -, X_20, ⟨Lc_20, hQ_20, l_20, y_20, z_20⟩, st_20⟩ := X_19.virtualBack hx (y := MN17) (z := MN17) hown_13 (mvT hZ_13 (ow hw 114 rfl)) (mvT hZ_13 (ow hw 115 rfl)) (notFace_of_selects (args := #[]) (mvT hZ_13 (ow hw 117 rfl))) (mvT hZ_13 (ow hw 117 rfl)) (mvT hZ_13 (ow hw 116 rfl)) (by decide) (backOf (W := 0) (rm_get_state l Z a0 hw [] g__13 (own_st ((XT.ushr p5 (2 : Int32)) &&& (3 : Int32)) es0 es1 es2 es3) T_13.heap n0 Z_13 pfF_state_g_13) hZ_13 (ow hw 118 rfl) (ow hw 46 rfl) (by decide) (by decide)) q_20a q_20c (g := (mkF mM 185 (lc30 p1 p2 p3 p4 p5 b_1 b_4 t0 t1 t2 t3 t4 t5 t6 t7 t8 es0 es1 es2 es3 b_11 g__13) [(.ref g__13)])) rfl (by rw [hml]; rfl) (Steps.refl _) (argsL := []) (rest := []) (lenOf pd_16 rfl) rfl (by show 2 * 0 + _ ≤ _; exact Nat.le_of_eq rfl) (hb hby at_185) (fun _ _ => ⟨rfl, eh_19, (by decide : 17 + 0 ≤ _), (by decide : 148 + 0 ≤ _)⟩)
  dsimp only [Pt.U, Pt.locs, Pt.cells, Pt.slots] at X_20 l_20 y_20 z_20 st_20 hQ_20
  subst l_20 y_20 z_20
  obtain ⟨rfl, N_20q, eh_20⟩ := hQ_20
  have N_20 := Fr.app N_19 N_20q
  obtain ⟨cq_21, kq_21, q_21a, q_21b, q_21c⟩ := isOf hZ_13 eh_20 (pfE_a_12.keep Kc_13)
  obtain ⟨_, _, ⟨T_21, L_21, k_21, n_21⟩, -, X_21, ⟨Lc_21, hQ_21, l_21, y_21, z_21⟩, st_21⟩ := X_20.virtualBack hx (y := MN17) (z := MN17) hown_13 (mvT hZ_13 (ow hw 114 rfl)) (mvT hZ_13 (ow hw 115 rfl)) (notFace_of_selects (args := #[]) (mvT hZ_13 (ow hw 117 rfl))) (mvT hZ_13 (ow hw 117 rfl)) (mvT hZ_13 (ow hw 116 rfl)) (by decide) (backOf (W := 0) (rm_get_state l Z a0 hw [] b_11 (own_st (p5 &&& (3 : Int32)) es0 es1 es2 es3) T_13.heap n0 Z_13 (pfF_state_a_12.keep Kc_13 nin0)) hZ_13 (ow hw 118 rfl) (ow hw 46 rfl) (by decide) (by decide)) q_21a q_21c (g := (mkF mM 195 (lc30 p1 p2 p3 p4 p5 b_1 b_4 t0 t1 t2 t3 t4 t5 t6 t7 t8 es0 es1 es2 es3 b_11 g__13) [(.ref b_11)])) rfl (by rw [hml]; rfl) (Steps.refl _) (argsL := []) (rest := []) (lenOf pd_16 rfl) rfl (by show 2 * 0 + _ ≤ _; exact Nat.le_of_eq rfl) (hb hby at_195) (fun _ _ => ⟨rfl, eh_20, (by decide : 17 + 0 ≤ _), (by decide : 148 + 0 ≤ _)⟩)
  dsimp only [Pt.U, Pt.locs, Pt.cells, Pt.slots] at X_21 l_21 y_21 z_21 st_21 hQ_21
  subst l_21 y_21 z_21
  obtain ⟨rfl, N_21q, eh_21⟩ := hQ_21
  have N_21 := Fr.app N_20 N_21q
  obtain ⟨fs, hr, hrun, hended, hRE⟩ := X_21.leaveW hS_13 (show _ ≤ T_21.heap.size by rw [eh_21]; exact hk_13) (v := some (.int (1 : Int32))) (fun h => by rw [Bd.returns] at h; cases h)
  refine ⟨_, _, pre0 _ ?_, hrun, hended, _, _, rfl, ?_, ⟨_, rfl⟩, hRE.2.1, hRE.2.2.1, hRE.2.2.2.mono (by decide) (by decide)⟩
  · show oS pP eE below s₁ (mkF mM 0 (lc21 p1 p2 p3 p4 p5) []) _
    refine XS.iconst X0.here hx rfl (hb hby at_0) ?_
    show oS pP eE below s₁ (mkF mM 1 (lc21 p1 p2 p3 p4 p5) [(.int (2 : Int32))]) _
    refine st_1 _ ?_
    show oS pP eE below T_1 (mkF mM 3 (lc21 p1 p2 p3 p4 p5) [(.ref b_1)]) _
    refine XS.astore X_1.here hx rfl (hb hby at_3) rfl rfl (l' := (lc22 p1 p2 p3 p4 p5 b_1)) rfl ?_
    refine XS.aload X_1.here hx rfl (hb hby at_5) rfl rfl ?_
    refine XS.iconst X_1.here hx rfl (hb hby at_7) ?_
    refine XS.iloadN X_1.here hx rfl (hb hby at_8) rfl ?_
    show oS pP eE below T_1 (mkF mM 9 (lc22 p1 p2 p3 p4 p5 b_1) [(.int p1), (.int (0 : Int32)), (.ref b_1)]) _
    refine XS.sipush X_1.here hx rfl (hb hby at_9) ?_
    show oS pP eE below T_1 (mkF mM 12 (lc22 p1 p2 p3 p4 p5 b_1) [(.int (255 : Int32)), (.int p1), (.int (0 : Int32)), (.ref b_1)]) _
    refine XS.iand X_1.here hx rfl (hb hby at_12) rfl ?_
    show oS pP eE below T_1 (mkF mM 13 (lc22 p1 p2 p3 p4 p5 b_1) [(.int (p1 &&& (255 : Int32))), (.int (0 : Int32)), (.ref b_1)]) _
    refine XT.i2c X_1.here hx rfl (hb hby at_13) rfl ?_
    show oS pP eE below T_1 (mkF mM 14 (lc22 p1 p2 p3 p4 p5 b_1) [(.int ((p1 &&& (255 : Int32)).toUInt32.toUInt16.toUInt32.toInt32)), (.int (0 : Int32)), (.ref b_1)]) _
    refine st_2 _ ?_
    show oS pP eE below T_2 (mkF mM 15 (lc22 p1 p2 p3 p4 p5 b_1) []) _
    refine XS.aload X_2.here hx rfl (hb hby at_15) rfl rfl ?_
    refine XS.iconst X_2.here hx rfl (hb hby at_17) ?_
    refine XS.iloadN X_2.here hx rfl (hb hby at_18) rfl ?_
    refine XS.bipush X_2.here hx rfl (hb hby at_19) ?_
    show oS pP eE below T_2 (mkF mM 21 (lc22 p1 p2 p3 p4 p5 b_1) [(.int (8 : Int32)), (.int p1), (.int (1 : Int32)), (.ref b_1)]) _
    refine XT.iushr X_2.here hx rfl (hb hby at_21) rfl ?_
    refine XS.sipush X_2.here hx rfl (hb hby at_22) ?_
    show oS pP eE below T_2 (mkF mM 25 (lc22 p1 p2 p3 p4 p5 b_1) [(.int (255 : Int32)), (.int (XT.ushr p1 (8 : Int32))), (.int (1 : Int32)), (.ref b_1)]) _
    refine XS.iand X_2.here hx rfl (hb hby at_25) rfl ?_
    show oS pP eE below T_2 (mkF mM 26 (lc22 p1 p2 p3 p4 p5 b_1) [(.int ((XT.ushr p1 (8 : Int32)) &&& (255 : Int32))), (.int (1 : Int32)), (.ref b_1)]) _
    refine XT.i2c X_2.here hx rfl (hb hby at_26) rfl ?_
    show oS pP eE below T_2 (mkF mM 27 (lc22 p1 p2 p3 p4 p5 b_1) [(.int (((XT.ushr p1 (8 : Int32)) &&& (255 : Int32)).toUInt32.toUInt16.toUInt32.toInt32)), (.int (1 : Int32)), (.ref b_1)]) _
    refine st_3 _ ?_
    show oS pP eE below T_3 (mkF mM 28 (lc22 p1 p2 p3 p4 p5 b_1) []) _
    refine st_4 _ ?_
    show oS pP eE below T_4 (mkF mM 31 (lc22 p1 p2 p3 p4 p5 b_1) [(.ref b_4)]) _
    refine XS.dup X_4.here hx rfl (hb hby at_31) rfl rfl ?_
    refine XS.aload X_4.here hx rfl (hb hby at_32) rfl rfl ?_
    show oS pP eE below T_4 (mkF mM 34 (lc22 p1 p2 p3 p4 p5 b_1) [(.ref b_1), (.ref b_4), (.ref b_4)]) _
    refine st_5.trans ?_
    show oS pP eE below T_5 (mkF mM 37 (lc22 p1 p2 p3 p4 p5 b_1) [(.ref b_4)]) _
    refine XS.astore X_5.here hx rfl (hb hby at_37) rfl rfl (l' := (lc23 p1 p2 p3 p4 p5 b_1 b_4)) rfl ?_
    refine XS.iloadN X_5.here hx rfl (hb hby at_39) rfl ?_
    show oS pP eE below T_5 (mkF mM 40 (lc23 p1 p2 p3 p4 p5 b_1 b_4) [(.int p3)]) _
    refine X_5.ldcI hx hown (mvT hZ (ow hw 30 rfl)) (g := (mkF mM 40 (lc23 p1 p2 p3 p4 p5 b_1 b_4) [(.int p3)])) rfl (hb hby at_40) ?_
    show oS pP eE below T_5 (mkF mM 42 (lc23 p1 p2 p3 p4 p5 b_1 b_4) [(.int (2147483647 : Int32)), (.int p3)]) _
    refine XS.iand X_5.here hx rfl (hb hby at_42) rfl ?_
    refine XS.bipush X_5.here hx rfl (hb hby at_43) ?_
    show oS pP eE below T_5 (mkF mM 45 (lc23 p1 p2 p3 p4 p5 b_1 b_4) [(.int (9 : Int32)), (.int (p3 &&& (2147483647 : Int32)))]) _
    refine iremM X_5 hx rfl (hb hby at_45) rfl (by decide) ?_
    show oS pP eE below T_5 (mkF mM 46 (lc23 p1 p2 p3 p4 p5 b_1 b_4) [(.int ((p3 &&& (2147483647 : Int32)) % (9 : Int32)))]) _
    refine st_6 _ ?_
    show oS pP eE below T_6 (mkF mM 49 (lc23 p1 p2 p3 p4 p5 b_1 b_4) [(.ref (own_ty ((p3 &&& (2147483647 : Int32)) % (9 : Int32)) t0 t1 t2 t3 t4 t5 t6 t7 t8))]) _
    refine XS.astore X_6.here hx rfl (hb hby at_49) rfl rfl (l' := (lc24 p1 p2 p3 p4 p5 b_1 b_4 t0 t1 t2 t3 t4 t5 t6 t7 t8)) rfl ?_
    refine XS.iloadN X_6.here hx rfl (hb hby at_51) rfl ?_
    refine XS.iconst X_6.here hx rfl (hb hby at_52) ?_
    show oS pP eE below T_6 (mkF mM 53 (lc24 p1 p2 p3 p4 p5 b_1 b_4 t0 t1 t2 t3 t4 t5 t6 t7 t8) [(.int (1 : Int32)), (.int p4)]) _
    refine XS.iand X_6.here hx rfl (hb hby at_53) rfl ?_
    show oS pP eE below T_6 (mkF mM 54 (lc24 p1 p2 p3 p4 p5 b_1 b_4 t0 t1 t2 t3 t4 t5 t6 t7 t8) [(.int (p4 &&& (1 : Int32)))]) _
    have jn_7 : ∀ t_, Steps pP.tables eE below (T_6.setTop (mkF mM 62 (lc24 p1 p2 p3 p4 p5 b_1 b_4 t0 t1 t2 t3 t4 t5 t6 t7 t8) [(.int (own_nz (p4 &&& (1 : Int32))))])) t_ → Steps pP.tables eE below (T_6.setTop (mkF mM 54 (lc24 p1 p2 p3 p4 p5 b_1 b_4 t0 t1 t2 t3 t4 t5 t6 t7 t8) [(.int (p4 &&& (1 : Int32)))])) t_ := by
      intro t_ kt
      by_cases hz : (p4 &&& (1 : Int32)) = 0
      · have hj : (own_nz (p4 &&& (1 : Int32))) = (0 : Int32) := if_pos hz
        rw [hj] at kt
        refine XS.ifYes X_6.here hx rfl (pc0 := 54) (pc' := 61) rfl (hb hby at_54) rfl (XT.i0_eq_t hz) (by decide) (by decide) ?_
        refine XS.iconst X_6.here hx rfl (hb hby at_61) ?_
        show oS pP eE below T_6 (mkF mM 62 (lc24 p1 p2 p3 p4 p5 b_1 b_4 t0 t1 t2 t3 t4 t5 t6 t7 t8) [(.int (0 : Int32))]) _
        exact kt
      · have hj : (own_nz (p4 &&& (1 : Int32))) = (1 : Int32) := if_neg hz
        rw [hj] at kt
        refine XS.ifNo X_6.here hx rfl (hb hby at_54) rfl (XT.i0_eq_f hz) ?_
        show oS pP eE below T_6 (mkF mM 57 (lc24 p1 p2 p3 p4 p5 b_1 b_4 t0 t1 t2 t3 t4 t5 t6 t7 t8) []) _
        refine XS.iconst X_6.here hx rfl (hb hby at_57) ?_
        refine XS.goto X_6.here hx rfl (pc0 := 58) (pc' := 62) rfl (hb hby at_58) (by decide) (by decide) ?_
        show oS pP eE below T_6 (mkF mM 62 (lc24 p1 p2 p3 p4 p5 b_1 b_4 t0 t1 t2 t3 t4 t5 t6 t7 t8) [(.int (1 : Int32))]) _
        exact kt
    refine jn_7 _ ?_
    refine XS.istore X_6.here hx rfl (hb hby at_62) rfl (l' := (lc25 p1 p2 p3 p4 p5 b_1 b_4 t0 t1 t2 t3 t4 t5 t6 t7 t8)) rfl ?_
    refine XS.iloadN X_6.here hx rfl (hb hby at_64) rfl ?_
    show oS pP eE below T_6 (mkF mM 65 (lc25 p1 p2 p3 p4 p5 b_1 b_4 t0 t1 t2 t3 t4 t5 t6 t7 t8) [(.int p4)]) _
    refine XS.iconst X_6.here hx rfl (hb hby at_65) ?_
    show oS pP eE below T_6 (mkF mM 66 (lc25 p1 p2 p3 p4 p5 b_1 b_4 t0 t1 t2 t3 t4 t5 t6 t7 t8) [(.int (2 : Int32)), (.int p4)]) _
    refine XS.iand X_6.here hx rfl (hb hby at_66) rfl ?_
    show oS pP eE below T_6 (mkF mM 67 (lc25 p1 p2 p3 p4 p5 b_1 b_4 t0 t1 t2 t3 t4 t5 t6 t7 t8) [(.int (p4 &&& (2 : Int32)))]) _
    have jn_8 : ∀ t_, Steps pP.tables eE below (T_6.setTop (mkF mM 75 (lc25 p1 p2 p3 p4 p5 b_1 b_4 t0 t1 t2 t3 t4 t5 t6 t7 t8) [(.int (own_nz (p4 &&& (2 : Int32))))])) t_ → Steps pP.tables eE below (T_6.setTop (mkF mM 67 (lc25 p1 p2 p3 p4 p5 b_1 b_4 t0 t1 t2 t3 t4 t5 t6 t7 t8) [(.int (p4 &&& (2 : Int32)))])) t_ := by
      intro t_ kt
      by_cases hz : (p4 &&& (2 : Int32)) = 0
      · have hj : (own_nz (p4 &&& (2 : Int32))) = (0 : Int32) := if_pos hz
        rw [hj] at kt
        refine XS.ifYes X_6.here hx rfl (pc0 := 67) (pc' := 74) rfl (hb hby at_67) rfl (XT.i0_eq_t hz) (by decide) (by decide) ?_
        refine XS.iconst X_6.here hx rfl (hb hby at_74) ?_
        show oS pP eE below T_6 (mkF mM 75 (lc25 p1 p2 p3 p4 p5 b_1 b_4 t0 t1 t2 t3 t4 t5 t6 t7 t8) [(.int (0 : Int32))]) _
        exact kt
      · have hj : (own_nz (p4 &&& (2 : Int32))) = (1 : Int32) := if_neg hz
        rw [hj] at kt
        refine XS.ifNo X_6.here hx rfl (hb hby at_67) rfl (XT.i0_eq_f hz) ?_
        show oS pP eE below T_6 (mkF mM 70 (lc25 p1 p2 p3 p4 p5 b_1 b_4 t0 t1 t2 t3 t4 t5 t6 t7 t8) []) _
        refine XS.iconst X_6.here hx rfl (hb hby at_70) ?_
        refine XS.goto X_6.here hx rfl (pc0 := 71) (pc' := 75) rfl (hb hby at_71) (by decide) (by decide) ?_
        show oS pP eE below T_6 (mkF mM 75 (lc25 p1 p2 p3 p4 p5 b_1 b_4 t0 t1 t2 t3 t4 t5 t6 t7 t8) [(.int (1 : Int32))]) _
        exact kt
    refine jn_8 _ ?_
    refine XS.istore X_6.here hx rfl (hb hby at_75) rfl (l' := (lc26 p1 p2 p3 p4 p5 b_1 b_4 t0 t1 t2 t3 t4 t5 t6 t7 t8)) rfl ?_
    refine XS.iload X_6.here hx rfl (hb hby at_77) rfl ?_
    show oS pP eE below T_6 (mkF mM 79 (lc26 p1 p2 p3 p4 p5 b_1 b_4 t0 t1 t2 t3 t4 t5 t6 t7 t8) [(.int p5)]) _
    refine XS.iconst X_6.here hx rfl (hb hby at_79) ?_
    show oS pP eE below T_6 (mkF mM 80 (lc26 p1 p2 p3 p4 p5 b_1 b_4 t0 t1 t2 t3 t4 t5 t6 t7 t8) [(.int (3 : Int32)), (.int p5)]) _
    refine XS.iand X_6.here hx rfl (hb hby at_80) rfl ?_
    show oS pP eE below T_6 (mkF mM 81 (lc26 p1 p2 p3 p4 p5 b_1 b_4 t0 t1 t2 t3 t4 t5 t6 t7 t8) [(.int (p5 &&& (3 : Int32)))]) _
    refine st_9 _ ?_
    show oS pP eE below T_9 (mkF mM 84 (lc26 p1 p2 p3 p4 p5 b_1 b_4 t0 t1 t2 t3 t4 t5 t6 t7 t8) [(.ref (own_st (p5 &&& (3 : Int32)) es0 es1 es2 es3))]) _
    refine XS.astore X_9.here hx rfl (hb hby at_84) rfl rfl (l' := (lc27 p1 p2 p3 p4 p5 b_1 b_4 t0 t1 t2 t3 t4 t5 t6 t7 t8 es0 es1 es2 es3)) rfl ?_
    refine XS.iload X_9.here hx rfl (hb hby at_86) rfl ?_
    refine XS.iconst X_9.here hx rfl (hb hby at_88) ?_
    show oS pP eE below T_9 (mkF mM 89 (lc27 p1 p2 p3 p4 p5 b_1 b_4 t0 t1 t2 t3 t4 t5 t6 t7 t8 es0 es1 es2 es3) [(.int (2 : Int32)), (.int p5)]) _
    refine XT.iushr X_9.here hx rfl (hb hby at_89) rfl ?_
    refine XS.iconst X_9.here hx rfl (hb hby at_90) ?_
    show oS pP eE below T_9 (mkF mM 91 (lc27 p1 p2 p3 p4 p5 b_1 b_4 t0 t1 t2 t3 t4 t5 t6 t7 t8 es0 es1 es2 es3) [(.int (3 : Int32)), (.int (XT.ushr p5 (2 : Int32)))]) _
    refine XS.iand X_9.here hx rfl (hb hby at_91) rfl ?_
    show oS pP eE below T_9 (mkF mM 92 (lc27 p1 p2 p3 p4 p5 b_1 b_4 t0 t1 t2 t3 t4 t5 t6 t7 t8 es0 es1 es2 es3) [(.int ((XT.ushr p5 (2 : Int32)) &&& (3 : Int32)))]) _
    refine st_10 _ ?_
    show oS pP eE below T_10 (mkF mM 95 (lc27 p1 p2 p3 p4 p5 b_1 b_4 t0 t1 t2 t3 t4 t5 t6 t7 t8 es0 es1 es2 es3) [(.ref (own_st ((XT.ushr p5 (2 : Int32)) &&& (3 : Int32)) es0 es1 es2 es3))]) _
    refine XS.astore X_10.here hx rfl (hb hby at_95) rfl rfl (l' := (lc28 p1 p2 p3 p4 p5 b_1 b_4 t0 t1 t2 t3 t4 t5 t6 t7 t8 es0 es1 es2 es3)) rfl ?_
    show oS pP eE below T_10 (mkF mM 97 (lc28 p1 p2 p3 p4 p5 b_1 b_4 t0 t1 t2 t3 t4 t5 t6 t7 t8 es0 es1 es2 es3) []) _
    refine st_11 _ ?_
    show oS pP eE below T_11 (mkF mM 100 (lc28 p1 p2 p3 p4 p5 b_1 b_4 t0 t1 t2 t3 t4 t5 t6 t7 t8 es0 es1 es2 es3) [(.ref b_11)]) _
    refine XS.dup X_11.here hx rfl (hb hby at_100) rfl rfl ?_
    refine XS.aload X_11.here hx rfl (hb hby at_101) rfl rfl ?_
    refine XS.iloadN X_11.here hx rfl (hb hby at_103) rfl ?_
    refine XS.aload X_11.here hx rfl (hb hby at_104) rfl rfl ?_
    show oS pP eE below T_11 (mkF mM 106 (lc28 p1 p2 p3 p4 p5 b_1 b_4 t0 t1 t2 t3 t4 t5 t6 t7 t8 es0 es1 es2 es3) [(.ref (own_ty ((p3 &&& (2147483647 : Int32)) % (9 : Int32)) t0 t1 t2 t3 t4 t5 t6 t7 t8)), (.int p2), (.ref b_4), (.ref b_11), (.ref b_11)]) _
    refine XS.iload X_11.here hx rfl (hb hby at_106) rfl ?_
    refine XS.iload X_11.here hx rfl (hb hby at_108) rfl ?_
    refine XS.aload X_11.here hx rfl (hb hby at_110) rfl rfl ?_
    show oS pP eE below T_11 (mkF mM 112 (lc28 p1 p2 p3 p4 p5 b_1 b_4 t0 t1 t2 t3 t4 t5 t6 t7 t8 es0 es1 es2 es3) [(.ref (own_st (p5 &&& (3 : Int32)) es0 es1 es2 es3)), (.int (own_nz (p4 &&& (2 : Int32)))), (.int (own_nz (p4 &&& (1 : Int32)))), (.ref (own_ty ((p3 &&& (2147483647 : Int32)) % (9 : Int32)) t0 t1 t2 t3 t4 t5 t6 t7 t8)), (.int p2), (.ref b_4), (.ref b_11), (.ref b_11)]) _
    refine st_12.trans ?_
    show oS pP eE below T_12 (mkF mM 115 (lc28 p1 p2 p3 p4 p5 b_1 b_4 t0 t1 t2 t3 t4 t5 t6 t7 t8 es0 es1 es2 es3) [(.ref b_11)]) _
    refine XS.astore X_12.here hx rfl (hb hby at_115) rfl rfl (l' := (lc29 p1 p2 p3 p4 p5 b_1 b_4 t0 t1 t2 t3 t4 t5 t6 t7 t8 es0 es1 es2 es3 b_11)) rfl ?_
    refine XS.aload X_12.here hx rfl (hb hby at_117) rfl rfl ?_
    refine XS.aload X_12.here hx rfl (hb hby at_119) rfl rfl ?_
    show oS pP eE below T_12 (mkF mM 121 (lc29 p1 p2 p3 p4 p5 b_1 b_4 t0 t1 t2 t3 t4 t5 t6 t7 t8 es0 es1 es2 es3 b_11) [(.ref (own_st ((XT.ushr p5 (2 : Int32)) &&& (3 : Int32)) es0 es1 es2 es3)), (.ref b_11)]) _
    refine st_13.trans ?_
    show oS pP eE below T_13 (mkF mM 124 (lc29 p1 p2 p3 p4 p5 b_1 b_4 t0 t1 t2 t3 t4 t5 t6 t7 t8 es0 es1 es2 es3 b_11) [(.ref g__13)]) _
    refine XS.astore X_13.here hx rfl (hb hby at_124) rfl rfl (l' := (lc30 p1 p2 p3 p4 p5 b_1 b_4 t0 t1 t2 t3 t4 t5 t6 t7 t8 es0 es1 es2 es3 b_11 g__13)) rfl ?_
    refine XS.aload X_13.here hx rfl (hb hby at_126) rfl rfl ?_
    show oS pP eE below T_13 (mkF mM 128 (lc30 p1 p2 p3 p4 p5 b_1 b_4 t0 t1 t2 t3 t4 t5 t6 t7 t8 es0 es1 es2 es3 b_11 g__13) [(.ref g__13)]) _
    refine XS.ifnullNo X_13.here hx rfl (hb hby at_128) rfl ?_
    refine XS.aload X_13.here hx rfl (hb hby at_131) rfl rfl ?_
    show oS pP eE below T_13 (mkF mM 133 (lc30 p1 p2 p3 p4 p5 b_1 b_4 t0 t1 t2 t3 t4 t5 t6 t7 t8 es0 es1 es2 es3 b_11 g__13) [(.ref g__13)]) _
    refine st_14.trans ?_
    show oS pP eE below T_14 (mkF mM 136 (lc30 p1 p2 p3 p4 p5 b_1 b_4 t0 t1 t2 t3 t4 t5 t6 t7 t8 es0 es1 es2 es3 b_11 g__13) [(.ref b_4)]) _
    refine XS.aload X_14.here hx rfl (hb hby at_136) rfl rfl ?_
    show oS pP eE below T_14 (mkF mM 138 (lc30 p1 p2 p3 p4 p5 b_1 b_4 t0 t1 t2 t3 t4 t5 t6 t7 t8 es0 es1 es2 es3 b_11 g__13) [(.ref b_4), (.ref b_4)]) _
    refine st_15.trans ?_
    show oS pP eE below T_15 (mkF mM 141 (lc30 p1 p2 p3 p4 p5 b_1 b_4 t0 t1 t2 t3 t4 t5 t6 t7 t8 es0 es1 es2 es3 b_11 g__13) [(.int (1 : Int32))]) _
    refine XS.ifNo X_15.here hx rfl (hb hby at_141) rfl (by decide) ?_
    refine XS.aload X_15.here hx rfl (hb hby at_144) rfl rfl ?_
    show oS pP eE below T_15 (mkF mM 146 (lc30 p1 p2 p3 p4 p5 b_1 b_4 t0 t1 t2 t3 t4 t5 t6 t7 t8 es0 es1 es2 es3 b_11 g__13) [(.ref g__13)]) _
    refine st_16.trans ?_
    show oS pP eE below T_16 (mkF mM 149 (lc30 p1 p2 p3 p4 p5 b_1 b_4 t0 t1 t2 t3 t4 t5 t6 t7 t8 es0 es1 es2 es3 b_11 g__13) [(.int p2)]) _
    refine XS.iloadN X_16.here hx rfl (hb hby at_149) rfl ?_
    refine XS.icmpNo X_16.here hx rfl (hb hby at_150) rfl (XT.ii_ne_f rfl) ?_
    refine XS.aload X_16.here hx rfl (hb hby at_153) rfl rfl ?_
    show oS pP eE below T_16 (mkF mM 155 (lc30 p1 p2 p3 p4 p5 b_1 b_4 t0 t1 t2 t3 t4 t5 t6 t7 t8 es0 es1 es2 es3 b_11 g__13) [(.ref g__13)]) _
    refine st_17.trans ?_
    show oS pP eE below T_17 (mkF mM 158 (lc30 p1 p2 p3 p4 p5 b_1 b_4 t0 t1 t2 t3 t4 t5 t6 t7 t8 es0 es1 es2 es3 b_11 g__13) [(.ref (own_ty ((p3 &&& (2147483647 : Int32)) % (9 : Int32)) t0 t1 t2 t3 t4 t5 t6 t7 t8))]) _
    refine XS.aload X_17.here hx rfl (hb hby at_158) rfl rfl ?_
    show oS pP eE below T_17 (mkF mM 160 (lc30 p1 p2 p3 p4 p5 b_1 b_4 t0 t1 t2 t3 t4 t5 t6 t7 t8 es0 es1 es2 es3 b_11 g__13) [(.ref (own_ty ((p3 &&& (2147483647 : Int32)) % (9 : Int32)) t0 t1 t2 t3 t4 t5 t6 t7 t8)), (.ref (own_ty ((p3 &&& (2147483647 : Int32)) % (9 : Int32)) t0 t1 t2 t3 t4 t5 t6 t7 t8))]) _
    refine Jvm.RoadKit.acmp (g := (mkF mM 160 (lc30 p1 p2 p3 p4 p5 b_1 b_4 t0 t1 t2 t3 t4 t5 t6 t7 t8 es0 es1 es2 es3 b_11 g__13) [(.ref (own_ty ((p3 &&& (2147483647 : Int32)) % (9 : Int32)) t0 t1 t2 t3 t4 t5 t6 t7 t8)), (.ref (own_ty ((p3 &&& (2147483647 : Int32)) % (9 : Int32)) t0 t1 t2 t3 t4 t5 t6 t7 t8))])) X_17 hx rfl rfl rfl (pc0 := 160) (pc' := 163) (same := true) rfl (hb hby at_160) rfl (decide_eq_true rfl) (by decide) (by decide) ?_
    refine XS.aload X_17.here hx rfl (hb hby at_163) rfl rfl ?_
    show oS pP eE below T_17 (mkF mM 165 (lc30 p1 p2 p3 p4 p5 b_1 b_4 t0 t1 t2 t3 t4 t5 t6 t7 t8 es0 es1 es2 es3 b_11 g__13) [(.ref g__13)]) _
    refine st_18.trans ?_
    show oS pP eE below T_18 (mkF mM 168 (lc30 p1 p2 p3 p4 p5 b_1 b_4 t0 t1 t2 t3 t4 t5 t6 t7 t8 es0 es1 es2 es3 b_11 g__13) [(.int (nar .boolean (nar .boolean (nar .boolean (own_nz (p4 &&& (1 : Int32)))))))]) _
    refine XS.iload X_18.here hx rfl (hb hby at_168) rfl ?_
    refine XS.icmpNo X_18.here hx rfl (hb hby at_170) rfl (XT.ii_ne_f (by simp only [own_nzn])) ?_
    refine XS.aload X_18.here hx rfl (hb hby at_173) rfl rfl ?_
    show oS pP eE below T_18 (mkF mM 175 (lc30 p1 p2 p3 p4 p5 b_1 b_4 t0 t1 t2 t3 t4 t5 t6 t7 t8 es0 es1 es2 es3 b_11 g__13) [(.ref g__13)]) _
    refine st_19.trans ?_
    show oS pP eE below T_19 (mkF mM 178 (lc30 p1 p2 p3 p4 p5 b_1 b_4 t0 t1 t2 t3 t4 t5 t6 t7 t8 es0 es1 es2 es3 b_11 g__13) [(.int (nar .boolean (nar .boolean (nar .boolean (own_nz (p4 &&& (2 : Int32)))))))]) _
    refine XS.iload X_19.here hx rfl (hb hby at_178) rfl ?_
    refine XS.icmpNo X_19.here hx rfl (hb hby at_180) rfl (XT.ii_ne_f (by simp only [own_nzn])) ?_
    refine XS.aload X_19.here hx rfl (hb hby at_183) rfl rfl ?_
    show oS pP eE below T_19 (mkF mM 185 (lc30 p1 p2 p3 p4 p5 b_1 b_4 t0 t1 t2 t3 t4 t5 t6 t7 t8 es0 es1 es2 es3 b_11 g__13) [(.ref g__13)]) _
    refine st_20.trans ?_
    show oS pP eE below T_20 (mkF mM 188 (lc30 p1 p2 p3 p4 p5 b_1 b_4 t0 t1 t2 t3 t4 t5 t6 t7 t8 es0 es1 es2 es3 b_11 g__13) [(.ref (own_st ((XT.ushr p5 (2 : Int32)) &&& (3 : Int32)) es0 es1 es2 es3))]) _
    refine XS.aload X_20.here hx rfl (hb hby at_188) rfl rfl ?_
    show oS pP eE below T_20 (mkF mM 190 (lc30 p1 p2 p3 p4 p5 b_1 b_4 t0 t1 t2 t3 t4 t5 t6 t7 t8 es0 es1 es2 es3 b_11 g__13) [(.ref (own_st ((XT.ushr p5 (2 : Int32)) &&& (3 : Int32)) es0 es1 es2 es3)), (.ref (own_st ((XT.ushr p5 (2 : Int32)) &&& (3 : Int32)) es0 es1 es2 es3))]) _
    refine Jvm.RoadKit.acmp (g := (mkF mM 190 (lc30 p1 p2 p3 p4 p5 b_1 b_4 t0 t1 t2 t3 t4 t5 t6 t7 t8 es0 es1 es2 es3 b_11 g__13) [(.ref (own_st ((XT.ushr p5 (2 : Int32)) &&& (3 : Int32)) es0 es1 es2 es3)), (.ref (own_st ((XT.ushr p5 (2 : Int32)) &&& (3 : Int32)) es0 es1 es2 es3))])) X_20 hx rfl rfl rfl (pc0 := 190) (pc' := 193) (same := true) rfl (hb hby at_190) rfl (decide_eq_true rfl) (by decide) (by decide) ?_
    refine XS.aload X_20.here hx rfl (hb hby at_193) rfl rfl ?_
    show oS pP eE below T_20 (mkF mM 195 (lc30 p1 p2 p3 p4 p5 b_1 b_4 t0 t1 t2 t3 t4 t5 t6 t7 t8 es0 es1 es2 es3 b_11 g__13) [(.ref b_11)]) _
    refine st_21.trans ?_
    show oS pP eE below T_21 (mkF mM 198 (lc30 p1 p2 p3 p4 p5 b_1 b_4 t0 t1 t2 t3 t4 t5 t6 t7 t8 es0 es1 es2 es3 b_11 g__13) [(.ref (own_st (p5 &&& (3 : Int32)) es0 es1 es2 es3))]) _
    refine XS.aload X_21.here hx rfl (hb hby at_198) rfl rfl ?_
    show oS pP eE below T_21 (mkF mM 200 (lc30 p1 p2 p3 p4 p5 b_1 b_4 t0 t1 t2 t3 t4 t5 t6 t7 t8 es0 es1 es2 es3 b_11 g__13) [(.ref (own_st (p5 &&& (3 : Int32)) es0 es1 es2 es3)), (.ref (own_st (p5 &&& (3 : Int32)) es0 es1 es2 es3))]) _
    refine Jvm.RoadKit.acmp (g := (mkF mM 200 (lc30 p1 p2 p3 p4 p5 b_1 b_4 t0 t1 t2 t3 t4 t5 t6 t7 t8 es0 es1 es2 es3 b_11 g__13) [(.ref (own_st (p5 &&& (3 : Int32)) es0 es1 es2 es3)), (.ref (own_st (p5 &&& (3 : Int32)) es0 es1 es2 es3))])) X_21 hx rfl rfl rfl (pc0 := 200) (pc' := 203) (same := true) rfl (hb hby at_200) rfl (decide_eq_true rfl) (by decide) (by decide) ?_
    refine XS.iconst X_21.here hx rfl (hb hby at_203) ?_
    refine XS.goto X_21.here hx rfl (pc0 := 204) (pc' := 208) rfl (hb hby at_204) (by decide) (by decide) ?_
    show oS pP eE below T_21 (mkF mM 208 (lc30 p1 p2 p3 p4 p5 b_1 b_4 t0 t1 t2 t3 t4 t5 t6 t7 t8 es0 es1 es2 es3 b_11 g__13) [(.int (1 : Int32))]) _
    exact retN X_21 hx (t := .boolean) Bd.returns (by simp) (hb hby at_208) hr
  · show Q_law Z p1 p2 p3 p4 p5 cs t0 t1 t2 t3 t4 t5 t6 t7 t8 es0 es1 es2 es3 h0 n0 _ T_21.heap _
    exact ⟨rfl, N_21⟩
set_option maxRecDepth 65536 in
set_option maxHeartbeats 40000000 in
theorem comes_1 {Post : Tables → Env → Array Value → State → Outcome → State → Prop} (hpost : ∀ tb e args s v u, (limb_1_1.after args s (.returned v) u = true ∧ limb_1_2.after args s (.returned v) u = true ∧ True) → ReturnedEndW s (.returned v) u (Jvm.fieldLocs frame_1_writes args s ++ Jvm.arrayLocs frame_1_arrays args s ++ Jvm.staticLocs frame_1_statics s) 24 3200 → Post tb e args s (.returned v) u) :
    ArmFor flags0 classFile x code maxLocals ret World_1 tables_1 room_1 Calls_1 rest_1 Pre_1 Post := by
  intro l hfl _ _ p e ha hc hk s m args below hf hA hF happ hP
  obtain ⟨hcalls, hrest, hpre⟩ := hP
  obtain ⟨-, -, -, hnamed, -, -, -, hat⟩ := (Spec.applies_iff hf).mp happ
  obtain ⟨hg, hn⟩ := and_e (Cond.before_iff.mp (show (Jvm.Cond.and given_1 narrow_1).before args s = true from hpre))
  obtain ⟨hg1, hg2⟩ := and_e hg
  obtain ⟨hg3, hg4⟩ := and_e hg2
  obtain ⟨hg5, hg6⟩ := and_e hg4
  obtain ⟨hg7, hg8⟩ := and_e hg6
  obtain ⟨hg9, hg10⟩ := and_e hg8
  obtain ⟨w0, w1, w2, w3, w4, rfl⟩ : ∃ w0 w1 w2 w3 w4 : Value, args = #[w0, w1, w2, w3, w4] := by
    have hs : args.size = 5 := by simpa [Cond.value, given_1] using hg1
    obtain ⟨L⟩ := args
    match L, hs with
    | [w0, w1, w2, w3, w4], _ => exact ⟨w0, w1, w2, w3, w4, rfl⟩
  obtain ⟨i0, ei0⟩ := is_v hg3
  obtain rfl : w0 = (.int i0) := Option.some.inj ei0
  obtain ⟨i1, ei1⟩ := is_v hg5
  obtain rfl : w1 = (.int i1) := Option.some.inj ei1
  obtain ⟨i2, ei2⟩ := is_v hg7
  obtain rfl : w2 = (.int i2) := Option.some.inj ei2
  obtain ⟨i3, ei3⟩ := is_v hg9
  obtain rfl : w3 = (.int i3) := Option.some.inj ei3
  obtain ⟨i4, ei4⟩ := is_v hg10
  obtain rfl : w4 = (.int i4) := Option.some.inj ei4
  have hw := fun d (hd : d ∈ tables_1) => atoms_spec (ws := Jvm.Cond.code x code maxLocals ret :: tables_1) hat d (List.mem_cons_of_mem _ hd)
  have hfit : Fit s := fun {y c} hc i hi => by
    obtain ⟨ha, rfl⟩ := Array.getElem?_eq_some_iff.mp hc
    have q := List.all_eq_true.mp ((Array.all_eq_true_iff_forall_mem.mp hF) _ (Array.getElem_mem ha)) i (List.mem_range.mpr hi)
    simpa [Array.getElem?_eq_getElem hi] using q
  obtain ⟨hsets, hown0⟩ := atoms_of _ (rest_1_c_eq ▸ (show rest_1_c.before _ s = true from hrest))
  obtain ⟨hn1, hn2⟩ := and_e hn
  obtain ⟨hn3, hn4⟩ := and_e hn2
  obtain ⟨hn5, hn6⟩ := and_e hn4
  obtain ⟨hn7, hn8⟩ := and_e hn6
  obtain ⟨hn9, hn10⟩ := and_e hn8
  obtain ⟨hn11, hn12⟩ := and_e hn10
  obtain ⟨hn13, hn14⟩ := and_e hn12
  obtain ⟨hn15, hn16⟩ := and_e hn14
  obtain ⟨hn17, hn18⟩ := and_e hn16
  obtain ⟨hn19, hn20⟩ := and_e hn18
  obtain ⟨hn21, hn22⟩ := and_e hn20
  obtain ⟨hn23, hn24⟩ := and_e hn22
  obtain ⟨x_FieldType_BOOL, ev_x_FieldType_BOOL⟩ := exa_v hn1
  have E_x_FieldType_BOOL := Exa.start ev_x_FieldType_BOOL hn1
  have S_FieldType_BOOL := Sta.start ev_x_FieldType_BOOL (Or.inr ⟨(ow hw 36 rfl), (ow hw 37 rfl)⟩)
  obtain ⟨x_ElementState_ABSENT, ev_x_ElementState_ABSENT⟩ := exa_v hn3
  have E_x_ElementState_ABSENT := Exa.start ev_x_ElementState_ABSENT hn3
  have S_ElementState_ABSENT := Sta.start ev_x_ElementState_ABSENT (Or.inr ⟨(ow hw 42 rfl), (ow hw 43 rfl)⟩)
  obtain ⟨x_FieldType_BYTES, ev_x_FieldType_BYTES⟩ := exa_v hn5
  have E_x_FieldType_BYTES := Exa.start ev_x_FieldType_BYTES hn5
  have S_FieldType_BYTES := Sta.start ev_x_FieldType_BYTES (Or.inr ⟨(ow hw 36 rfl), (ow hw 120 rfl)⟩)
  obtain ⟨x_ElementState_PUBLIC, ev_x_ElementState_PUBLIC⟩ := exa_v hn7
  have E_x_ElementState_PUBLIC := Exa.start ev_x_ElementState_PUBLIC hn7
  have S_ElementState_PUBLIC := Sta.start ev_x_ElementState_PUBLIC (Or.inr ⟨(ow hw 42 rfl), (ow hw 122 rfl)⟩)
  obtain ⟨x_ElementState_DELETE_ONLY, ev_x_ElementState_DELETE_ONLY⟩ := exa_v hn9
  have E_x_ElementState_DELETE_ONLY := Exa.start ev_x_ElementState_DELETE_ONLY hn9
  have S_ElementState_DELETE_ONLY := Sta.start ev_x_ElementState_DELETE_ONLY (Or.inr ⟨(ow hw 42 rfl), (ow hw 124 rfl)⟩)
  obtain ⟨x_FieldType_INT32, ev_x_FieldType_INT32⟩ := exa_v hn11
  have E_x_FieldType_INT32 := Exa.start ev_x_FieldType_INT32 hn11
  have S_FieldType_INT32 := Sta.start ev_x_FieldType_INT32 (Or.inr ⟨(ow hw 36 rfl), (ow hw 126 rfl)⟩)
  obtain ⟨x_ElementState_WRITE_ONLY, ev_x_ElementState_WRITE_ONLY⟩ := exa_v hn13
  have E_x_ElementState_WRITE_ONLY := Exa.start ev_x_ElementState_WRITE_ONLY hn13
  have S_ElementState_WRITE_ONLY := Sta.start ev_x_ElementState_WRITE_ONLY (Or.inr ⟨(ow hw 42 rfl), (ow hw 128 rfl)⟩)
  obtain ⟨x_FieldType_STRING, ev_x_FieldType_STRING⟩ := exa_v hn15
  have E_x_FieldType_STRING := Exa.start ev_x_FieldType_STRING hn15
  have S_FieldType_STRING := Sta.start ev_x_FieldType_STRING (Or.inr ⟨(ow hw 36 rfl), (ow hw 130 rfl)⟩)
  obtain ⟨x_FieldType_FLOAT, ev_x_FieldType_FLOAT⟩ := exa_v hn17
  have E_x_FieldType_FLOAT := Exa.start ev_x_FieldType_FLOAT hn17
  have S_FieldType_FLOAT := Sta.start ev_x_FieldType_FLOAT (Or.inr ⟨(ow hw 36 rfl), (ow hw 132 rfl)⟩)
  obtain ⟨x_FieldType_SINT64, ev_x_FieldType_SINT64⟩ := exa_v hn19
  have E_x_FieldType_SINT64 := Exa.start ev_x_FieldType_SINT64 hn19
  have S_FieldType_SINT64 := Sta.start ev_x_FieldType_SINT64 (Or.inr ⟨(ow hw 36 rfl), (ow hw 134 rfl)⟩)
  obtain ⟨x_FieldType_SINT32, ev_x_FieldType_SINT32⟩ := exa_v hn21
  have E_x_FieldType_SINT32 := Exa.start ev_x_FieldType_SINT32 hn21
  have S_FieldType_SINT32 := Sta.start ev_x_FieldType_SINT32 (Or.inr ⟨(ow hw 36 rfl), (ow hw 136 rfl)⟩)
  obtain ⟨x_FieldType_INT64, ev_x_FieldType_INT64⟩ := exa_v hn23
  have E_x_FieldType_INT64 := Exa.start ev_x_FieldType_INT64 hn23
  have S_FieldType_INT64 := Sta.start ev_x_FieldType_INT64 (Or.inr ⟨(ow hw 36 rfl), (ow hw 138 rfl)⟩)
  obtain ⟨x_FieldType_DOUBLE, ev_x_FieldType_DOUBLE⟩ := exa_v hn24
  have E_x_FieldType_DOUBLE := Exa.start ev_x_FieldType_DOUBLE hn24
  have S_FieldType_DOUBLE := Sta.start ev_x_FieldType_DOUBLE (Or.inr ⟨(ow hw 36 rfl), (ow hw 140 rfl)⟩)
  obtain ⟨cs, ecs⟩ := is_v (Cond.before_iff.mp (hsets _ (List.mem_of_getElem? (i := 1) rfl)))
  have S1 := Sta.start ecs (Or.inl (hsets _ (List.mem_of_getElem? (i := 0) rfl)))
  have hcs : ¬ cs = 0 := fun q => by
    have h2 := not_v (Cond.before_iff.mp (hsets _ (List.mem_of_getElem? (i := 2) rfl)))
    have h3 := eq_i ecs (Term.int_eval (0)) (congrArg Value.int q) (o := none) (first := s)
    rw [h3] at h2; cases h2
  obtain ⟨n, o, h1, h2, h3, _, L, rfl, ⟨rfl, N⟩, hq⟩ := rm_law l s _ hw tables_1 i0 i1 i2 i3 i4 cs x_FieldType_STRING x_FieldType_BYTES x_FieldType_BOOL x_FieldType_INT32 x_FieldType_INT64 x_FieldType_SINT32 x_FieldType_SINT64 x_FieldType_DOUBLE x_FieldType_FLOAT x_ElementState_ABSENT x_ElementState_DELETE_ONLY x_ElementState_WRITE_ONLY x_ElementState_PUBLIC s.heap s.heap.size (Nat.le_refl _) S1 hcs S_FieldType_STRING S_FieldType_BYTES S_FieldType_BOOL S_FieldType_INT32 S_FieldType_INT64 S_FieldType_SINT32 S_FieldType_SINT64 S_FieldType_DOUBLE S_FieldType_FLOAT S_ElementState_ABSENT S_ElementState_DELETE_ONLY S_ElementState_WRITE_ONLY S_ElementState_PUBLIC p e ha hc hk s m _ below hf ((Spec.applies_iff_loose hf).mp happ).1 ⟨rfl, State.Warmed39.refl s, rfl⟩ trivial
  exact ⟨n, _, h1, h2, h3, hpost _ _ _ _ _ _ ⟨Cond.after_iff.mpr rfl, Cond.after_iff.mpr (eq_i res_at (Term.int_eval (1)) rfl), trivial⟩ ⟨hq.1, hq.2.1, hq.2.2.1, (hq.2.2.2.sift fun y hy => Or.inr (N y hy)).mono (by decide) (by decide)⟩⟩
theorem main_1_1 : Claimed_1_1 := comes_1 fun _ _ _ _ _ _ h hF => ⟨h.1, hF⟩
theorem main_1_2 : Claimed_1_2 := comes_1 fun _ _ _ _ _ _ h hF => ⟨h.2.1, hF⟩
end Jvm.Pilot.@@N@@
namespace Jvm.Pilot.@@N@@
open Jvm Jvm.ClassFile Sem Op Lib Jvm.Free Jvm.Stand Jvm.Pilot.@@N@@.Jvm.D
/-! MADE BY PROGRAM (witnessworld.py) out of the Statement's table words and the real class files: 25 classes; the members and pool entries that the words name. The judged class is class 1, her method 1. -/
namespace start1
open Jvm.ClassFile
def u (s : String) : CpInfo := .utf8 (stringToUtf16 s)
/-- a pool by its gaps: so many unusable entries, then the entry; so many at the end -/
def gap : Nat → List CpInfo → List CpInfo
  | 0, r => r
  | n + 1, r => .unusable :: gap n r
def poolList (es : List (Nat × CpInfo)) (last : Nat) : List CpInfo := es.foldr (fun e r => gap e.1 (e.2 :: r)) (gap last [])
def pool (es : List (Nat × CpInfo)) (last : Nat) : Array CpInfo := ⟨poolList es last⟩
def fileOf (pool : Array CpInfo) (this : Nat) (attrs : Array Attribute := #[]) (ms : Array MethodInfo := #[]) (fl : Nat := 33) (sup : Nat := 0) (ifs : Array Nat := #[]) (fds : Array FieldInfo := #[]) : ClassFile where
  minorVersion := 0
  majorVersion := 65
  constantPool := pool
  accessFlags := fl
  thisClass := this
  superClass := sup
  interfaces := ifs
  fields := fds
  methods := ms
  attributes := attrs
def plain (name : String) (sup : Option ClassId) : Class where
  name := name
  kind := .ordinary
  loader := none
  accessFlags := 33
  super := sup
  interfaces := #[]
  cf := none
  fields := #[]
  methods := #[]
  instanceTypes := #[]
  staticTypes := #[]
  resolved := #[]
  callSites := []
  init := .initialized
  statics := none
  mirror := none

def pool0 : Array CpInfo := pool [(5, u "<init>"), (0, u "()V"), (1, .class_ 10), (1, u "java/lang/Object")] 113

def k0c0 : Code := { maxStack := 0, maxLocals := 1, code := object_method_1_code, exceptionTable := #[], attributes := #[] }
def k0m0 : Method := { name := "<init>", desc := "()V", sig := { parameters := [], returnType := none }, accessFlags := 1, code := some k0c0 }
/-- java/lang/Object -/
def k0 : Class := { plain "java/lang/Object" none with
  accessFlags := 33
  interfaces := #[]
  cf := some (fileOf pool0 8 #[] #[{ accessFlags := 1, nameIndex := 5, descriptorIndex := 6, attributes := #[] }] 33 0 #[] #[])
  fields := #[]
  methods := #[k0m0]
  instanceTypes := #[]
  staticTypes := #[]
  resolved := Array.replicate 124 none
  statics := none }

def pool1 : Array CpInfo := pool [(2, .class_ 4), (1, u "java/lang/Object"), (0, u "<init>"), (0, u "()V"), (0, .class_ 8), (0, u "java/lang/String"), (0, .methodref 7 10), (0, .nameAndType 5 11), (0, u "([C)V"), (0, .integer 2147483647), (0, .methodref 14 15), (0, .class_ 16), (0, .nameAndType 17 18), (0, u "com/example/rolling_rung/rollingrung/schema/FieldWithStatePinLaw"), (0, u "typeOf"), (0, u "(I)Lcom/example/rolling_rung/rollingrung/schema/FieldType;"), (0, .methodref 14 20), (0, .nameAndType 21 22), (0, u "stateOf"), (0, u "(I)Lcom/example/rolling_rung/rollingrung/schema/ElementState;"), (0, .class_ 24), (0, u "com/example/rolling_rung/rollingrung/schema/Field"), (0, .methodref 23 26), (0, .nameAndType 5 27), (0, u "(Ljava/lang/String;ILcom/example/rolling_rung/rollingrung/schema/FieldType;ZZLcom/example/rolling_rung/rollingrung/schema/ElementState;)V"), (0, .methodref 23 29), (0, .nameAndType 30 31), (0, u "withState"), (0, u "(Lcom/example/rolling_rung/rollingrung/schema/ElementState;)Lcom/example/rolling_rung/rollingrung/schema/Field;"), (0, .methodref 23 33), (0, .nameAndType 34 35), (0, u "name"), (0, u "()Ljava/lang/String;"), (0, .methodref 7 37), (0, .nameAndType 38 39), (0, u "equals"), (0, u "(Ljava/lang/Object;)Z"), (0, .methodref 23 41), (0, .nameAndType 42 43), (0, u "number"), (0, u "()I"), (0, .methodref 23 45), (0, .nameAndType 46 47), (0, u "type"), (0, u "()Lcom/example/rolling_rung/rollingrung/schema/FieldType;"), (0, .methodref 23 49), (0, .nameAndType 50 51), (0, u "required"), (0, u "()Z"), (0, .methodref 23 53), (0, .nameAndType 54 51), (0, u "repeated"), (0, .methodref 23 56), (0, .nameAndType 57 58), (0, u "state"), (0, u "()Lcom/example/rolling_rung/rollingrung/schema/ElementState;"), (0, .fieldref 60 61), (0, .class_ 62), (0, .nameAndType 63 64), (0, u "com/example/rolling_rung/rollingrung/schema/FieldType"), (0, u "STRING"), (0, u "Lcom/example/rolling_rung/rollingrung/schema/FieldType;"), (0, .fieldref 60 66), (0, .nameAndType 67 64), (0, u "BYTES"), (0, .fieldref 60 69), (0, .nameAndType 70 64), (0, u "BOOL"), (0, .fieldref 60 72), (0, .nameAndType 73 64), (0, u "INT32"), (0, .fieldref 60 75), (0, .nameAndType 76 64), (0, u "INT64"), (0, .fieldref 60 78), (0, .nameAndType 79 64), (0, u "SINT32"), (0, .fieldref 60 81), (0, .nameAndType 82 64), (0, u "SINT64"), (0, .fieldref 60 84), (0, .nameAndType 85 64), (0, u "DOUBLE"), (0, .fieldref 60 87), (0, .nameAndType 88 64), (0, u "FLOAT"), (0, .fieldref 90 91), (0, .class_ 92), (0, .nameAndType 93 94), (0, u "com/example/rolling_rung/rollingrung/schema/ElementState"), (0, u "ABSENT"), (0, u "Lcom/example/rolling_rung/rollingrung/schema/ElementState;"), (0, .fieldref 90 96), (0, .nameAndType 97 94), (0, u "DELETE_ONLY"), (0, .fieldref 90 99), (0, .nameAndType 100 94), (0, u "WRITE_ONLY"), (0, .fieldref 90 102), (0, .nameAndType 103 94), (0, u "PUBLIC"), (2, u "law"), (0, u "(IIIII)Z")] 5

def k1m0 : Method := { name := "<init>", desc := "()V", sig := { parameters := [], returnType := none }, accessFlags := 1, code := none }
def k1c1 : Code := { maxStack := 8, maxLocals := 14, code := code, exceptionTable := #[], attributes := #[] }
def k1m1 : Method := { name := "law", desc := "(IIIII)Z", sig := { parameters := [.int, .int, .int, .int, .int], returnType := some .boolean }, accessFlags := 9, code := some k1c1 }
def k1c2 : Code := { maxStack := 2, maxLocals := 1, code := method_3_code, exceptionTable := #[], attributes := #[] }
def k1m2 : Method := { name := "typeOf", desc := "(I)Lcom/example/rolling_rung/rollingrung/schema/FieldType;", sig := { parameters := [.int], returnType := some (.object "com/example/rolling_rung/rollingrung/schema/FieldType") }, accessFlags := 10, code := some k1c2 }
def k1c3 : Code := { maxStack := 2, maxLocals := 1, code := method_4_code, exceptionTable := #[], attributes := #[] }
def k1m3 : Method := { name := "stateOf", desc := "(I)Lcom/example/rolling_rung/rollingrung/schema/ElementState;", sig := { parameters := [.int], returnType := some (.object "com/example/rolling_rung/rollingrung/schema/ElementState") }, accessFlags := 10, code := some k1c3 }
/-- com/example/rolling_rung/rollingrung/schema/FieldWithStatePinLaw -/
def k1 : Class := { plain "com/example/rolling_rung/rollingrung/schema/FieldWithStatePinLaw" (some 0) with
  accessFlags := 49
  interfaces := #[]
  cf := some (fileOf pool1 14 #[] #[{ accessFlags := 1, nameIndex := 5, descriptorIndex := 6, attributes := #[] }, { accessFlags := 9, nameIndex := 106, descriptorIndex := 107, attributes := #[] }, { accessFlags := 10, nameIndex := 17, descriptorIndex := 18, attributes := #[] }, { accessFlags := 10, nameIndex := 21, descriptorIndex := 22, attributes := #[] }] 49 2 #[] #[])
  fields := #[]
  methods := #[k1m0, k1m1, k1m2, k1m3]
  instanceTypes := #[]
  staticTypes := #[]
  resolved := Array.replicate 113 none
  statics := none }

def pool2 : Array CpInfo := pool [(1, .class_ 2), (0, u "java/io/Serializable"), (0, .class_ 4), (0, u "java/lang/Object")] 2

/-- java/io/Serializable -/
def k2 : Class := { plain "java/io/Serializable" (some 0) with
  accessFlags := 1537
  interfaces := #[]
  cf := some (fileOf pool2 1 #[] #[] 1537 3 #[] #[])
  fields := #[]
  methods := #[]
  instanceTypes := #[]
  staticTypes := #[]
  resolved := Array.replicate 7 none
  statics := none }

def pool3 : Array CpInfo := pool [(1, .class_ 2), (0, u "java/lang/Comparable"), (0, .class_ 4), (0, u "java/lang/Object")] 7

/-- java/lang/Comparable -/
def k3 : Class := { plain "java/lang/Comparable" (some 0) with
  accessFlags := 1537
  interfaces := #[]
  cf := some (fileOf pool3 1 #[] #[] 1537 3 #[] #[])
  fields := #[]
  methods := #[]
  instanceTypes := #[]
  staticTypes := #[]
  resolved := Array.replicate 12 none
  statics := none }

def pool4 : Array CpInfo := pool [(2, .class_ 4), (1, u "java/lang/CharSequence"), (42, .class_ 48), (0, u "java/lang/CharSequence$1CodePointIterator"), (10, .class_ 60), (0, u "java/lang/CharSequence$1CharIterator"), (5, .class_ 67), (0, u "java/lang/Object")] 63

/-- java/lang/CharSequence -/
def k4 : Class := { plain "java/lang/CharSequence" (some 0) with
  accessFlags := 1537
  interfaces := #[]
  cf := some (fileOf pool4 2 #[.nestMembers #[47, 59]] #[] 1537 66 #[] #[])
  fields := #[]
  methods := #[]
  instanceTypes := #[]
  staticTypes := #[]
  resolved := Array.replicate 131 none
  statics := none }

def pool5 : Array CpInfo := pool [(1, .class_ 2), (0, u "java/lang/constant/Constable"), (0, .class_ 4), (0, u "java/lang/Object")] 6

/-- java/lang/constant/Constable -/
def k5 : Class := { plain "java/lang/constant/Constable" (some 0) with
  accessFlags := 1537
  interfaces := #[]
  cf := some (fileOf pool5 1 #[] #[] 1537 3 #[] #[])
  fields := #[]
  methods := #[]
  instanceTypes := #[]
  staticTypes := #[]
  resolved := Array.replicate 11 none
  statics := none }

def pool6 : Array CpInfo := pool [(1, .class_ 2), (0, u "java/lang/constant/ConstantDesc"), (0, .class_ 4), (0, u "java/lang/Object")] 32

/-- java/lang/constant/ConstantDesc -/
def k6 : Class := { plain "java/lang/constant/ConstantDesc" (some 0) with
  accessFlags := 1537
  interfaces := #[]
  cf := some (fileOf pool6 1 #[] #[] 1537 3 #[] #[])
  fields := #[]
  methods := #[]
  instanceTypes := #[]
  staticTypes := #[]
  resolved := Array.replicate 37 none
  statics := none }

def pool7 : Array CpInfo := pool [(1, .methodref 2 3), (0, .class_ 4), (0, .nameAndType 5 6), (0, u "java/lang/Object"), (0, u "<init>"), (0, u "()V"), (2, .fieldref 10 11), (0, .class_ 12), (0, .nameAndType 13 14), (0, u "java/lang/String"), (0, u "value"), (0, u "[B"), (0, .fieldref 10 16), (0, .nameAndType 17 18), (0, u "coder"), (0, u "B"), (2, u "hash"), (0, u "I"), (2, u "hashIsZero"), (0, u "Z"), (0, .methodref 10 28), (0, .nameAndType 5 29), (0, u "([CIILjava/lang/Void;)V"), (8, .fieldref 10 39), (0, .nameAndType 40 26), (0, u "COMPACT_STRINGS"), (1, .class_ 44), (1, u "java/lang/StringUTF16"), (0, u "compress"), (1, .methodref 42 48), (0, .nameAndType 49 50), (0, u "coderFromArrayLen"), (0, u "([BI)B"), (126, .methodref 42 178), (0, .nameAndType 45 179), (0, u "([CII)[B"), (363, u "equals"), (29, u "(Ljava/lang/Object;)Z"), (1, .class_ 576), (0, u "java/lang/CharSequence"), (22, u "CASE_INSENSITIVE_ORDER"), (0, u "Ljava/util/Comparator;"), (409, u "([C)V"), (90, u "serialPersistentFields"), (0, u "[Ljava/io/ObjectStreamField;"), (0, .class_ 1104), (0, u "java/lang/String$CaseInsensitiveComparator"), (1, .class_ 1107), (0, u "java/io/Serializable"), (0, .class_ 1109), (0, u "java/lang/Comparable"), (0, .class_ 1111), (0, u "java/lang/constant/Constable"), (0, .class_ 1113), (0, u "java/lang/constant/ConstantDesc"), (2, u "serialVersionUID"), (0, u "J"), (3, u "REPL"), (0, u "C"), (2, u "LATIN1"), (1, u "UTF16")] 323

def k7m0 : Method := { name := "<init>", desc := "()V", sig := { parameters := [], returnType := none }, accessFlags := 1, code := none }
def k7c1 : Code := { maxStack := 5, maxLocals := 2, code := jdk_42_method_3_code, exceptionTable := #[], attributes := #[] }
def k7m1 : Method := { name := "<init>", desc := "([C)V", sig := { parameters := [(.array .char)], returnType := none }, accessFlags := 1, code := some k7c1 }
def k7c2 : Code := { maxStack := 2, maxLocals := 3, code := jdk_42_method_66_code, exceptionTable := #[], attributes := #[] }
def k7m2 : Method := { name := "equals", desc := "(Ljava/lang/Object;)Z", sig := { parameters := [(.object "java/lang/Object")], returnType := some .boolean }, accessFlags := 1, code := some k7c2 }
def k7c3 : Code := { maxStack := 4, maxLocals := 6, code := jdk_42_method_149_code, exceptionTable := #[], attributes := #[] }
def k7m3 : Method := { name := "<init>", desc := "([CIILjava/lang/Void;)V", sig := { parameters := [(.array .char), .int, .int, (.object "java/lang/Void")], returnType := none }, accessFlags := 2, code := some k7c3 }
/-- java/lang/String -/
def k7 : Class := { plain "java/lang/String" (some 0) with
  accessFlags := 49
  interfaces := #[2, 3, 4, 5, 6]
  cf := some (fileOf pool7 10 #[.nestMembers #[1103]] #[{ accessFlags := 1, nameIndex := 5, descriptorIndex := 6, attributes := #[] }, { accessFlags := 1, nameIndex := 5, descriptorIndex := 1010, attributes := #[] }, { accessFlags := 1, nameIndex := 543, descriptorIndex := 573, attributes := #[] }, { accessFlags := 2, nameIndex := 5, descriptorIndex := 29, attributes := #[] }] 49 2 #[1106, 1108, 575, 1110, 1112] #[{ accessFlags := 18, nameIndex := 13, descriptorIndex := 14, attributes := #[] }, { accessFlags := 18, nameIndex := 17, descriptorIndex := 18, attributes := #[] }, { accessFlags := 2, nameIndex := 21, descriptorIndex := 22, attributes := #[] }, { accessFlags := 2, nameIndex := 25, descriptorIndex := 26, attributes := #[] }, { accessFlags := 26, nameIndex := 1116, descriptorIndex := 1117, attributes := #[] }, { accessFlags := 24, nameIndex := 40, descriptorIndex := 26, attributes := #[] }, { accessFlags := 26, nameIndex := 1101, descriptorIndex := 1102, attributes := #[] }, { accessFlags := 26, nameIndex := 1121, descriptorIndex := 1122, attributes := #[] }, { accessFlags := 25, nameIndex := 599, descriptorIndex := 600, attributes := #[] }, { accessFlags := 24, nameIndex := 1125, descriptorIndex := 18, attributes := #[] }, { accessFlags := 24, nameIndex := 1127, descriptorIndex := 18, attributes := #[] }])
  fields := #[{ name := "value", type := (.array .byte), accessFlags := 18, slot := 0, constantValue := 0 }, { name := "coder", type := .byte, accessFlags := 18, slot := 1, constantValue := 0 }, { name := "hash", type := .int, accessFlags := 2, slot := 2, constantValue := 0 }, { name := "hashIsZero", type := .boolean, accessFlags := 2, slot := 3, constantValue := 0 }, { name := "serialVersionUID", type := .long, accessFlags := 26, slot := 0, constantValue := 0 }, { name := "COMPACT_STRINGS", type := .boolean, accessFlags := 24, slot := 1, constantValue := 0 }, { name := "serialPersistentFields", type := (.array (.object "java/io/ObjectStreamField")), accessFlags := 26, slot := 2, constantValue := 0 }, { name := "REPL", type := .char, accessFlags := 26, slot := 3, constantValue := 0 }, { name := "CASE_INSENSITIVE_ORDER", type := (.object "java/util/Comparator"), accessFlags := 25, slot := 4, constantValue := 0 }, { name := "LATIN1", type := .byte, accessFlags := 24, slot := 5, constantValue := 0 }, { name := "UTF16", type := .byte, accessFlags := 24, slot := 6, constantValue := 0 }]
  methods := #[k7m0, k7m1, k7m2, k7m3]
  instanceTypes := #[(.array .byte), .byte, .int, .boolean]
  staticTypes := #[.long, .boolean, (.array (.object "java/io/ObjectStreamField")), .char, (.object "java/util/Comparator"), .byte, .byte]
  resolved := Array.replicate 1451 none
  statics := some 0 }

def pool8 : Array CpInfo := pool [(6, .class_ 8), (1, u "java/lang/Object"), (0, u "<init>"), (0, u "()V"), (1, .class_ 14), (1, u "java/lang/StringUTF16"), (31, u "$assertionsDisabled"), (0, u "Z"), (13, u "HI_BYTE_SHIFT"), (0, u "I"), (2, u "LO_BYTE_SHIFT"), (49, .methodref 12 116), (0, .nameAndType 117 118), (0, u "compress"), (0, u "([CI[BII)I"), (3, u "([CII)[B"), (138, u "coderFromArrayLen"), (0, u "([BI)B"), (106, .class_ 371), (1, u "java/lang/StringUTF16$LinesSpliterator"), (58, u "MAX_LENGTH"), (196, .class_ 628), (0, u "java/lang/StringUTF16$CodePointsSpliterator"), (0, .class_ 630), (0, u "java/lang/StringUTF16$CharsSpliterator")] 4

def k8m0 : Method := { name := "<init>", desc := "()V", sig := { parameters := [], returnType := none }, accessFlags := 0, code := none }
def k8c1 : Code := { maxStack := 2, maxLocals := 2, code := jdk_52_method_15_code, exceptionTable := #[], attributes := #[] }
def k8m1 : Method := { name := "coderFromArrayLen", desc := "([BI)B", sig := { parameters := [(.array .byte), .int], returnType := some .byte }, accessFlags := 8, code := some k8c1 }
def k8c2 : Code := { maxStack := 5, maxLocals := 6, code := jdk_52_method_16_code, exceptionTable := #[], attributes := #[] }
def k8m2 : Method := { name := "compress", desc := "([CII)[B", sig := { parameters := [(.array .char), .int, .int], returnType := some (.array .byte) }, accessFlags := 9, code := some k8c2 }
def k8c3 : Code := { maxStack := 3, maxLocals := 7, code := jdk_52_method_21_code, exceptionTable := #[], attributes := #[] }
def k8m3 : Method := { name := "compress", desc := "([CI[BII)I", sig := { parameters := [(.array .char), .int, (.array .byte), .int, .int], returnType := some .int }, accessFlags := 9, code := some k8c3 }
/-- java/lang/StringUTF16 -/
def k8 : Class := { plain "java/lang/StringUTF16" (some 0) with
  accessFlags := 48
  interfaces := #[]
  cf := some (fileOf pool8 12 #[.nestMembers #[627, 629, 369]] #[{ accessFlags := 0, nameIndex := 9, descriptorIndex := 10, attributes := #[] }, { accessFlags := 8, nameIndex := 261, descriptorIndex := 262, attributes := #[] }, { accessFlags := 9, nameIndex := 117, descriptorIndex := 122, attributes := #[] }, { accessFlags := 9, nameIndex := 117, descriptorIndex := 118, attributes := #[] }] 48 6 #[] #[{ accessFlags := 26, nameIndex := 61, descriptorIndex := 62, attributes := #[] }, { accessFlags := 26, nameIndex := 65, descriptorIndex := 62, attributes := #[] }, { accessFlags := 24, nameIndex := 430, descriptorIndex := 62, attributes := #[] }, { accessFlags := 4120, nameIndex := 46, descriptorIndex := 47, attributes := #[] }])
  fields := #[{ name := "HI_BYTE_SHIFT", type := .int, accessFlags := 26, slot := 0, constantValue := 0 }, { name := "LO_BYTE_SHIFT", type := .int, accessFlags := 26, slot := 1, constantValue := 0 }, { name := "MAX_LENGTH", type := .int, accessFlags := 24, slot := 2, constantValue := 0 }, { name := "$assertionsDisabled", type := .boolean, accessFlags := 4120, slot := 3, constantValue := 0 }]
  methods := #[k8m0, k8m1, k8m2, k8m3]
  instanceTypes := #[]
  staticTypes := #[.int, .int, .int, .boolean]
  resolved := Array.replicate 635 none
  statics := none }

def pool9 : Array CpInfo := pool [(2, .class_ 4), (1, u "java/lang/Enum"), (0, u "name"), (0, u "Ljava/lang/String;"), (2, u "ordinal"), (0, u "I"), (1, .class_ 14), (1, u "java/lang/Object"), (4, u "hash"), (86, .class_ 108), (1, u "java/lang/Enum$EnumDesc"), (2, .class_ 112), (0, u "java/lang/constant/Constable"), (0, .class_ 114), (0, u "java/lang/Comparable"), (0, .class_ 116), (0, u "java/io/Serializable")] 87

/-- java/lang/Enum -/
def k9 : Class := { plain "java/lang/Enum" (some 0) with
  accessFlags := 1057
  interfaces := #[5, 3, 2]
  cf := some (fileOf pool9 2 #[.nestMembers #[106]] #[] 1057 12 #[111, 113, 115] #[{ accessFlags := 18, nameIndex := 5, descriptorIndex := 6, attributes := #[] }, { accessFlags := 18, nameIndex := 9, descriptorIndex := 10, attributes := #[] }, { accessFlags := 2, nameIndex := 19, descriptorIndex := 10, attributes := #[] }])
  fields := #[{ name := "name", type := (.object "java/lang/String"), accessFlags := 18, slot := 0, constantValue := 0 }, { name := "ordinal", type := .int, accessFlags := 18, slot := 1, constantValue := 0 }, { name := "hash", type := .int, accessFlags := 2, slot := 2, constantValue := 0 }]
  methods := #[]
  instanceTypes := #[(.object "java/lang/String"), .int, .int]
  staticTypes := #[]
  resolved := Array.replicate 204 none
  statics := none }

def pool10 : Array CpInfo := pool [(1, .class_ 2), (0, u "com/example/rolling_rung/rollingrung/schema/FieldType"), (2, u "STRING"), (0, u "Lcom/example/rolling_rung/rollingrung/schema/FieldType;"), (2, u "BYTES"), (2, u "BOOL"), (2, u "INT32"), (2, u "INT64"), (2, u "SINT32"), (2, u "SINT64"), (2, u "DOUBLE"), (2, u "FLOAT"), (2, u "$VALUES"), (0, u "[Lcom/example/rolling_rung/rollingrung/schema/FieldType;"), (6, .class_ 43), (1, u "java/lang/Enum"), (8, u "schemaName"), (0, u "Ljava/lang/String;")] 69

/-- com/example/rolling_rung/rollingrung/schema/FieldType -/
def k10 : Class := { plain "com/example/rolling_rung/rollingrung/schema/FieldType" (some 9) with
  accessFlags := 16433
  interfaces := #[]
  cf := some (fileOf pool10 1 #[] #[] 16433 41 #[] #[{ accessFlags := 16409, nameIndex := 5, descriptorIndex := 6, attributes := #[] }, { accessFlags := 16409, nameIndex := 9, descriptorIndex := 6, attributes := #[] }, { accessFlags := 16409, nameIndex := 12, descriptorIndex := 6, attributes := #[] }, { accessFlags := 16409, nameIndex := 15, descriptorIndex := 6, attributes := #[] }, { accessFlags := 16409, nameIndex := 18, descriptorIndex := 6, attributes := #[] }, { accessFlags := 16409, nameIndex := 21, descriptorIndex := 6, attributes := #[] }, { accessFlags := 16409, nameIndex := 24, descriptorIndex := 6, attributes := #[] }, { accessFlags := 16409, nameIndex := 27, descriptorIndex := 6, attributes := #[] }, { accessFlags := 16409, nameIndex := 30, descriptorIndex := 6, attributes := #[] }, { accessFlags := 18, nameIndex := 52, descriptorIndex := 53, attributes := #[] }, { accessFlags := 4122, nameIndex := 33, descriptorIndex := 34, attributes := #[] }])
  fields := #[{ name := "STRING", type := (.object "com/example/rolling_rung/rollingrung/schema/FieldType"), accessFlags := 16409, slot := 0, constantValue := 0 }, { name := "BYTES", type := (.object "com/example/rolling_rung/rollingrung/schema/FieldType"), accessFlags := 16409, slot := 1, constantValue := 0 }, { name := "BOOL", type := (.object "com/example/rolling_rung/rollingrung/schema/FieldType"), accessFlags := 16409, slot := 2, constantValue := 0 }, { name := "INT32", type := (.object "com/example/rolling_rung/rollingrung/schema/FieldType"), accessFlags := 16409, slot := 3, constantValue := 0 }, { name := "INT64", type := (.object "com/example/rolling_rung/rollingrung/schema/FieldType"), accessFlags := 16409, slot := 4, constantValue := 0 }, { name := "SINT32", type := (.object "com/example/rolling_rung/rollingrung/schema/FieldType"), accessFlags := 16409, slot := 5, constantValue := 0 }, { name := "SINT64", type := (.object "com/example/rolling_rung/rollingrung/schema/FieldType"), accessFlags := 16409, slot := 6, constantValue := 0 }, { name := "DOUBLE", type := (.object "com/example/rolling_rung/rollingrung/schema/FieldType"), accessFlags := 16409, slot := 7, constantValue := 0 }, { name := "FLOAT", type := (.object "com/example/rolling_rung/rollingrung/schema/FieldType"), accessFlags := 16409, slot := 8, constantValue := 0 }, { name := "schemaName", type := (.object "java/lang/String"), accessFlags := 18, slot := 3, constantValue := 0 }, { name := "$VALUES", type := (.array (.object "com/example/rolling_rung/rollingrung/schema/FieldType")), accessFlags := 4122, slot := 9, constantValue := 0 }]
  methods := #[]
  instanceTypes := #[(.object "java/lang/String"), .int, .int, (.object "java/lang/String")]
  staticTypes := #[(.object "com/example/rolling_rung/rollingrung/schema/FieldType"), (.object "com/example/rolling_rung/rollingrung/schema/FieldType"), (.object "com/example/rolling_rung/rollingrung/schema/FieldType"), (.object "com/example/rolling_rung/rollingrung/schema/FieldType"), (.object "com/example/rolling_rung/rollingrung/schema/FieldType"), (.object "com/example/rolling_rung/rollingrung/schema/FieldType"), (.object "com/example/rolling_rung/rollingrung/schema/FieldType"), (.object "com/example/rolling_rung/rollingrung/schema/FieldType"), (.object "com/example/rolling_rung/rollingrung/schema/FieldType"), (.array (.object "com/example/rolling_rung/rollingrung/schema/FieldType"))]
  resolved := Array.replicate 123 none
  statics := some 1 }

def pool11 : Array CpInfo := pool [(1, .class_ 2), (0, u "com/example/rolling_rung/rollingrung/schema/ElementState"), (2, u "ABSENT"), (0, u "Lcom/example/rolling_rung/rollingrung/schema/ElementState;"), (2, u "DELETE_ONLY"), (2, u "WRITE_ONLY"), (2, u "PUBLIC"), (2, u "$VALUES"), (0, u "[Lcom/example/rolling_rung/rollingrung/schema/ElementState;"), (6, .class_ 28), (1, u "java/lang/Enum"), (8, u "schemaName"), (0, u "Ljava/lang/String;")] 54

/-- com/example/rolling_rung/rollingrung/schema/ElementState -/
def k11 : Class := { plain "com/example/rolling_rung/rollingrung/schema/ElementState" (some 9) with
  accessFlags := 16433
  interfaces := #[]
  cf := some (fileOf pool11 1 #[] #[] 16433 26 #[] #[{ accessFlags := 16409, nameIndex := 5, descriptorIndex := 6, attributes := #[] }, { accessFlags := 16409, nameIndex := 9, descriptorIndex := 6, attributes := #[] }, { accessFlags := 16409, nameIndex := 12, descriptorIndex := 6, attributes := #[] }, { accessFlags := 16409, nameIndex := 15, descriptorIndex := 6, attributes := #[] }, { accessFlags := 18, nameIndex := 37, descriptorIndex := 38, attributes := #[] }, { accessFlags := 4122, nameIndex := 18, descriptorIndex := 19, attributes := #[] }])
  fields := #[{ name := "ABSENT", type := (.object "com/example/rolling_rung/rollingrung/schema/ElementState"), accessFlags := 16409, slot := 0, constantValue := 0 }, { name := "DELETE_ONLY", type := (.object "com/example/rolling_rung/rollingrung/schema/ElementState"), accessFlags := 16409, slot := 1, constantValue := 0 }, { name := "WRITE_ONLY", type := (.object "com/example/rolling_rung/rollingrung/schema/ElementState"), accessFlags := 16409, slot := 2, constantValue := 0 }, { name := "PUBLIC", type := (.object "com/example/rolling_rung/rollingrung/schema/ElementState"), accessFlags := 16409, slot := 3, constantValue := 0 }, { name := "schemaName", type := (.object "java/lang/String"), accessFlags := 18, slot := 3, constantValue := 0 }, { name := "$VALUES", type := (.array (.object "com/example/rolling_rung/rollingrung/schema/ElementState")), accessFlags := 4122, slot := 4, constantValue := 0 }]
  methods := #[]
  instanceTypes := #[(.object "java/lang/String"), .int, .int, (.object "java/lang/String")]
  staticTypes := #[(.object "com/example/rolling_rung/rollingrung/schema/ElementState"), (.object "com/example/rolling_rung/rollingrung/schema/ElementState"), (.object "com/example/rolling_rung/rollingrung/schema/ElementState"), (.object "com/example/rolling_rung/rollingrung/schema/ElementState"), (.array (.object "com/example/rolling_rung/rollingrung/schema/ElementState"))]
  resolved := Array.replicate 93 none
  statics := some 2 }

def pool12 : Array CpInfo := pool [(1, .methodref 2 3), (0, .class_ 4), (0, .nameAndType 5 6), (0, u "java/lang/Object"), (0, u "<init>"), (0, u "()V"), (0, .class_ 8), (0, u "java/lang/Record")] 13

def k12c0 : Code := { maxStack := 1, maxLocals := 1, code := jdk_30_method_1_code, exceptionTable := #[], attributes := #[] }
def k12m0 : Method := { name := "<init>", desc := "()V", sig := { parameters := [], returnType := none }, accessFlags := 4, code := some k12c0 }
/-- java/lang/Record -/
def k12 : Class := { plain "java/lang/Record" (some 0) with
  accessFlags := 1057
  interfaces := #[]
  cf := some (fileOf pool12 7 #[] #[{ accessFlags := 4, nameIndex := 5, descriptorIndex := 6, attributes := #[] }] 1057 2 #[] #[])
  fields := #[]
  methods := #[k12m0]
  instanceTypes := #[]
  staticTypes := #[]
  resolved := Array.replicate 22 none
  statics := none }

def pool13 : Array CpInfo := pool [(1, .methodref 2 3), (0, .class_ 4), (0, .nameAndType 5 6), (0, u "java/lang/Record"), (0, u "<init>"), (0, u "()V"), (0, .string 8), (0, u "name"), (0, .methodref 10 11), (0, .class_ 12), (0, .nameAndType 13 14), (0, u "java/util/Objects"), (0, u "requireNonNull"), (0, u "(Ljava/lang/Object;Ljava/lang/String;)Ljava/lang/Object;"), (0, .string 16), (0, u "type"), (0, .string 18), (0, u "state"), (0, .fieldref 20 21), (0, .class_ 22), (0, .nameAndType 8 23), (0, u "com/example/rolling_rung/rollingrung/schema/Field"), (0, u "Ljava/lang/String;"), (0, .fieldref 20 25), (0, .nameAndType 26 27), (0, u "number"), (0, u "I"), (0, .fieldref 20 29), (0, .nameAndType 16 30), (0, u "Lcom/example/rolling_rung/rollingrung/schema/FieldType;"), (0, .fieldref 20 32), (0, .nameAndType 33 34), (0, u "required"), (0, u "Z"), (0, .fieldref 20 36), (0, .nameAndType 37 34), (0, u "repeated"), (0, .fieldref 20 39), (0, .nameAndType 18 40), (0, u "Lcom/example/rolling_rung/rollingrung/schema/ElementState;"), (0, .methodref 20 42), (0, .nameAndType 5 43), (0, u "(Ljava/lang/String;ILcom/example/rolling_rung/rollingrung/schema/FieldType;ZZLcom/example/rolling_rung/rollingrung/schema/ElementState;)V"), (20, u "withState"), (0, u "(Lcom/example/rolling_rung/rollingrung/schema/ElementState;)Lcom/example/rolling_rung/rollingrung/schema/Field;"), (3, u "()Ljava/lang/String;"), (0, u "()I"), (0, u "()Lcom/example/rolling_rung/rollingrung/schema/FieldType;"), (0, u "()Z"), (0, u "()Lcom/example/rolling_rung/rollingrung/schema/ElementState;")] 25

def k13c0 : Code := { maxStack := 2, maxLocals := 7, code := prog_32_method_1_code, exceptionTable := #[], attributes := #[] }
def k13m0 : Method := { name := "<init>", desc := "(Ljava/lang/String;ILcom/example/rolling_rung/rollingrung/schema/FieldType;ZZLcom/example/rolling_rung/rollingrung/schema/ElementState;)V", sig := { parameters := [(.object "java/lang/String"), .int, (.object "com/example/rolling_rung/rollingrung/schema/FieldType"), .boolean, .boolean, (.object "com/example/rolling_rung/rollingrung/schema/ElementState")], returnType := none }, accessFlags := 1, code := some k13c0 }
def k13c1 : Code := { maxStack := 8, maxLocals := 2, code := prog_32_method_2_code, exceptionTable := #[], attributes := #[] }
def k13m1 : Method := { name := "withState", desc := "(Lcom/example/rolling_rung/rollingrung/schema/ElementState;)Lcom/example/rolling_rung/rollingrung/schema/Field;", sig := { parameters := [(.object "com/example/rolling_rung/rollingrung/schema/ElementState")], returnType := some (.object "com/example/rolling_rung/rollingrung/schema/Field") }, accessFlags := 1, code := some k13c1 }
def k13c2 : Code := { maxStack := 1, maxLocals := 1, code := prog_32_method_7_code, exceptionTable := #[], attributes := #[] }
def k13m2 : Method := { name := "name", desc := "()Ljava/lang/String;", sig := { parameters := [], returnType := some (.object "java/lang/String") }, accessFlags := 1, code := some k13c2 }
def k13c3 : Code := { maxStack := 1, maxLocals := 1, code := prog_32_method_8_code, exceptionTable := #[], attributes := #[] }
def k13m3 : Method := { name := "number", desc := "()I", sig := { parameters := [], returnType := some .int }, accessFlags := 1, code := some k13c3 }
def k13c4 : Code := { maxStack := 1, maxLocals := 1, code := prog_32_method_9_code, exceptionTable := #[], attributes := #[] }
def k13m4 : Method := { name := "type", desc := "()Lcom/example/rolling_rung/rollingrung/schema/FieldType;", sig := { parameters := [], returnType := some (.object "com/example/rolling_rung/rollingrung/schema/FieldType") }, accessFlags := 1, code := some k13c4 }
def k13c5 : Code := { maxStack := 1, maxLocals := 1, code := prog_32_method_10_code, exceptionTable := #[], attributes := #[] }
def k13m5 : Method := { name := "required", desc := "()Z", sig := { parameters := [], returnType := some .boolean }, accessFlags := 1, code := some k13c5 }
def k13c6 : Code := { maxStack := 1, maxLocals := 1, code := prog_32_method_11_code, exceptionTable := #[], attributes := #[] }
def k13m6 : Method := { name := "repeated", desc := "()Z", sig := { parameters := [], returnType := some .boolean }, accessFlags := 1, code := some k13c6 }
def k13c7 : Code := { maxStack := 1, maxLocals := 1, code := prog_32_method_12_code, exceptionTable := #[], attributes := #[] }
def k13m7 : Method := { name := "state", desc := "()Lcom/example/rolling_rung/rollingrung/schema/ElementState;", sig := { parameters := [], returnType := some (.object "com/example/rolling_rung/rollingrung/schema/ElementState") }, accessFlags := 1, code := some k13c7 }
/-- com/example/rolling_rung/rollingrung/schema/Field -/
def k13 : Class := { plain "com/example/rolling_rung/rollingrung/schema/Field" (some 12) with
  accessFlags := 49
  interfaces := #[]
  cf := some (fileOf pool13 20 #[] #[{ accessFlags := 1, nameIndex := 5, descriptorIndex := 43, attributes := #[] }, { accessFlags := 1, nameIndex := 64, descriptorIndex := 65, attributes := #[] }, { accessFlags := 1, nameIndex := 8, descriptorIndex := 69, attributes := #[] }, { accessFlags := 1, nameIndex := 26, descriptorIndex := 70, attributes := #[] }, { accessFlags := 1, nameIndex := 16, descriptorIndex := 71, attributes := #[] }, { accessFlags := 1, nameIndex := 33, descriptorIndex := 72, attributes := #[] }, { accessFlags := 1, nameIndex := 37, descriptorIndex := 72, attributes := #[] }, { accessFlags := 1, nameIndex := 18, descriptorIndex := 73, attributes := #[] }] 49 2 #[] #[{ accessFlags := 18, nameIndex := 8, descriptorIndex := 23, attributes := #[] }, { accessFlags := 18, nameIndex := 26, descriptorIndex := 27, attributes := #[] }, { accessFlags := 18, nameIndex := 16, descriptorIndex := 30, attributes := #[] }, { accessFlags := 18, nameIndex := 33, descriptorIndex := 34, attributes := #[] }, { accessFlags := 18, nameIndex := 37, descriptorIndex := 34, attributes := #[] }, { accessFlags := 18, nameIndex := 18, descriptorIndex := 40, attributes := #[] }])
  fields := #[{ name := "name", type := (.object "java/lang/String"), accessFlags := 18, slot := 0, constantValue := 0 }, { name := "number", type := .int, accessFlags := 18, slot := 1, constantValue := 0 }, { name := "type", type := (.object "com/example/rolling_rung/rollingrung/schema/FieldType"), accessFlags := 18, slot := 2, constantValue := 0 }, { name := "required", type := .boolean, accessFlags := 18, slot := 3, constantValue := 0 }, { name := "repeated", type := .boolean, accessFlags := 18, slot := 4, constantValue := 0 }, { name := "state", type := (.object "com/example/rolling_rung/rollingrung/schema/ElementState"), accessFlags := 18, slot := 5, constantValue := 0 }]
  methods := #[k13m0, k13m1, k13m2, k13m3, k13m4, k13m5, k13m6, k13m7]
  instanceTypes := #[(.object "java/lang/String"), .int, (.object "com/example/rolling_rung/rollingrung/schema/FieldType"), .boolean, .boolean, (.object "com/example/rolling_rung/rollingrung/schema/ElementState")]
  staticTypes := #[]
  resolved := Array.replicate 99 none
  statics := none }

def pool14 : Array CpInfo := pool [(2, .class_ 4), (1, u "java/lang/Object"), (0, u "<init>"), (0, u "()V"), (35, .class_ 44), (1, u "java/util/Objects"), (0, u "requireNonNull"), (48, u "(Ljava/lang/Object;Ljava/lang/String;)Ljava/lang/Object;")] 89

def k14m0 : Method := { name := "<init>", desc := "()V", sig := { parameters := [], returnType := none }, accessFlags := 2, code := none }
def k14c1 : Code := { maxStack := 3, maxLocals := 2, code := jdk_31_method_11_code, exceptionTable := #[], attributes := #[] }
def k14m1 : Method := { name := "requireNonNull", desc := "(Ljava/lang/Object;Ljava/lang/String;)Ljava/lang/Object;", sig := { parameters := [(.object "java/lang/Object"), (.object "java/lang/String")], returnType := some (.object "java/lang/Object") }, accessFlags := 9, code := some k14c1 }
/-- java/util/Objects -/
def k14 : Class := { plain "java/util/Objects" (some 0) with
  accessFlags := 49
  interfaces := #[]
  cf := some (fileOf pool14 42 #[] #[{ accessFlags := 2, nameIndex := 5, descriptorIndex := 6, attributes := #[] }, { accessFlags := 9, nameIndex := 45, descriptorIndex := 94, attributes := #[] }] 49 2 #[] #[])
  fields := #[]
  methods := #[k14m0, k14m1]
  instanceTypes := #[]
  staticTypes := #[]
  resolved := Array.replicate 184 none
  statics := none }

def pool15 : Array CpInfo := pool [(4, .class_ 6), (1, u "java/lang/Object"), (0, u "<init>"), (0, u "()V"), (5, .class_ 16), (1, u "java/lang/StringLatin1"), (104, u "$assertionsDisabled"), (0, u "Z"), (98, .class_ 223), (1, u "java/lang/StringLatin1$LinesSpliterator"), (166, .class_ 391), (0, u "java/lang/StringLatin1$CharsSpliterator")] 3

def k15m0 : Method := { name := "<init>", desc := "()V", sig := { parameters := [], returnType := none }, accessFlags := 0, code := none }
/-- java/lang/StringLatin1 -/
def k15 : Class := { plain "java/lang/StringLatin1" (some 0) with
  accessFlags := 48
  interfaces := #[]
  cf := some (fileOf pool15 14 #[.nestMembers #[390, 221]] #[{ accessFlags := 0, nameIndex := 7, descriptorIndex := 8, attributes := #[] }] 48 4 #[] #[{ accessFlags := 4120, nameIndex := 121, descriptorIndex := 122, attributes := #[] }])
  fields := #[{ name := "$assertionsDisabled", type := .boolean, accessFlags := 4120, slot := 0, constantValue := 0 }]
  methods := #[k15m0]
  instanceTypes := #[]
  staticTypes := #[.boolean]
  resolved := Array.replicate 395 none
  statics := none }

def pool16 : Array CpInfo := pool [(2, .class_ 4), (1, u "java/lang/Object"), (0, u "<init>"), (0, u "()V"), (17, .class_ 26), (1, u "jdk/internal/util/Preconditions"), (28, .class_ 56), (0, u "jdk/internal/util/Preconditions$4"), (57, .class_ 115), (0, u "jdk/internal/util/Preconditions$1"), (7, u "SIOOBE_FORMATTER"), (0, u "Ljava/util/function/BiFunction;"), (0, .class_ 126), (0, u "jdk/internal/util/Preconditions$2"), (3, u "AIOOBE_FORMATTER"), (0, .class_ 132), (0, u "jdk/internal/util/Preconditions$3"), (3, u "IOOBE_FORMATTER")] 57

def k16m0 : Method := { name := "<init>", desc := "()V", sig := { parameters := [], returnType := none }, accessFlags := 1, code := none }
/-- jdk/internal/util/Preconditions -/
def k16 : Class := { plain "jdk/internal/util/Preconditions" (some 0) with
  accessFlags := 33
  interfaces := #[]
  cf := some (fileOf pool16 24 #[.nestMembers #[55, 131, 125, 114]] #[{ accessFlags := 1, nameIndex := 5, descriptorIndex := 6, attributes := #[] }] 33 2 #[] #[{ accessFlags := 25, nameIndex := 123, descriptorIndex := 124, attributes := #[] }, { accessFlags := 25, nameIndex := 130, descriptorIndex := 124, attributes := #[] }, { accessFlags := 25, nameIndex := 136, descriptorIndex := 124, attributes := #[] }])
  fields := #[{ name := "SIOOBE_FORMATTER", type := (.object "java/util/function/BiFunction"), accessFlags := 25, slot := 0, constantValue := 0 }, { name := "AIOOBE_FORMATTER", type := (.object "java/util/function/BiFunction"), accessFlags := 25, slot := 1, constantValue := 0 }, { name := "IOOBE_FORMATTER", type := (.object "java/util/function/BiFunction"), accessFlags := 25, slot := 2, constantValue := 0 }]
  methods := #[k16m0]
  instanceTypes := #[]
  staticTypes := #[(.object "java/util/function/BiFunction"), (.object "java/util/function/BiFunction"), (.object "java/util/function/BiFunction")]
  resolved := Array.replicate 194 none
  statics := some 3 }

def pool17 : Array CpInfo := pool [(9, u "<init>"), (6, .class_ 18), (1, u "java/lang/Object"), (0, u "()V"), (1, .class_ 23), (1, u "jdk/internal/util/ArraysSupport"), (0, u "LOG2_ARRAY_LONG_INDEX_SCALE"), (0, u "I"), (2, u "U"), (0, u "Ljdk/internal/misc/Unsafe;"), (8, u "BIG_ENDIAN"), (0, u "Z"), (8, u "LOG2_BYTE_BIT_SIZE"), (4, u "LOG2_ARRAY_INT_INDEX_SCALE"), (54, u "JLA"), (0, u "Ljdk/internal/access/JavaLangAccess;"), (11, u "LOG2_ARRAY_BOOLEAN_INDEX_SCALE"), (9, u "LOG2_ARRAY_BYTE_INDEX_SCALE"), (5, u "LOG2_ARRAY_CHAR_INDEX_SCALE"), (5, u "LOG2_ARRAY_SHORT_INDEX_SCALE"), (18, u "LOG2_ARRAY_FLOAT_INDEX_SCALE"), (24, u "LOG2_ARRAY_DOUBLE_INDEX_SCALE"), (89, u "T_BOOLEAN"), (2, u "T_CHAR"), (1, u "T_FLOAT"), (1, u "T_DOUBLE"), (1, u "T_BYTE"), (1, u "T_SHORT"), (1, u "T_INT"), (1, u "T_LONG"), (1, u "SOFT_MAX_ARRAY_LENGTH")] 83

def k17m0 : Method := { name := "<init>", desc := "()V", sig := { parameters := [], returnType := none }, accessFlags := 2, code := none }
/-- jdk/internal/util/ArraysSupport -/
def k17 : Class := { plain "jdk/internal/util/ArraysSupport" (some 0) with
  accessFlags := 33
  interfaces := #[]
  cf := some (fileOf pool17 21 #[] #[{ accessFlags := 2, nameIndex := 9, descriptorIndex := 19, attributes := #[] }] 33 16 #[] #[{ accessFlags := 24, nameIndex := 28, descriptorIndex := 29, attributes := #[] }, { accessFlags := 26, nameIndex := 38, descriptorIndex := 39, attributes := #[] }, { accessFlags := 25, nameIndex := 121, descriptorIndex := 25, attributes := #[] }, { accessFlags := 25, nameIndex := 131, descriptorIndex := 25, attributes := #[] }, { accessFlags := 25, nameIndex := 137, descriptorIndex := 25, attributes := #[] }, { accessFlags := 25, nameIndex := 143, descriptorIndex := 25, attributes := #[] }, { accessFlags := 25, nameIndex := 53, descriptorIndex := 25, attributes := #[] }, { accessFlags := 25, nameIndex := 24, descriptorIndex := 25, attributes := #[] }, { accessFlags := 25, nameIndex := 162, descriptorIndex := 25, attributes := #[] }, { accessFlags := 25, nameIndex := 187, descriptorIndex := 25, attributes := #[] }, { accessFlags := 26, nameIndex := 48, descriptorIndex := 25, attributes := #[] }, { accessFlags := 25, nameIndex := 277, descriptorIndex := 25, attributes := #[] }, { accessFlags := 25, nameIndex := 280, descriptorIndex := 25, attributes := #[] }, { accessFlags := 25, nameIndex := 282, descriptorIndex := 25, attributes := #[] }, { accessFlags := 25, nameIndex := 284, descriptorIndex := 25, attributes := #[] }, { accessFlags := 25, nameIndex := 286, descriptorIndex := 25, attributes := #[] }, { accessFlags := 25, nameIndex := 288, descriptorIndex := 25, attributes := #[] }, { accessFlags := 25, nameIndex := 290, descriptorIndex := 25, attributes := #[] }, { accessFlags := 25, nameIndex := 292, descriptorIndex := 25, attributes := #[] }, { accessFlags := 26, nameIndex := 108, descriptorIndex := 109, attributes := #[] }, { accessFlags := 25, nameIndex := 294, descriptorIndex := 25, attributes := #[] }])
  fields := #[{ name := "U", type := (.object "jdk/internal/misc/Unsafe"), accessFlags := 24, slot := 0, constantValue := 0 }, { name := "BIG_ENDIAN", type := .boolean, accessFlags := 26, slot := 1, constantValue := 0 }, { name := "LOG2_ARRAY_BOOLEAN_INDEX_SCALE", type := .int, accessFlags := 25, slot := 2, constantValue := 0 }, { name := "LOG2_ARRAY_BYTE_INDEX_SCALE", type := .int, accessFlags := 25, slot := 3, constantValue := 0 }, { name := "LOG2_ARRAY_CHAR_INDEX_SCALE", type := .int, accessFlags := 25, slot := 4, constantValue := 0 }, { name := "LOG2_ARRAY_SHORT_INDEX_SCALE", type := .int, accessFlags := 25, slot := 5, constantValue := 0 }, { name := "LOG2_ARRAY_INT_INDEX_SCALE", type := .int, accessFlags := 25, slot := 6, constantValue := 0 }, { name := "LOG2_ARRAY_LONG_INDEX_SCALE", type := .int, accessFlags := 25, slot := 7, constantValue := 0 }, { name := "LOG2_ARRAY_FLOAT_INDEX_SCALE", type := .int, accessFlags := 25, slot := 8, constantValue := 0 }, { name := "LOG2_ARRAY_DOUBLE_INDEX_SCALE", type := .int, accessFlags := 25, slot := 9, constantValue := 0 }, { name := "LOG2_BYTE_BIT_SIZE", type := .int, accessFlags := 26, slot := 10, constantValue := 0 }, { name := "T_BOOLEAN", type := .int, accessFlags := 25, slot := 11, constantValue := 0 }, { name := "T_CHAR", type := .int, accessFlags := 25, slot := 12, constantValue := 0 }, { name := "T_FLOAT", type := .int, accessFlags := 25, slot := 13, constantValue := 0 }, { name := "T_DOUBLE", type := .int, accessFlags := 25, slot := 14, constantValue := 0 }, { name := "T_BYTE", type := .int, accessFlags := 25, slot := 15, constantValue := 0 }, { name := "T_SHORT", type := .int, accessFlags := 25, slot := 16, constantValue := 0 }, { name := "T_INT", type := .int, accessFlags := 25, slot := 17, constantValue := 0 }, { name := "T_LONG", type := .int, accessFlags := 25, slot := 18, constantValue := 0 }, { name := "JLA", type := (.object "jdk/internal/access/JavaLangAccess"), accessFlags := 26, slot := 19, constantValue := 0 }, { name := "SOFT_MAX_ARRAY_LENGTH", type := .int, accessFlags := 25, slot := 20, constantValue := 0 }]
  methods := #[k17m0]
  instanceTypes := #[]
  staticTypes := #[(.object "jdk/internal/misc/Unsafe"), .boolean, .int, .int, .int, .int, .int, .int, .int, .int, .int, .int, .int, .int, .int, .int, .int, .int, .int, (.object "jdk/internal/access/JavaLangAccess"), .int]
  resolved := Array.replicate 378 none
  statics := none }

def pool18 : Array CpInfo := pool [(1, u "java/lang/Cloneable"), (0, .class_ 1), (0, u "java/lang/Object"), (0, .class_ 3)] 3

/-- java/lang/Cloneable -/
def k18 : Class := { plain "java/lang/Cloneable" (some 0) with
  accessFlags := 1537
  interfaces := #[]
  cf := some (fileOf pool18 2 #[] #[] 1537 4 #[] #[])
  fields := #[]
  methods := #[]
  instanceTypes := #[]
  staticTypes := #[]
  resolved := Array.replicate 8 none
  statics := none }

/-- the primitive byte -/
def k19 : Class := { plain "byte" none with kind := .primitive 'B', accessFlags := 0x411 }
/-- [B -/
def k20 : Class := { plain "[B" (some 0) with kind := .array 19 .byte, interfaces := #[18, 2], accessFlags := 1041 }

/-- the primitive char -/
def k21 : Class := { plain "char" none with kind := .primitive 'C', accessFlags := 0x411 }
/-- [C -/
def k22 : Class := { plain "[C" (some 0) with kind := .array 21 .char, interfaces := #[18, 2], accessFlags := 1041 }

/-- the primitive int -/
def k23 : Class := { plain "int" none with kind := .primitive 'I', accessFlags := 0x411 }
/-- [I -/
def k24 : Class := { plain "[I" (some 0) with kind := .array 23 .int, interfaces := #[18, 2], accessFlags := 1041 }

def heap : Heap := #[{ cls := 7, slots := #[.long 0, .int 1, .null, .int 0, .null, .int 0, .int 0], vm := .statics 7 },
  { cls := 10, slots := #[.ref 11, .ref 6, .ref 4, .ref 9, .ref 15, .ref 14, .ref 13, .ref 16, .ref 12, .null], vm := .statics 10 },
  { cls := 11, slots := #[.ref 5, .ref 8, .ref 10, .ref 7, .null], vm := .statics 11 },
  { cls := 16, slots := #[.null, .null, .null], vm := .statics 16 },
  { cls := 10, slots := #[.null, .int 0, .int 0, .null], vm := .none },
  { cls := 11, slots := #[.null, .int 0, .int 0, .null], vm := .none },
  { cls := 10, slots := #[.null, .int 0, .int 0, .null], vm := .none },
  { cls := 11, slots := #[.null, .int 0, .int 0, .null], vm := .none },
  { cls := 11, slots := #[.null, .int 0, .int 0, .null], vm := .none },
  { cls := 10, slots := #[.null, .int 0, .int 0, .null], vm := .none },
  { cls := 11, slots := #[.null, .int 0, .int 0, .null], vm := .none },
  { cls := 10, slots := #[.null, .int 0, .int 0, .null], vm := .none },
  { cls := 10, slots := #[.null, .int 0, .int 0, .null], vm := .none },
  { cls := 10, slots := #[.null, .int 0, .int 0, .null], vm := .none },
  { cls := 10, slots := #[.null, .int 0, .int 0, .null], vm := .none },
  { cls := 10, slots := #[.null, .int 0, .int 0, .null], vm := .none },
  { cls := 10, slots := #[.null, .int 0, .int 0, .null], vm := .none }]
def classes : Array Class := #[k0, k1, k2, k3, k4, k5, k6, k7, k8, k9, k10, k11, k12, k13, k14, k15, k16, k17, k18, k19, k20, k21, k22, k23, k24]
def interned : List (Array UInt16 × Addr) := []
def slotsUsed : Nat := 77
def theMethod : MethodId := ⟨1, 1⟩
def args0 : Array Value := #[.int 16961, .int 7, .int 3, .int 3, .int 6]
def aboutOver (below : List Frame) : State where
  vm := { classes := classes, interned := interned.toArray }
  heap := heap
  slotsUsed := slotsUsed
  threads := #[{ frames := .invoking theMethod args0 :: below }]
def below0 : List Frame := [.native { method := ⟨0, 0⟩, args := #[] }]
def about1 : State := aboutOver below0
def p0 : Program := .bare "" "" ""
def e0 : Env := launch0.env 0 0 0
theorem w_frames : about1.frames = Frame.invoking theMethod args0 :: below0 := rfl
set_option maxRecDepth 65536 in
theorem w_args : argsFit about1.vm theMethod args0 = true := by decide +kernel
set_option maxRecDepth 65536 in
theorem w_heap : heapFits about1 = true := by decide +kernel
set_option maxRecDepth 65536 in
theorem w_runnable : about1.curStatus? = some .runnable := by decide +kernel
set_option maxRecDepth 65536 in
theorem w_alone : about1.alone = true := by decide +kernel
set_option maxRecDepth 65536 in
theorem w_named : about1.methodNamed? x = some theMethod := by decide +kernel
set_option maxRecDepth 65536 in
theorem w_hears : about1.hears theMethod below0 = true := by decide +kernel
set_option maxRecDepth 65536 in
theorem w_ripe : about1.ripe theMethod args0 below0 = true := by decide +kernel
theorem w_running : about1.status = .running := rfl
set_option maxRecDepth 65536 in
theorem w_room : about1.hasRoom e0.platform room_1 = true :=
  launch0.hasRoom_least _ room_1 (by decide +kernel) (by decide +kernel) (by decide +kernel) (by decide +kernel) (by decide +kernel) (by decide +kernel)
theorem allAtoms_all (ts : List Jvm.Cond) (a : Array Jvm.Value) (st : Jvm.State) : (allAtoms ts).before a st = ts.all (fun c => c.before a st) := by
  induction ts with
  | nil => rfl
  | cons c t ih =>
    show (Jvm.Cond.and c (allAtoms t)).before a st = _
    rw [Jvm.Cond.before_and, ih, List.all_cons]
def words1 : List Jvm.Cond := Jvm.Cond.code x code maxLocals ret :: tables_1
/-- a 'code' word, met by the world's own term for the bytes: nothing is compared byte by byte -/
theorem code_word {y : MethodName} {bytes : ByteArray} {mx : Nat} {rt : Option FieldType} {a : Array Value} {s : State} {m : MethodId} {meth : Method} {c : Code} (h1 : s.methodNamed? y = some m) (h2 : s.vm.method? m = some meth) (h3 : meth.code = some c) (h4 : c.code = bytes)
    (h5 : (c.maxLocals == mx && c.exceptionTable.isEmpty && decide (c.maxStack ≤ mostOperands) && decide (meth.sig.returnType = rt) && !meth.locks && decide (parseMethodDescriptor y.desc = some meth.sig)) = true) : (Jvm.Cond.code y bytes mx rt).before a s = true := by
  simp only [Bool.and_eq_true, beq_iff_eq, Bool.not_eq_true', decide_eq_true_eq] at h5
  obtain ⟨⟨⟨⟨⟨g1, g2⟩, g3⟩, g4⟩, g5⟩, g6⟩ := h5
  simp [Cond.before, Cond.holds, Cond.value, h1, h2, h3, h4, g1, g2, g3, g4, g5, g6]
def isCode : Jvm.Cond → Bool
  | .code _ _ _ _ => true
  | _ => false
theorem all_split {L : List Jvm.Cond} {P : Jvm.Cond → Bool} (h1 : L.all (fun c => isCode c || P c) = true) (h2 : ∀ c ∈ L.filter isCode, P c = true) : L.all P = true := by
  refine List.all_eq_true.mpr fun c hc => ?_
  have h := List.all_eq_true.mp h1 c hc
  rcases Bool.eq_false_or_eq_true (isCode c) with hi | hi
  · exact h2 c (List.mem_filter.mpr ⟨hc, hi⟩)
  · simpa [hi] using h
set_option maxRecDepth 65536 in
theorem w_c0 : (Jvm.Cond.code x code maxLocals ret).before args0 about1 = true := code_word (m := ⟨1, 1⟩) (meth := k1m1) (c := k1c1) (by decide +kernel) rfl rfl rfl (by decide +kernel)
set_option maxRecDepth 65536 in
theorem w_c1 : (Jvm.Cond.code ({ cls := "java/lang/String", name := "<init>", desc := "([C)V" } : Jvm.MethodName) jdk_42_method_3_code (2 : Nat) (Option.none : Option Jvm.ClassFile.FieldType)).before args0 about1 = true := code_word (m := ⟨7, 1⟩) (meth := k7m1) (c := k7c1) (by decide +kernel) rfl rfl rfl (by decide +kernel)
set_option maxRecDepth 65536 in
theorem w_c2 : (Jvm.Cond.code ({ cls := "java/lang/String", name := "<init>", desc := "([CIILjava/lang/Void;)V" } : Jvm.MethodName) jdk_42_method_149_code (6 : Nat) (Option.none : Option Jvm.ClassFile.FieldType)).before args0 about1 = true := code_word (m := ⟨7, 3⟩) (meth := k7m3) (c := k7c3) (by decide +kernel) rfl rfl rfl (by decide +kernel)
set_option maxRecDepth 65536 in
theorem w_c3 : (Jvm.Cond.code ({ cls := "java/lang/Object", name := "<init>", desc := "()V" } : Jvm.MethodName) object_method_1_code (1 : Nat) (Option.none : Option Jvm.ClassFile.FieldType)).before args0 about1 = true := code_word (m := ⟨0, 0⟩) (meth := k0m0) (c := k0c0) (by decide +kernel) rfl rfl rfl (by decide +kernel)
set_option maxRecDepth 65536 in
theorem w_c4 : (Jvm.Cond.code ({ cls := "java/lang/StringUTF16", name := "compress", desc := "([CII)[B" } : Jvm.MethodName) jdk_52_method_16_code (6 : Nat) (Option.some (Jvm.ClassFile.FieldType.array Jvm.ClassFile.FieldType.byte))).before args0 about1 = true := code_word (m := ⟨8, 2⟩) (meth := k8m2) (c := k8c2) (by decide +kernel) rfl rfl rfl (by decide +kernel)
set_option maxRecDepth 65536 in
theorem w_c5 : (Jvm.Cond.code ({ cls := "java/lang/StringUTF16", name := "compress", desc := "([CI[BII)I" } : Jvm.MethodName) jdk_52_method_21_code (7 : Nat) (Option.some Jvm.ClassFile.FieldType.int)).before args0 about1 = true := code_word (m := ⟨8, 3⟩) (meth := k8m3) (c := k8c3) (by decide +kernel) rfl rfl rfl (by decide +kernel)
set_option maxRecDepth 65536 in
theorem w_c6 : (Jvm.Cond.code ({ cls := "java/lang/StringUTF16", name := "coderFromArrayLen", desc := "([BI)B" } : Jvm.MethodName) jdk_52_method_15_code (2 : Nat) (Option.some Jvm.ClassFile.FieldType.byte)).before args0 about1 = true := code_word (m := ⟨8, 1⟩) (meth := k8m1) (c := k8c1) (by decide +kernel) rfl rfl rfl (by decide +kernel)
set_option maxRecDepth 65536 in
theorem w_c7 : (Jvm.Cond.code ({ cls := "com/example/rolling_rung/rollingrung/schema/FieldWithStatePinLaw", name := "typeOf", desc := "(I)Lcom/example/rolling_rung/rollingrung/schema/FieldType;" } : Jvm.MethodName) method_3_code (1 : Nat) (Option.some (Jvm.ClassFile.FieldType.object "com/example/rolling_rung/rollingrung/schema/FieldType"))).before args0 about1 = true := code_word (m := ⟨1, 2⟩) (meth := k1m2) (c := k1c2) (by decide +kernel) rfl rfl rfl (by decide +kernel)
set_option maxRecDepth 65536 in
theorem w_c8 : (Jvm.Cond.code ({ cls := "com/example/rolling_rung/rollingrung/schema/FieldWithStatePinLaw", name := "stateOf", desc := "(I)Lcom/example/rolling_rung/rollingrung/schema/ElementState;" } : Jvm.MethodName) method_4_code (1 : Nat) (Option.some (Jvm.ClassFile.FieldType.object "com/example/rolling_rung/rollingrung/schema/ElementState"))).before args0 about1 = true := code_word (m := ⟨1, 3⟩) (meth := k1m3) (c := k1c3) (by decide +kernel) rfl rfl rfl (by decide +kernel)
set_option maxRecDepth 65536 in
theorem w_c9 : (Jvm.Cond.code ({ cls := "com/example/rolling_rung/rollingrung/schema/Field", name := "<init>", desc := "(Ljava/lang/String;ILcom/example/rolling_rung/rollingrung/schema/FieldType;ZZLcom/example/rolling_rung/rollingrung/schema/ElementState;)V" } : Jvm.MethodName) prog_32_method_1_code (7 : Nat) (Option.none : Option Jvm.ClassFile.FieldType)).before args0 about1 = true := code_word (m := ⟨13, 0⟩) (meth := k13m0) (c := k13c0) (by decide +kernel) rfl rfl rfl (by decide +kernel)
set_option maxRecDepth 65536 in
theorem w_c10 : (Jvm.Cond.code ({ cls := "java/lang/Record", name := "<init>", desc := "()V" } : Jvm.MethodName) jdk_30_method_1_code (1 : Nat) (Option.none : Option Jvm.ClassFile.FieldType)).before args0 about1 = true := code_word (m := ⟨12, 0⟩) (meth := k12m0) (c := k12c0) (by decide +kernel) rfl rfl rfl (by decide +kernel)
set_option maxRecDepth 65536 in
theorem w_c11 : (Jvm.Cond.code ({ cls := "java/util/Objects", name := "requireNonNull", desc := "(Ljava/lang/Object;Ljava/lang/String;)Ljava/lang/Object;" } : Jvm.MethodName) jdk_31_method_11_code (2 : Nat) (Option.some (Jvm.ClassFile.FieldType.object "java/lang/Object"))).before args0 about1 = true := code_word (m := ⟨14, 1⟩) (meth := k14m1) (c := k14c1) (by decide +kernel) rfl rfl rfl (by decide +kernel)
set_option maxRecDepth 65536 in
theorem w_c12 : (Jvm.Cond.code ({ cls := "com/example/rolling_rung/rollingrung/schema/Field", name := "withState", desc := "(Lcom/example/rolling_rung/rollingrung/schema/ElementState;)Lcom/example/rolling_rung/rollingrung/schema/Field;" } : Jvm.MethodName) prog_32_method_2_code (2 : Nat) (Option.some (Jvm.ClassFile.FieldType.object "com/example/rolling_rung/rollingrung/schema/Field"))).before args0 about1 = true := code_word (m := ⟨13, 1⟩) (meth := k13m1) (c := k13c1) (by decide +kernel) rfl rfl rfl (by decide +kernel)
set_option maxRecDepth 65536 in
theorem w_c13 : (Jvm.Cond.code ({ cls := "com/example/rolling_rung/rollingrung/schema/Field", name := "name", desc := "()Ljava/lang/String;" } : Jvm.MethodName) prog_32_method_7_code (1 : Nat) (Option.some (Jvm.ClassFile.FieldType.object "java/lang/String"))).before args0 about1 = true := code_word (m := ⟨13, 2⟩) (meth := k13m2) (c := k13c2) (by decide +kernel) rfl rfl rfl (by decide +kernel)
set_option maxRecDepth 65536 in
theorem w_c14 : (Jvm.Cond.code ({ cls := "java/lang/String", name := "equals", desc := "(Ljava/lang/Object;)Z" } : Jvm.MethodName) jdk_42_method_66_code (3 : Nat) (Option.some Jvm.ClassFile.FieldType.boolean)).before args0 about1 = true := code_word (m := ⟨7, 2⟩) (meth := k7m2) (c := k7c2) (by decide +kernel) rfl rfl rfl (by decide +kernel)
set_option maxRecDepth 65536 in
theorem w_c15 : (Jvm.Cond.code ({ cls := "com/example/rolling_rung/rollingrung/schema/Field", name := "number", desc := "()I" } : Jvm.MethodName) prog_32_method_8_code (1 : Nat) (Option.some Jvm.ClassFile.FieldType.int)).before args0 about1 = true := code_word (m := ⟨13, 3⟩) (meth := k13m3) (c := k13c3) (by decide +kernel) rfl rfl rfl (by decide +kernel)
set_option maxRecDepth 65536 in
theorem w_c16 : (Jvm.Cond.code ({ cls := "com/example/rolling_rung/rollingrung/schema/Field", name := "type", desc := "()Lcom/example/rolling_rung/rollingrung/schema/FieldType;" } : Jvm.MethodName) prog_32_method_9_code (1 : Nat) (Option.some (Jvm.ClassFile.FieldType.object "com/example/rolling_rung/rollingrung/schema/FieldType"))).before args0 about1 = true := code_word (m := ⟨13, 4⟩) (meth := k13m4) (c := k13c4) (by decide +kernel) rfl rfl rfl (by decide +kernel)
set_option maxRecDepth 65536 in
theorem w_c17 : (Jvm.Cond.code ({ cls := "com/example/rolling_rung/rollingrung/schema/Field", name := "required", desc := "()Z" } : Jvm.MethodName) prog_32_method_10_code (1 : Nat) (Option.some Jvm.ClassFile.FieldType.boolean)).before args0 about1 = true := code_word (m := ⟨13, 5⟩) (meth := k13m5) (c := k13c5) (by decide +kernel) rfl rfl rfl (by decide +kernel)
set_option maxRecDepth 65536 in
theorem w_c18 : (Jvm.Cond.code ({ cls := "com/example/rolling_rung/rollingrung/schema/Field", name := "repeated", desc := "()Z" } : Jvm.MethodName) prog_32_method_11_code (1 : Nat) (Option.some Jvm.ClassFile.FieldType.boolean)).before args0 about1 = true := code_word (m := ⟨13, 6⟩) (meth := k13m6) (c := k13c6) (by decide +kernel) rfl rfl rfl (by decide +kernel)
set_option maxRecDepth 65536 in
theorem w_c19 : (Jvm.Cond.code ({ cls := "com/example/rolling_rung/rollingrung/schema/Field", name := "state", desc := "()Lcom/example/rolling_rung/rollingrung/schema/ElementState;" } : Jvm.MethodName) prog_32_method_12_code (1 : Nat) (Option.some (Jvm.ClassFile.FieldType.object "com/example/rolling_rung/rollingrung/schema/ElementState"))).before args0 about1 = true := code_word (m := ⟨13, 7⟩) (meth := k13m7) (c := k13c7) (by decide +kernel) rfl rfl rfl (by decide +kernel)
def codes1 : List Jvm.Cond := [Jvm.Cond.code x code maxLocals ret, Jvm.Cond.code ({ cls := "java/lang/String", name := "<init>", desc := "([C)V" } : Jvm.MethodName) jdk_42_method_3_code (2 : Nat) (Option.none : Option Jvm.ClassFile.FieldType), Jvm.Cond.code ({ cls := "java/lang/String", name := "<init>", desc := "([CIILjava/lang/Void;)V" } : Jvm.MethodName) jdk_42_method_149_code (6 : Nat) (Option.none : Option Jvm.ClassFile.FieldType), Jvm.Cond.code ({ cls := "java/lang/Object", name := "<init>", desc := "()V" } : Jvm.MethodName) object_method_1_code (1 : Nat) (Option.none : Option Jvm.ClassFile.FieldType), Jvm.Cond.code ({ cls := "java/lang/StringUTF16", name := "compress", desc := "([CII)[B" } : Jvm.MethodName) jdk_52_method_16_code (6 : Nat) (Option.some (Jvm.ClassFile.FieldType.array Jvm.ClassFile.FieldType.byte)), Jvm.Cond.code ({ cls := "java/lang/StringUTF16", name := "compress", desc := "([CI[BII)I" } : Jvm.MethodName) jdk_52_method_21_code (7 : Nat) (Option.some Jvm.ClassFile.FieldType.int), Jvm.Cond.code ({ cls := "java/lang/StringUTF16", name := "coderFromArrayLen", desc := "([BI)B" } : Jvm.MethodName) jdk_52_method_15_code (2 : Nat) (Option.some Jvm.ClassFile.FieldType.byte), Jvm.Cond.code ({ cls := "com/example/rolling_rung/rollingrung/schema/FieldWithStatePinLaw", name := "typeOf", desc := "(I)Lcom/example/rolling_rung/rollingrung/schema/FieldType;" } : Jvm.MethodName) method_3_code (1 : Nat) (Option.some (Jvm.ClassFile.FieldType.object "com/example/rolling_rung/rollingrung/schema/FieldType")), Jvm.Cond.code ({ cls := "com/example/rolling_rung/rollingrung/schema/FieldWithStatePinLaw", name := "stateOf", desc := "(I)Lcom/example/rolling_rung/rollingrung/schema/ElementState;" } : Jvm.MethodName) method_4_code (1 : Nat) (Option.some (Jvm.ClassFile.FieldType.object "com/example/rolling_rung/rollingrung/schema/ElementState")), Jvm.Cond.code ({ cls := "com/example/rolling_rung/rollingrung/schema/Field", name := "<init>", desc := "(Ljava/lang/String;ILcom/example/rolling_rung/rollingrung/schema/FieldType;ZZLcom/example/rolling_rung/rollingrung/schema/ElementState;)V" } : Jvm.MethodName) prog_32_method_1_code (7 : Nat) (Option.none : Option Jvm.ClassFile.FieldType), Jvm.Cond.code ({ cls := "java/lang/Record", name := "<init>", desc := "()V" } : Jvm.MethodName) jdk_30_method_1_code (1 : Nat) (Option.none : Option Jvm.ClassFile.FieldType), Jvm.Cond.code ({ cls := "java/util/Objects", name := "requireNonNull", desc := "(Ljava/lang/Object;Ljava/lang/String;)Ljava/lang/Object;" } : Jvm.MethodName) jdk_31_method_11_code (2 : Nat) (Option.some (Jvm.ClassFile.FieldType.object "java/lang/Object")), Jvm.Cond.code ({ cls := "com/example/rolling_rung/rollingrung/schema/Field", name := "withState", desc := "(Lcom/example/rolling_rung/rollingrung/schema/ElementState;)Lcom/example/rolling_rung/rollingrung/schema/Field;" } : Jvm.MethodName) prog_32_method_2_code (2 : Nat) (Option.some (Jvm.ClassFile.FieldType.object "com/example/rolling_rung/rollingrung/schema/Field")), Jvm.Cond.code ({ cls := "com/example/rolling_rung/rollingrung/schema/Field", name := "name", desc := "()Ljava/lang/String;" } : Jvm.MethodName) prog_32_method_7_code (1 : Nat) (Option.some (Jvm.ClassFile.FieldType.object "java/lang/String")), Jvm.Cond.code ({ cls := "java/lang/String", name := "equals", desc := "(Ljava/lang/Object;)Z" } : Jvm.MethodName) jdk_42_method_66_code (3 : Nat) (Option.some Jvm.ClassFile.FieldType.boolean), Jvm.Cond.code ({ cls := "com/example/rolling_rung/rollingrung/schema/Field", name := "number", desc := "()I" } : Jvm.MethodName) prog_32_method_8_code (1 : Nat) (Option.some Jvm.ClassFile.FieldType.int), Jvm.Cond.code ({ cls := "com/example/rolling_rung/rollingrung/schema/Field", name := "type", desc := "()Lcom/example/rolling_rung/rollingrung/schema/FieldType;" } : Jvm.MethodName) prog_32_method_9_code (1 : Nat) (Option.some (Jvm.ClassFile.FieldType.object "com/example/rolling_rung/rollingrung/schema/FieldType")), Jvm.Cond.code ({ cls := "com/example/rolling_rung/rollingrung/schema/Field", name := "required", desc := "()Z" } : Jvm.MethodName) prog_32_method_10_code (1 : Nat) (Option.some Jvm.ClassFile.FieldType.boolean), Jvm.Cond.code ({ cls := "com/example/rolling_rung/rollingrung/schema/Field", name := "repeated", desc := "()Z" } : Jvm.MethodName) prog_32_method_11_code (1 : Nat) (Option.some Jvm.ClassFile.FieldType.boolean), Jvm.Cond.code ({ cls := "com/example/rolling_rung/rollingrung/schema/Field", name := "state", desc := "()Lcom/example/rolling_rung/rollingrung/schema/ElementState;" } : Jvm.MethodName) prog_32_method_12_code (1 : Nat) (Option.some (Jvm.ClassFile.FieldType.object "com/example/rolling_rung/rollingrung/schema/ElementState"))]
set_option maxRecDepth 65536 in
theorem codes_eq : words1.filter isCode = codes1 := rfl
theorem w_codes : ∀ c ∈ words1.filter isCode, c.before args0 about1 = true := by
  rw [codes_eq]
  intro c hc
  simp only [codes1, List.mem_cons, List.not_mem_nil, or_false] at hc
  rcases hc with rfl | rfl | rfl | rfl | rfl | rfl | rfl | rfl | rfl | rfl | rfl | rfl | rfl | rfl | rfl | rfl | rfl | rfl | rfl | rfl
  · exact w_c0
  · exact w_c1
  · exact w_c2
  · exact w_c3
  · exact w_c4
  · exact w_c5
  · exact w_c6
  · exact w_c7
  · exact w_c8
  · exact w_c9
  · exact w_c10
  · exact w_c11
  · exact w_c12
  · exact w_c13
  · exact w_c14
  · exact w_c15
  · exact w_c16
  · exact w_c17
  · exact w_c18
  · exact w_c19
set_option maxRecDepth 65536 in
theorem w_t1 : (words1.take 24).all (fun c => isCode c || c.before args0 about1) = true := by decide +kernel
set_option maxRecDepth 65536 in
theorem w_t2 : ((words1.drop 24).take 24).all (fun c => isCode c || c.before args0 about1) = true := by decide +kernel
set_option maxRecDepth 65536 in
theorem w_t3 : (((words1.drop 24).drop 24).take 24).all (fun c => isCode c || c.before args0 about1) = true := by decide +kernel
set_option maxRecDepth 65536 in
theorem w_t4 : ((((words1.drop 24).drop 24).drop 24).take 24).all (fun c => isCode c || c.before args0 about1) = true := by decide +kernel
set_option maxRecDepth 65536 in
theorem w_t5 : (((((words1.drop 24).drop 24).drop 24).drop 24).take 24).all (fun c => isCode c || c.before args0 about1) = true := by decide +kernel
set_option maxRecDepth 65536 in
theorem w_t6 : (((((words1.drop 24).drop 24).drop 24).drop 24).drop 24).all (fun c => isCode c || c.before args0 about1) = true := by decide +kernel
theorem w_tables : (allAtoms (Jvm.Cond.code x code maxLocals ret :: tables_1)).before args0 about1 = true := by
  rw [allAtoms_all]
  show words1.all (fun c => c.before args0 about1) = true
  refine all_split ?_ w_codes
  rw [← List.take_append_drop 24 words1, List.all_append, w_t1, ← List.take_append_drop 24 (words1.drop 24), List.all_append, w_t2, ← List.take_append_drop 24 ((words1.drop 24).drop 24), List.all_append, w_t3, ← List.take_append_drop 24 (((words1.drop 24).drop 24).drop 24), List.all_append, w_t4, ← List.take_append_drop 24 ((((words1.drop 24).drop 24).drop 24).drop 24), List.all_append, w_t5, w_t6]
  rfl
set_option maxRecDepth 65536 in
theorem w_rest : rest_1_c.before args0 about1 = true := by decide +kernel
set_option maxRecDepth 65536 in
theorem w_case : (Jvm.Cond.and given_1 narrow_1).before args0 about1 = true := by decide +kernel
theorem w_applies : (headSpec (Jvm.Cond.code x code maxLocals ret :: tables_1) room_1).applies x e0.platform about1 = true :=
  (Spec.applies_iff w_frames).mpr ⟨w_running, w_runnable, w_alone, w_named, w_hears, w_ripe, w_room, w_tables⟩
theorem atStart : AtStart classFile x code maxLocals ret World_1 tables_1 room_1 Calls_1 rest_1 Pre_1 launch0 p0 e0 about1 theMethod args0 below0 :=
  ⟨lists_1, trivial, launch0.admits_env _ _ _, launch0.least_env, fairChoices_fair.cas, fairChoices_fair.clock, w_frames, w_args, w_heap, w_applies, trivial, w_rest, w_case⟩
end start1
theorem witness_1 : WitnessClaimed_1 := ⟨start1.p0, start1.e0, start1.about1, start1.theMethod, start1.args0, start1.below0, start1.atStart⟩
end Jvm.Pilot.@@N@@
