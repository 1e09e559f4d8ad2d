import JvmDerived
import JvmDerived.Pilot.@@N@@Statement
import JvmDerived.Pilot.@@N@@Code
set_option linter.unusedVariables false
set_option linter.unusedSimpArgs false
namespace Jvm.RoadKit
open Sem ClassFile Op Lib Jvm.Stand Jvm.Free Jvm.LawKit
section New
variable {p : Program} {l : Launch} {e : Env} {R : Room} {s : State} {m : MethodId} {args : Array Value} {below : List Frame} {meth : Method} {c : Code} {T : State} {locs : List Loc} {cells slots : Nat}
theorem retI (X : Stand p l e R s m args below meth c T locs cells slots) (hx : p.tables.exec = Jvm.exec) {pc : Nat} {Ls : Array Slot} {z : Int32} {rest : List Value} (hret : meth.sig.returnType = some .int) (hd : decode c.code pc = .ok (.ireturn, 1)) {fs : List Frame}
    (hl : ∀ (f : JFrame) (acts : List Action), f.method = m → f.locked = none → f.entered = [] → (doReturn e (T.setTop f) acts (some (.int z))).1 = T.setFrames fs) : Steps p.tables e below (T.setTop (mkF m pc Ls (.int z :: rest))) (T.setFrames fs) := by
  have hm' : T.vm.method? m = some meth := X.method'
  have hn : narrow .int (.int z) = .int z := rfl
  show Steps p.tables e below (T.setTop { method := m, pc := pc, locals := Ls, stack := _ :: rest, locked := none }) _
  jvm_step X.here [X.here.top, hx, hd, hm', hret, hn]
  first | (intro acts; rw [hl _ acts rfl rfl rfl]) | rw [hl _ _ rfl rfl rfl]
  exact Steps.refl _
end New
end Jvm.RoadKit
@@BLOCK:NumsL.lean.txt@@
namespace Jvm.Pilot.@@N@@
open Jvm Jvm.ClassFile Sem Op Lib Jvm.Free Jvm.Stand Jvm.LawKit Jvm.RoadKit Bundle Jvm.Pilot.@@N@@.Jvm.D
abbrev oS (p : Program) (e : Env) (b : List Frame) (T : State) (f : JFrame) (t : State) : Prop := Steps p.tables e b (T.setTop f) t
theorem ow {a0 : Array Value} {Z : State} (hw : ∀ d ∈ tables_1, d.before a0 Z = true) (i : Nat) {c : Jvm.Cond} (h : tables_1[i]? = some c) : c.before a0 Z = true := hw _ (List.mem_of_getElem? h)
theorem own_decl {args : Array Value} {s : State} {y : MethodName} {bytes : ByteArray} {ml : Nat} {rt : Option FieldType} (h1 : (Jvm.Cond.instanceMethod y).before args s = true) (h2 : (Jvm.Cond.code y bytes ml rt).before args s = true) : (Jvm.Cond.declares y).before args s = true := by
  obtain ⟨m, meth, q1, q2, q3, -⟩ := Cond.instanceMethod_spec h1
  obtain ⟨meth', c, r1, -, -, -, -, -, -, r2⟩ := Cond.code_spec q1 h2
  cases q2.symm.trans r1
  simp [Cond.before, Cond.holds, Cond.value, q1, q2, q3, r2]
theorem own_same {args : Array Value} {s : State} {y z : MethodName} {C : String} (h1 : (Jvm.Cond.instanceMethod y).before args s = true) (h2 : (Jvm.Cond.selects C z z).before args s = true) (hc : z.cls = y.cls) (hx : y.cls ≠ "java/lang/invoke/MethodHandle" ∧ y.cls ≠ "java/lang/invoke/VarHandle") : (Jvm.Cond.sameMethod y.cls y.cls y.name y.desc).before args s = true := by
  obtain ⟨m, meth, q1, -⟩ := Cond.instanceMethod_spec h1
  obtain ⟨c, r, m', -, -, r3, -, mk, r5, r6⟩ := Cond.selects_spec h2
  have f := State.methodFound?_of_named q1 hx
  have c1 := findClass_of_methodNamed q1
  have c2 := findClass_of_methodNamed r3
  rw [hc, c1] at c2
  have e : m.cls = m'.cls := Option.some.inj c2
  rw [← e] at r5
  have q1' : s.methodNamed? ⟨y.cls, y.name, y.desc⟩ = some m := q1
  simp [Cond.before, Cond.holds, Cond.value, c1, f, q1', r5, r6]
theorem own_nf {args : Array Value} {s : State} {y z : MethodName} {C : String} (h2 : (Jvm.Cond.selects C z z).before args s = true) (hc : z.cls = y.cls) : NotFace s y := fun r0 h0 => by
  obtain ⟨c, r, m', -, -, r3, -, mk, r5, r6⟩ := Cond.selects_spec h2
  have c1 := findClass_of_methodNamed h0
  have c2 := findClass_of_methodNamed r3
  rw [hc, c1] at c2
  have e : r0.cls = m'.cls := Option.some.inj c2
  exact ⟨mk, by rw [e]; exact r5, r6⟩
theorem own_eqi {args : Array Value} {first s : State} {o : Option Outcome} {idx : List Nat} {t : Term} {k : Int32} (h : (Jvm.Cond.eq t (.int k)).value args first o s idx = some true) : t.eval args first o idx s = some (.int k) := by
  simp only [Cond.value, Term.eval] at h
  cases ht : t.eval args first o idx s with
  | none => simp [ht] at h
  | some x => cases x <;> simp [ht] at h ⊢; exact h
theorem own_eql {args : Array Value} {first s : State} {o : Option Outcome} {idx : List Nat} {t : Term} {k : Int64} (h : (Jvm.Cond.eq t (.long k)).value args first o s idx = some true) : t.eval args first o idx s = some (.long k) := by
  simp only [Cond.value, Term.eval] at h
  cases ht : t.eval args first o idx s with
  | none => simp [ht] at h
  | some x => cases x <;> simp [ht] at h ⊢; exact h
theorem own_eqr {args : Array Value} {first s : State} {o : Option Outcome} {idx : List Nat} {t u : Term} {a : Addr} (hu : u.eval args first o idx s = some (.ref a)) (h : (Jvm.Cond.eq t u).value args first o s idx = some true) : t.eval args first o idx s = some (.ref a) := by
  simp only [Cond.value, hu] at h
  cases ht : t.eval args first o idx s with
  | none => simp [ht] at h
  | some x => cases x <;> simp [ht] at h ⊢; exact h
theorem own_fld {args : Array Value} {s : State} {t : Term} {x : Addr} {C n d : String} {v : Value} (ht : t.eval args s none [] s = some (.ref x)) (h : (Term.field t C n d).eval args s none [] s = some v) : Fld s s.heap x C n d v := Fld.start ((fld_at ht).symm.trans h)
theorem own_exa_ns {Z : State} {h : Heap} {a : Addr} {C : String} (F : Exa Z h a C) : ∀ c : Cell, h[a]? = some c → c.vm.isStatics = false := fun c hc => by
  obtain ⟨cell, k, h1, -, -, h4, -⟩ := F
  cases h1.symm.trans hc
  exact h4
theorem own_sta_keep {Z : State} {h h' : Heap} {C n d : String} {v : Value} {ws : List Addr} (F : Sta Z h C n d v) (K : Keep h h' ws) (hn : ∀ x ∈ ws, ∀ c : Cell, h[x]? = some c → c.vm.isStatics = false) : Sta Z h' C n d v := by
  obtain ⟨cf, i, k, f, st, cell, h1, h2, h3, h4, h5, h6, h7⟩ := F
  refine ⟨cf, i, k, f, st, cell, h1, h2, h3, h4, K.2.1 st cell h5 (fun q => ?_), h6, h7⟩
  rw [hn st q cell h5] at h6
  cases h6
theorem own_c255e (x : Int32) : ((x &&& (255 : Int32)).toUInt32.toUInt16.toUInt32.toInt32) = (x &&& (255 : Int32)) := by
  apply Int32.toBitVec_inj.mp
  show ((x.toBitVec &&& 255#32).setWidth 16).setWidth 32 = x.toBitVec &&& 255#32
  apply BitVec.eq_of_toNat_eq
  have h : (x.toBitVec &&& 255#32).toNat < 256 := by
    rw [BitVec.toNat_and]
    exact Nat.lt_of_le_of_lt Nat.and_le_right (by decide)
  simp only [BitVec.toNat_setWidth]
  omega
theorem own_c255 (x : Int32) : ¬ (255 : Int32) < ((x &&& (255 : Int32)).toUInt32.toUInt16.toUInt32.toInt32) := by
  have e : (x &&& (255 : Int32)).toInt = x.toInt % 2 ^ 8 := Jvm.Kit.i32_mask x 255 (k := 8) (by decide) (by decide)
  rw [own_c255e, Int32.lt_iff_toInt_lt, e]
  show ¬ (255 : Int) < _
  omega
theorem own_c255n (x : Int32) : ¬ (255 : Int32) < (nar .char ((x &&& (255 : Int32)).toUInt32.toUInt16.toUInt32.toInt32)) := by
  rw [own_c255e]
  exact own_c255 x
theorem own_chk : ∀ n : Fin 256, nar .char (nar .char (((nar .byte ((Int32.ofNat n.val).toInt8.toInt32)) &&& (255 : Int32)).toUInt32.toUInt16.toUInt32.toInt32)) = Int32.ofNat n.val := by decide +kernel
theorem own_back (x : Int32) : nar .char (nar .char (((nar .byte ((x &&& (255 : Int32)).toUInt32.toUInt16.toUInt32.toInt32.toInt8.toInt32)) &&& (255 : Int32)).toUInt32.toUInt16.toUInt32.toInt32)) = (x &&& (255 : Int32)).toUInt32.toUInt16.toUInt32.toInt32 := by
  have h : (x &&& (255 : Int32)).toBitVec.toNat < 256 := by
    show (x.toBitVec &&& 255#32).toNat < 256
    rw [BitVec.toNat_and]
    exact Nat.lt_of_le_of_lt Nat.and_le_right (by decide)
  have e : (x &&& (255 : Int32)) = Int32.ofNat (x &&& (255 : Int32)).toBitVec.toNat := by
    apply Int32.toBitVec_inj.mp
    show _ = BitVec.ofNat 32 _
    simp
  rw [own_c255e x]
  have q := own_chk ⟨_, h⟩
  dsimp only at q
  rw [← e] at q
  exact q
theorem own_len {args : Array Value} {s : State} {t : Term} {a : Addr} {c : Cell} {ty : FieldType} {k : Int32} (ev : t.eval args s none [] s = some (.ref a)) (A : Arr s s.heap a c ty) (h : (Jvm.Cond.eq (.length t) (.int k)).value args s none s [] = some true) : c.slots.size < 2 ^ 31 ∧ c.slots.size.toInt32 = k := by
  have e := own_eqi h
  have q := A.fin (Vm.Alike.refl _)
  by_cases hl : c.slots.size < 2 ^ 31
  · rw [len_f ev q hl] at e
    exact ⟨hl, Value.int.inj (Option.some.inj e)⟩
  · simp [Term.eval, ev, q, hl] at e
theorem own_elem {args : Array Value} {s : State} {t : Term} {a : Addr} {c : Cell} {j v : Int32} (ev : t.eval args s none [] s = some (.ref a)) (hc : s.heap[a]? = some c) (h : (Jvm.Cond.eq (.elem t (.int j)) (.int v)).value args s none s [] = some true) : c.slots[j.toNatClampNeg]? = some (.int v) :=
  (elem_in (own_eqi h) ev (Term.int_eval j) hc).2
theorem d_prog_18m12_0 : decode prog_18_method_12_code 0 = .ok (.aload_n 0, 1) := by decide +kernel
theorem d_prog_18m12_1 : decode prog_18_method_12_code 1 = .ok (.getfield 64, 3) := by decide +kernel
theorem d_prog_18m12_4 : decode prog_18_method_12_code 4 = .ok (.ifnull 7, 3) := by decide +kernel
theorem d_prog_18m12_7 : decode prog_18_method_12_code 7 = .ok (.iconst 1, 1) := by decide +kernel
theorem d_prog_18m12_8 : decode prog_18_method_12_code 8 = .ok (.goto 4, 3) := by decide +kernel
theorem d_prog_18m12_12 : decode prog_18_method_12_code 12 = .ok (.ireturn, 1) := by decide +kernel
theorem pn_0 : plainName "com/example/casebook/casebook/database/Dialect" = true := by first | (simp [plainName, overriddenIn]; done) | decide +kernel
theorem ef_delr (mM : MethodId) (x0 : Addr) : entryFrame mM #[(.ref x0)] 1 = mkF mM 0 #[.val (.ref x0)] [] := by first | (simp [entryFrame, mkF, argsToLocals, Value.category]; done) | rfl
def Q_delr (Z : State) (a : Addr) (w : Addr) (h0 : Heap) (n0 : Nat) (v_ : Option Value) (h_ : Heap) (L_ : List Loc) : Prop := v_ = some (.int (1 : Int32)) ∧ Fr n0 L_ ∧ h_ = h0
set_option maxRecDepth 65536 in
set_option maxHeartbeats 40000000 in
theorem rm_delr (l : Launch) (Z : State) (a0 : Array Value) (hw : ∀ d ∈ tables_1, d.before a0 Z = true) (ws : List Jvm.Cond) (a : Addr) (w : Addr) (h0 : Heap) (n0 : Nat) (Z0 : n0 ≤ h0.size) (F_uncheckedPrefix_a : Fld Z h0 a "com/example/casebook/casebook/database/Dialect" "uncheckedPrefix" "Ljava/lang/String;" (.ref w)) :
    MetFree l (⟨"com/example/casebook/casebook/database/Dialect", "deletesWithoutForeignKeyChecks", "()Z"⟩ : MethodName) (head1 (Jvm.Cond.code (⟨"com/example/casebook/casebook/database/Dialect", "deletesWithoutForeignKeyChecks", "()Z"⟩ : MethodName) prog_18_method_12_code 1 (some .boolean) :: ws) ({ frames := 0, cells := 0, slots := 0, locals := 0 } : Room)) (fun aa_ U_ => aa_ = #[(.ref a)] ∧ Z.Warmed39 U_.vm ∧ U_.heap = h0) (fun _ _ _ _ _ => True) (fun _ U_ o_ U'_ => ∃ v_ L_, o_ = .returned v_ ∧ Q_delr Z a w h0 n0 v_ U'_.heap L_ ∧ FrameEnd U_ o_ U'_ L_ ({ frames := 0, cells := 0, slots := 0, locals := 0 } : Room).cells ({ frames := 0, cells := 0, slots := 0, locals := 0 } : Room).slots) := by
  refine MetFree.of_bodySF (plainFor_of_name pn_0) hisR ?_
  intro pP eE sS mM argsA below meth cC s₁ Bd hml0 hP hK
  obtain ⟨rfl, hZ, hh⟩ := hP
  have hx := Bd.exec
  have hby := Bd.bytes
  have hml : cC.maxLocals = 1 := hml0
  have hown : sS.vm.findClass "com/example/casebook/casebook/database/Dialect" = some mM.cls := findClass_of_methodNamed Bd.named
  have hnm := (name_of_methodNamed Bd.named Bd.method).1
  have X0 : Stand pP l eE ({ frames := 0, cells := 0, slots := 0, locals := 0 } : Room) sS mM #[(.ref a)] below meth cC s₁ [] 0 0 := Stand.of_body Bd
  have e0 : s₁.heap = h0 := by rw [← hh, Bd.state]; rfl
  have N0 := Fr.nil n0
  have pre0 : ∀ t_, Steps pP.tables eE below (s₁.setTop (mkF mM 0 #[.val (.ref a)] [])) t_ → Steps pP.tables eE below (s₁.setTop (entryFrame mM #[(.ref a)] 1)) t_ := fun t_ k_ => castTop (ef_delr mM a) k_
  obtain ⟨T_1, X_1, e_1, st_1⟩ := getF X0 hx hZ hown (host := "") (Or.inl (ow hw 9 rfl)) Via.refl e0 F_uncheckedPrefix_a (g := (mkF mM 1 #[.val (.ref a)] [(.ref a)])) rfl rfl (hb hby d_prog_18m12_1)
  obtain ⟨fs, hr, hrun, hended, hW, hsame⟩ := X_1.leave (v := some (.int (1 : Int32))) (fun h => by rw [Bd.returns] at h; cases h)
  refine ⟨_, _, pre0 _ ?_, hrun, hended, _, _, rfl, ?_, ⟨_, rfl⟩, hW, hsame.mono (by decide) (by decide)⟩
  · show oS pP eE below s₁ (mkF mM 0 #[.val (.ref a)] []) _
    refine XS.aloadN X0.here hx rfl (hb hby d_prog_18m12_0) rfl rfl ?_
    show oS pP eE below s₁ (mkF mM 1 #[.val (.ref a)] [(.ref a)]) _
    refine st_1 _ ?_
    show oS pP eE below T_1 (mkF mM 4 #[.val (.ref a)] [(.ref w)]) _
    refine XS.ifnullNo X_1.here hx rfl (hb hby d_prog_18m12_4) rfl ?_
    refine XS.iconst X_1.here hx rfl (hb hby d_prog_18m12_7) ?_
    refine XS.goto X_1.here hx rfl (pc0 := 8) (pc' := 12) rfl (hb hby d_prog_18m12_8) (by decide) (by decide) ?_
    show oS pP eE below T_1 (mkF mM 12 #[.val (.ref a)] [(.int (1 : Int32))]) _
    exact retN X_1 hx (t := .boolean) Bd.returns (by simp) (hb hby d_prog_18m12_12) hr
  · show Q_delr Z a w h0 n0 _ T_1.heap _
    rw [e_1]
    exact ⟨rfl, N0, rfl⟩
theorem d_prog_18m12_11 : decode prog_18_method_12_code 11 = .ok (.iconst 0, 1) := by decide +kernel
theorem ef_deln (mM : MethodId) (x0 : Addr) : entryFrame mM #[(.ref x0)] 1 = mkF mM 0 #[.val (.ref x0)] [] := by first | (simp [entryFrame, mkF, argsToLocals, Value.category]; done) | rfl
def Q_deln (Z : State) (a : Addr) (h0 : Heap) (n0 : Nat) (v_ : Option Value) (h_ : Heap) (L_ : List Loc) : Prop := v_ = some (.int (0 : Int32)) ∧ Fr n0 L_ ∧ h_ = h0
set_option maxRecDepth 65536 in
set_option maxHeartbeats 40000000 in
theorem rm_deln (l : Launch) (Z : State) (a0 : Array Value) (hw : ∀ d ∈ tables_1, d.before a0 Z = true) (ws : List Jvm.Cond) (a : Addr) (h0 : Heap) (n0 : Nat) (Z0 : n0 ≤ h0.size) (F_uncheckedPrefix_a : Fld Z h0 a "com/example/casebook/casebook/database/Dialect" "uncheckedPrefix" "Ljava/lang/String;" .null) :
    MetFree l (⟨"com/example/casebook/casebook/database/Dialect", "deletesWithoutForeignKeyChecks", "()Z"⟩ : MethodName) (head1 (Jvm.Cond.code (⟨"com/example/casebook/casebook/database/Dialect", "deletesWithoutForeignKeyChecks", "()Z"⟩ : MethodName) prog_18_method_12_code 1 (some .boolean) :: ws) ({ frames := 0, cells := 0, slots := 0, locals := 0 } : Room)) (fun aa_ U_ => aa_ = #[(.ref a)] ∧ Z.Warmed39 U_.vm ∧ U_.heap = h0) (fun _ _ _ _ _ => True) (fun _ U_ o_ U'_ => ∃ v_ L_, o_ = .returned v_ ∧ Q_deln Z a h0 n0 v_ U'_.heap L_ ∧ FrameEnd U_ o_ U'_ L_ ({ frames := 0, cells := 0, slots := 0, locals := 0 } : Room).cells ({ frames := 0, cells := 0, slots := 0, locals := 0 } : Room).slots) := by
  refine MetFree.of_bodySF (plainFor_of_name pn_0) hisR ?_
  intro pP eE sS mM argsA below meth cC s₁ Bd hml0 hP hK
  obtain ⟨rfl, hZ, hh⟩ := hP
  have hx := Bd.exec
  have hby := Bd.bytes
  have hml : cC.maxLocals = 1 := hml0
  have hown : sS.vm.findClass "com/example/casebook/casebook/database/Dialect" = some mM.cls := findClass_of_methodNamed Bd.named
  have hnm := (name_of_methodNamed Bd.named Bd.method).1
  have X0 : Stand pP l eE ({ frames := 0, cells := 0, slots := 0, locals := 0 } : Room) sS mM #[(.ref a)] below meth cC s₁ [] 0 0 := Stand.of_body Bd
  have e0 : s₁.heap = h0 := by rw [← hh, Bd.state]; rfl
  have N0 := Fr.nil n0
  have pre0 : ∀ t_, Steps pP.tables eE below (s₁.setTop (mkF mM 0 #[.val (.ref a)] [])) t_ → Steps pP.tables eE below (s₁.setTop (entryFrame mM #[(.ref a)] 1)) t_ := fun t_ k_ => castTop (ef_deln mM a) k_
  obtain ⟨T_1, X_1, e_1, st_1⟩ := getF X0 hx hZ hown (host := "") (Or.inl (ow hw 9 rfl)) Via.refl e0 F_uncheckedPrefix_a (g := (mkF mM 1 #[.val (.ref a)] [(.ref a)])) rfl rfl (hb hby d_prog_18m12_1)
  obtain ⟨fs, hr, hrun, hended, hW, hsame⟩ := X_1.leave (v := some (.int (0 : Int32))) (fun h => by rw [Bd.returns] at h; cases h)
  refine ⟨_, _, pre0 _ ?_, hrun, hended, _, _, rfl, ?_, ⟨_, rfl⟩, hW, hsame.mono (by decide) (by decide)⟩
  · show oS pP eE below s₁ (mkF mM 0 #[.val (.ref a)] []) _
    refine XS.aloadN X0.here hx rfl (hb hby d_prog_18m12_0) rfl rfl ?_
    show oS pP eE below s₁ (mkF mM 1 #[.val (.ref a)] [(.ref a)]) _
    refine st_1 _ ?_
    show oS pP eE below T_1 (mkF mM 4 #[.val (.ref a)] [.null]) _
    refine XS.ifnullYes X_1.here hx rfl (pc0 := 4) (pc' := 11) rfl (hb hby d_prog_18m12_4) rfl (by decide) (by decide) ?_
    refine XS.iconst X_1.here hx rfl (hb hby d_prog_18m12_11) ?_
    show oS pP eE below T_1 (mkF mM 12 #[.val (.ref a)] [(.int (0 : Int32))]) _
    exact retN X_1 hx (t := .boolean) Bd.returns (by simp) (hb hby d_prog_18m12_12) hr
  · show Q_deln Z a h0 n0 _ T_1.heap _
    rw [e_1]
    exact ⟨rfl, N0, rfl⟩
theorem d_prog_18m11_0 : decode prog_18_method_11_code 0 = .ok (.aload_n 0, 1) := by decide +kernel
theorem d_prog_18m11_1 : decode prog_18_method_11_code 1 = .ok (.getfield 61, 3) := by decide +kernel
theorem d_prog_18m11_4 : decode prog_18_method_11_code 4 = .ok (.areturn, 1) := by decide +kernel
theorem ef_rkqr (mM : MethodId) (x0 : Addr) : entryFrame mM #[(.ref x0)] 1 = mkF mM 0 #[.val (.ref x0)] [] := by first | (simp [entryFrame, mkF, argsToLocals, Value.category]; done) | rfl
def Q_rkqr (Z : State) (a : Addr) (w : Addr) (h0 : Heap) (n0 : Nat) (v_ : Option Value) (h_ : Heap) (L_ : List Loc) : Prop := v_ = some (.ref w) ∧ Fr n0 L_ ∧ h_ = h0
set_option maxRecDepth 65536 in
set_option maxHeartbeats 40000000 in
theorem rm_rkqr (l : Launch) (Z : State) (a0 : Array Value) (hw : ∀ d ∈ tables_1, d.before a0 Z = true) (ws : List Jvm.Cond) (a : Addr) (w : Addr) (h0 : Heap) (n0 : Nat) (Z0 : n0 ≤ h0.size) (F_referencingKeysQuery_a : Fld Z h0 a "com/example/casebook/casebook/database/Dialect" "referencingKeysQuery" "Ljava/lang/String;" (.ref w)) :
    MetFree l (⟨"com/example/casebook/casebook/database/Dialect", "referencingKeysQuery", "()Ljava/lang/String;"⟩ : MethodName) (head1 (Jvm.Cond.code (⟨"com/example/casebook/casebook/database/Dialect", "referencingKeysQuery", "()Ljava/lang/String;"⟩ : MethodName) prog_18_method_11_code 1 (some (.object "java/lang/String")) :: ws) ({ frames := 0, cells := 0, slots := 0, locals := 0 } : Room)) (fun aa_ U_ => aa_ = #[(.ref a)] ∧ Z.Warmed39 U_.vm ∧ U_.heap = h0) (fun _ _ _ _ _ => True) (fun _ U_ o_ U'_ => ∃ v_ L_, o_ = .returned v_ ∧ Q_rkqr Z a w h0 n0 v_ U'_.heap L_ ∧ FrameEnd U_ o_ U'_ L_ ({ frames := 0, cells := 0, slots := 0, locals := 0 } : Room).cells ({ frames := 0, cells := 0, slots := 0, locals := 0 } : Room).slots) := by
  refine MetFree.of_bodySF (plainFor_of_name pn_0) hisR ?_
  intro pP eE sS mM argsA below meth cC s₁ Bd hml0 hP hK
  obtain ⟨rfl, hZ, hh⟩ := hP
  have hx := Bd.exec
  have hby := Bd.bytes
  have hml : cC.maxLocals = 1 := hml0
  have hown : sS.vm.findClass "com/example/casebook/casebook/database/Dialect" = some mM.cls := findClass_of_methodNamed Bd.named
  have hnm := (name_of_methodNamed Bd.named Bd.method).1
  have X0 : Stand pP l eE ({ frames := 0, cells := 0, slots := 0, locals := 0 } : Room) sS mM #[(.ref a)] below meth cC s₁ [] 0 0 := Stand.of_body Bd
  have e0 : s₁.heap = h0 := by rw [← hh, Bd.state]; rfl
  have N0 := Fr.nil n0
  have pre0 : ∀ t_, Steps pP.tables eE below (s₁.setTop (mkF mM 0 #[.val (.ref a)] [])) t_ → Steps pP.tables eE below (s₁.setTop (entryFrame mM #[(.ref a)] 1)) t_ := fun t_ k_ => castTop (ef_rkqr mM a) k_
  obtain ⟨T_1, X_1, e_1, st_1⟩ := getF X0 hx hZ hown (host := "") (Or.inl (ow hw 16 rfl)) Via.refl e0 F_referencingKeysQuery_a (g := (mkF mM 1 #[.val (.ref a)] [(.ref a)])) rfl rfl (hb hby d_prog_18m11_1)
  obtain ⟨fs, hr, hrun, hended, hW, hsame⟩ := X_1.leave (v := some (.ref w)) (fun h => by rw [Bd.returns] at h; cases h)
  refine ⟨_, _, pre0 _ ?_, hrun, hended, _, _, rfl, ?_, ⟨_, rfl⟩, hW, hsame.mono (by decide) (by decide)⟩
  · show oS pP eE below s₁ (mkF mM 0 #[.val (.ref a)] []) _
    refine XS.aloadN X0.here hx rfl (hb hby d_prog_18m11_0) rfl rfl ?_
    show oS pP eE below s₁ (mkF mM 1 #[.val (.ref a)] [(.ref a)]) _
    refine st_1 _ ?_
    show oS pP eE below T_1 (mkF mM 4 #[.val (.ref a)] [(.ref w)]) _
    exact retOut X_1 hx Bd.returns rfl (Or.inr (Or.inr (Or.inr (Or.inr ⟨rfl, rfl, rfl⟩)))) (hb hby d_prog_18m11_4) hr
  · show Q_rkqr Z a w h0 n0 _ T_1.heap _
    rw [e_1]
    exact ⟨rfl, N0, rfl⟩
theorem ef_rkqn (mM : MethodId) (x0 : Addr) : entryFrame mM #[(.ref x0)] 1 = mkF mM 0 #[.val (.ref x0)] [] := by first | (simp [entryFrame, mkF, argsToLocals, Value.category]; done) | rfl
def Q_rkqn (Z : State) (a : Addr) (h0 : Heap) (n0 : Nat) (v_ : Option Value) (h_ : Heap) (L_ : List Loc) : Prop := v_ = some .null ∧ Fr n0 L_ ∧ h_ = h0
set_option maxRecDepth 65536 in
set_option maxHeartbeats 40000000 in
theorem rm_rkqn (l : Launch) (Z : State) (a0 : Array Value) (hw : ∀ d ∈ tables_1, d.before a0 Z = true) (ws : List Jvm.Cond) (a : Addr) (h0 : Heap) (n0 : Nat) (Z0 : n0 ≤ h0.size) (F_referencingKeysQuery_a : Fld Z h0 a "com/example/casebook/casebook/database/Dialect" "referencingKeysQuery" "Ljava/lang/String;" .null) :
    MetFree l (⟨"com/example/casebook/casebook/database/Dialect", "referencingKeysQuery", "()Ljava/lang/String;"⟩ : MethodName) (head1 (Jvm.Cond.code (⟨"com/example/casebook/casebook/database/Dialect", "referencingKeysQuery", "()Ljava/lang/String;"⟩ : MethodName) prog_18_method_11_code 1 (some (.object "java/lang/String")) :: ws) ({ frames := 0, cells := 0, slots := 0, locals := 0 } : Room)) (fun aa_ U_ => aa_ = #[(.ref a)] ∧ Z.Warmed39 U_.vm ∧ U_.heap = h0) (fun _ _ _ _ _ => True) (fun _ U_ o_ U'_ => ∃ v_ L_, o_ = .returned v_ ∧ Q_rkqn Z a h0 n0 v_ U'_.heap L_ ∧ FrameEnd U_ o_ U'_ L_ ({ frames := 0, cells := 0, slots := 0, locals := 0 } : Room).cells ({ frames := 0, cells := 0, slots := 0, locals := 0 } : Room).slots) := by
  refine MetFree.of_bodySF (plainFor_of_name pn_0) hisR ?_
  intro pP eE sS mM argsA below meth cC s₁ Bd hml0 hP hK
  obtain ⟨rfl, hZ, hh⟩ := hP
  have hx := Bd.exec
  have hby := Bd.bytes
  have hml : cC.maxLocals = 1 := hml0
  have hown : sS.vm.findClass "com/example/casebook/casebook/database/Dialect" = some mM.cls := findClass_of_methodNamed Bd.named
  have hnm := (name_of_methodNamed Bd.named Bd.method).1
  have X0 : Stand pP l eE ({ frames := 0, cells := 0, slots := 0, locals := 0 } : Room) sS mM #[(.ref a)] below meth cC s₁ [] 0 0 := Stand.of_body Bd
  have e0 : s₁.heap = h0 := by rw [← hh, Bd.state]; rfl
  have N0 := Fr.nil n0
  have pre0 : ∀ t_, Steps pP.tables eE below (s₁.setTop (mkF mM 0 #[.val (.ref a)] [])) t_ → Steps pP.tables eE below (s₁.setTop (entryFrame mM #[(.ref a)] 1)) t_ := fun t_ k_ => castTop (ef_rkqn mM a) k_
  obtain ⟨T_1, X_1, e_1, st_1⟩ := getF X0 hx hZ hown (host := "") (Or.inl (ow hw 16 rfl)) Via.refl e0 F_referencingKeysQuery_a (g := (mkF mM 1 #[.val (.ref a)] [(.ref a)])) rfl rfl (hb hby d_prog_18m11_1)
  obtain ⟨fs, hr, hrun, hended, hW, hsame⟩ := X_1.leave (v := some .null) (fun h => by rw [Bd.returns] at h; cases h)
  refine ⟨_, _, pre0 _ ?_, hrun, hended, _, _, rfl, ?_, ⟨_, rfl⟩, hW, hsame.mono (by decide) (by decide)⟩
  · show oS pP eE below s₁ (mkF mM 0 #[.val (.ref a)] []) _
    refine XS.aloadN X0.here hx rfl (hb hby d_prog_18m11_0) rfl rfl ?_
    show oS pP eE below s₁ (mkF mM 1 #[.val (.ref a)] [(.ref a)]) _
    refine st_1 _ ?_
    show oS pP eE below T_1 (mkF mM 4 #[.val (.ref a)] [.null]) _
    exact retOut X_1 hx Bd.returns rfl (Or.inr (Or.inr (Or.inr (Or.inr ⟨rfl, rfl, rfl⟩)))) (hb hby d_prog_18m11_4) hr
  · show Q_rkqn Z a h0 n0 _ T_1.heap _
    rw [e_1]
    exact ⟨rfl, N0, rfl⟩
theorem d_jdk_43m3_0 : decode jdk_43_method_3_code 0 = .ok (.iload_n 0, 1) := by decide +kernel
theorem d_jdk_43m3_1 : decode jdk_43_method_3_code 1 = .ok (.sipush 255, 3) := by decide +kernel
theorem d_jdk_43m3_4 : decode jdk_43_method_3_code 4 = .ok (.if_icmp .gt 7, 3) := by decide +kernel
theorem d_jdk_43m3_7 : decode jdk_43_method_3_code 7 = .ok (.iconst 1, 1) := by decide +kernel
theorem d_jdk_43m3_8 : decode jdk_43_method_3_code 8 = .ok (.goto 4, 3) := by decide +kernel
theorem d_jdk_43m3_12 : decode jdk_43_method_3_code 12 = .ok (.ireturn, 1) := by decide +kernel
theorem pn_1 : plainName "java/lang/StringLatin1" = true := by first | (simp [plainName, overriddenIn]; done) | decide +kernel
theorem ef_can (mM : MethodId) (x0 : Int32) : entryFrame mM #[(.int x0)] 1 = mkF mM 0 #[.val (.int x0)] [] := by first | (simp [entryFrame, mkF, argsToLocals, Value.category]; done) | rfl
def Q_can (Z : State) (p : Int32) (h0 : Heap) (n0 : Nat) (v_ : Option Value) (h_ : Heap) (L_ : List Loc) : Prop := v_ = some (.int (1 : Int32)) ∧ Fr n0 L_ ∧ h_ = h0
set_option maxRecDepth 65536 in
set_option maxHeartbeats 40000000 in
theorem rm_can (l : Launch) (Z : State) (a0 : Array Value) (hw : ∀ d ∈ tables_1, d.before a0 Z = true) (ws : List Jvm.Cond) (p : Int32) (h0 : Heap) (n0 : Nat) (Z0 : n0 ≤ h0.size) (hp : ¬ (255 : Int32) < p) :
    MetFree l (⟨"java/lang/StringLatin1", "canEncode", "(C)Z"⟩ : MethodName) (head1 (Jvm.Cond.code (⟨"java/lang/StringLatin1", "canEncode", "(C)Z"⟩ : MethodName) jdk_43_method_3_code 1 (some .boolean) :: ws) ({ frames := 0, cells := 0, slots := 0, locals := 0 } : Room)) (fun aa_ U_ => aa_ = #[(.int p)] ∧ Z.Warmed39 U_.vm ∧ U_.heap = h0) (fun _ _ _ _ _ => True) (fun _ U_ o_ U'_ => ∃ v_ L_, o_ = .returned v_ ∧ Q_can Z p h0 n0 v_ U'_.heap L_ ∧ FrameEnd U_ o_ U'_ L_ ({ frames := 0, cells := 0, slots := 0, locals := 0 } : Room).cells ({ frames := 0, cells := 0, slots := 0, locals := 0 } : Room).slots) := by
  refine MetFree.of_bodySF (plainFor_of_name pn_1) hisR ?_
  intro pP eE sS mM argsA below meth cC s₁ Bd hml0 hP hK
  obtain ⟨rfl, hZ, hh⟩ := hP
  have hx := Bd.exec
  have hby := Bd.bytes
  have hml : cC.maxLocals = 1 := hml0
  have hown : sS.vm.findClass "java/lang/StringLatin1" = some mM.cls := findClass_of_methodNamed Bd.named
  have hnm := (name_of_methodNamed Bd.named Bd.method).1
  have X0 : Stand pP l eE ({ frames := 0, cells := 0, slots := 0, locals := 0 } : Room) sS mM #[(.int p)] below meth cC s₁ [] 0 0 := Stand.of_body Bd
  have e0 : s₁.heap = h0 := by rw [← hh, Bd.state]; rfl
  have N0 := Fr.nil n0
  have pre0 : ∀ t_, Steps pP.tables eE below (s₁.setTop (mkF mM 0 #[.val (.int p)] [])) t_ → Steps pP.tables eE below (s₁.setTop (entryFrame mM #[(.int p)] 1)) t_ := fun t_ k_ => castTop (ef_can mM p) k_
  obtain ⟨fs, hr, hrun, hended, hW, hsame⟩ := X0.leave (v := some (.int (1 : Int32))) (fun h => by rw [Bd.returns] at h; cases h)
  refine ⟨_, _, pre0 _ ?_, hrun, hended, _, _, rfl, ?_, ⟨_, rfl⟩, hW, hsame.mono (by decide) (by decide)⟩
  · show oS pP eE below s₁ (mkF mM 0 #[.val (.int p)] []) _
    refine XS.iloadN X0.here hx rfl (hb hby d_jdk_43m3_0) rfl ?_
    refine XS.sipush X0.here hx rfl (hb hby d_jdk_43m3_1) ?_
    refine XS.icmpNo X0.here hx rfl (hb hby d_jdk_43m3_4) rfl (XT.ii_gt_f hp) ?_
    refine XS.iconst X0.here hx rfl (hb hby d_jdk_43m3_7) ?_
    show oS pP eE below s₁ (mkF mM 8 #[.val (.int p)] [(.int (1 : Int32))]) _
    refine XS.goto X0.here hx rfl (pc0 := 8) (pc' := 12) rfl (hb hby d_jdk_43m3_8) (by decide) (by decide) ?_
    show oS pP eE below s₁ (mkF mM 12 #[.val (.int p)] [(.int (1 : Int32))]) _
    exact retN X0 hx (t := .boolean) Bd.returns (by simp) (hb hby d_jdk_43m3_12) hr
  · show Q_can Z p h0 n0 _ s₁.heap _
    rw [e0]
    exact ⟨rfl, N0, rfl⟩
theorem d_jdk_43m46_0 : decode jdk_43_method_46_code 0 = .ok (.iconst 1, 1) := by decide +kernel
theorem d_jdk_43m46_1 : decode jdk_43_method_46_code 1 = .ok (.newarray .byte, 2) := by decide +kernel
theorem d_jdk_43m46_3 : decode jdk_43_method_46_code 3 = .ok (.dup, 1) := by decide +kernel
theorem d_jdk_43m46_4 : decode jdk_43_method_46_code 4 = .ok (.iconst 0, 1) := by decide +kernel
theorem d_jdk_43m46_5 : decode jdk_43_method_46_code 5 = .ok (.iload_n 0, 1) := by decide +kernel
theorem d_jdk_43m46_6 : decode jdk_43_method_46_code 6 = .ok (.i2b, 1) := by decide +kernel
theorem d_jdk_43m46_7 : decode jdk_43_method_46_code 7 = .ok (.bastore, 1) := by decide +kernel
theorem d_jdk_43m46_8 : decode jdk_43_method_46_code 8 = .ok (.areturn, 1) := by decide +kernel
theorem ef_tob (mM : MethodId) (x0 : Int32) : entryFrame mM #[(.int x0)] 1 = mkF mM 0 #[.val (.int x0)] [] := by first | (simp [entryFrame, mkF, argsToLocals, Value.category]; done) | rfl
def Q_tob (Z : State) (p : Int32) (h0 : Heap) (n0 : Nat) (v_ : Option Value) (h_ : Heap) (L_ : List Loc) : Prop := ∃ b : Addr, ∃ k : ClassId, v_ = some (.ref b) ∧ Fr n0 L_ ∧ Keep h0 h_ [] ∧ h0.size ≤ b ∧ Arv Z h_ b k .byte (1 : Int32) [(.int (nar .byte (p.toInt8.toInt32)))] (.int (0 : Int32))
set_option maxRecDepth 65536 in
set_option maxHeartbeats 40000000 in
theorem rm_tob (l : Launch) (Z : State) (a0 : Array Value) (hw : ∀ d ∈ tables_1, d.before a0 Z = true) (ws : List Jvm.Cond) (p : Int32) (h0 : Heap) (n0 : Nat) (Z0 : n0 ≤ h0.size) :
    MetFree l (⟨"java/lang/StringLatin1", "toBytes", "(C)[B"⟩ : MethodName) (head1 (Jvm.Cond.code (⟨"java/lang/StringLatin1", "toBytes", "(C)[B"⟩ : MethodName) jdk_43_method_46_code 1 (some (.array .byte)) :: ws) ({ frames := 0, cells := 1, slots := 1, locals := 0 } : Room)) (fun aa_ U_ => aa_ = #[(.int p)] ∧ Z.Warmed39 U_.vm ∧ U_.heap = h0) (fun _ _ _ _ _ => True) (fun _ U_ o_ U'_ => ∃ v_ L_, o_ = .returned v_ ∧ Q_tob Z p h0 n0 v_ U'_.heap L_ ∧ FrameEnd U_ o_ U'_ L_ ({ frames := 0, cells := 1, slots := 1, locals := 0 } : Room).cells ({ frames := 0, cells := 1, slots := 1, locals := 0 } : Room).slots) := by
  refine MetFree.of_bodySF (plainFor_of_name pn_1) hisR ?_
  intro pP eE sS mM argsA below meth cC s₁ Bd hml0 hP hK
  obtain ⟨rfl, hZ, hh⟩ := hP
  have hx := Bd.exec
  have hby := Bd.bytes
  have hml : cC.maxLocals = 1 := hml0
  have hown : sS.vm.findClass "java/lang/StringLatin1" = some mM.cls := findClass_of_methodNamed Bd.named
  have hnm := (name_of_methodNamed Bd.named Bd.method).1
  have X0 : Stand pP l eE ({ frames := 0, cells := 1, slots := 1, locals := 0 } : Room) sS mM #[(.int p)] below meth cC s₁ [] 0 0 := Stand.of_body Bd
  have e0 : s₁.heap = h0 := by rw [← hh, Bd.state]; rfl
  have N0 := Fr.nil n0
  have pre0 : ∀ t_, Steps pP.tables eE below (s₁.setTop (mkF mM 0 #[.val (.int p)] [])) t_ → Steps pP.tables eE below (s₁.setTop (entryFrame mM #[(.int p)] 1)) t_ := fun t_ k_ => castTop (ef_tob mM p) k_
  obtain ⟨T_1, h_1, k_1, X_1, e_1, E_1, A_1, st_1⟩ := newP X0 hx hZ (ow hw 36 rfl) e0 (g := (mkF mM 1 #[.val (.int p)] [(.int (1 : Int32))])) rfl (hb hby d_jdk_43m46_1) rfl (by decide) (cap := 1) (by decide) (by decide) (by decide) (by decide)
  obtain ⟨b_1, g_1⟩ : ∃ z, z = h0.size := ⟨_, rfl⟩
  rw [← g_1] at A_1 st_1
  have g_b_1 : n0 ≤ b_1 := Nat.le_trans Z0 (Nat.le_of_eq g_1.symm)
  have sz_b_1 : h0.size ≤ b_1 := Nat.le_trans (Keep.refl h0 []).1 (Nat.le_of_eq g_1.symm)
  have Z_1 : n0 ≤ h_1.size := (Nat.le_trans Z0 E_1.1)
  have K_1 : Keep h0 h_1 [] := (Keep.refl h0 []).ext E_1
  have V_b_1 : Arv Z h_1 b_1 k_1 .byte (1 : Int32) [(.int (0 : Int32))] (.int (0 : Int32)) := (Arv.new A_1 (by decide)).pad (pad_rep [] (.int (0 : Int32)) 1)
  obtain ⟨cl_2, Ar_2, qa_2, Sa_2, Na_2, Ha_2, Ga_2⟩ := id V_b_1
  have hin_2 : ¬ ((0 : Int32) < 0 ∨ cl_2.slots.size ≤ ((0 : Int32)).toNatClampNeg) := inb_of Sa_2 ⟨by decide, by decide⟩
  obtain ⟨T_2, h_2, X_2, e_2, W_2, st_2⟩ := stB X_1 hx hZ e_1 Ar_2 (j := (0 : Int32)) hin_2 (g := (mkF mM 7 #[.val (.int p)] [(.int (p.toInt8.toInt32)), (.int (0 : Int32)), (.ref b_1), (.ref b_1)])) rfl rfl (hb hby d_jdk_43m46_7)
  have V_2 : Arv Z h_2 b_1 k_1 .byte (1 : Int32) [(.int (nar .byte (p.toInt8.toInt32)))] (.int (0 : Int32)) := Arv.set Ar_2 qa_2 Sa_2 Na_2 Ha_2 Ga_2 (fits_nar_byte _) W_2 0 rfl (Nat.le_of_ble_eq_true rfl)
  have Z_2 : n0 ≤ h_2.size := (Nat.le_trans Z_1 (Keep.of_wr W_2).1)
  have K_2 : Keep h0 h_2 [] := K_1.wr W_2 (Or.inr sz_b_1)
  have N_2 := Fr.snoc X_2 N0 g_b_1
  obtain ⟨fs, hr, hrun, hended, hW, hsame⟩ := X_2.leave (v := some (.ref b_1)) (fun h => by rw [Bd.returns] at h; cases h)
  refine ⟨_, _, pre0 _ ?_, hrun, hended, _, _, rfl, ?_, ⟨_, rfl⟩, hW, hsame.mono (by decide) (by decide)⟩
  · show oS pP eE below s₁ (mkF mM 0 #[.val (.int p)] []) _
    refine XS.iconst X0.here hx rfl (hb hby d_jdk_43m46_0) ?_
    show oS pP eE below s₁ (mkF mM 1 #[.val (.int p)] [(.int (1 : Int32))]) _
    refine st_1 _ ?_
    show oS pP eE below T_1 (mkF mM 3 #[.val (.int p)] [(.ref b_1)]) _
    refine XS.dup X_1.here hx rfl (hb hby d_jdk_43m46_3) rfl rfl ?_
    refine XS.iconst X_1.here hx rfl (hb hby d_jdk_43m46_4) ?_
    refine XS.iloadN X_1.here hx rfl (hb hby d_jdk_43m46_5) rfl ?_
    show oS pP eE below T_1 (mkF mM 6 #[.val (.int p)] [(.int p), (.int (0 : Int32)), (.ref b_1), (.ref b_1)]) _
    refine XT.i2b X_1.here hx rfl (hb hby d_jdk_43m46_6) rfl ?_
    show oS pP eE below T_1 (mkF mM 7 #[.val (.int p)] [(.int (p.toInt8.toInt32)), (.int (0 : Int32)), (.ref b_1), (.ref b_1)]) _
    refine st_2 _ ?_
    show oS pP eE below T_2 (mkF mM 8 #[.val (.int p)] [(.ref b_1)]) _
    exact retOut X_2 hx Bd.returns rfl (Or.inr (Or.inr (Or.inr (Or.inr ⟨rfl, rfl, rfl⟩)))) (hb hby d_jdk_43m46_8) hr
  · show Q_tob Z p h0 n0 _ T_2.heap _
    rw [e_2]
    exact ⟨b_1, k_1, rfl, N_2, K_2, sz_b_1, V_2⟩
theorem d_jdk_42m151_0 : decode jdk_42_method_151_code 0 = .ok (.aload_n 0, 1) := by decide +kernel
theorem d_jdk_42m151_1 : decode jdk_42_method_151_code 1 = .ok (.invokespecial 1, 3) := by decide +kernel
theorem d_jdk_42m151_4 : decode jdk_42_method_151_code 4 = .ok (.aload_n 0, 1) := by decide +kernel
theorem d_jdk_42m151_5 : decode jdk_42_method_151_code 5 = .ok (.aload_n 1, 1) := by decide +kernel
theorem d_jdk_42m151_6 : decode jdk_42_method_151_code 6 = .ok (.putfield 9, 3) := by decide +kernel
theorem d_jdk_42m151_9 : decode jdk_42_method_151_code 9 = .ok (.aload_n 0, 1) := by decide +kernel
theorem d_jdk_42m151_10 : decode jdk_42_method_151_code 10 = .ok (.iload_n 2, 1) := by decide +kernel
theorem d_jdk_42m151_11 : decode jdk_42_method_151_code 11 = .ok (.putfield 15, 3) := by decide +kernel
theorem d_jdk_42m151_14 : decode jdk_42_method_151_code 14 = .ok (.return_, 1) := by decide +kernel
theorem pn_2 : plainName "java/lang/String" = true := by first | (simp [plainName, overriddenIn]; done) | decide +kernel
theorem ef_sinit (mM : MethodId) (x0 : Addr) (x1 : Addr) (x2 : Int32) : entryFrame mM #[(.ref x0), (.ref x1), (.int x2)] 3 = mkF mM 0 #[.val (.ref x0), .val (.ref x1), .val (.int x2)] [] := by first | (simp [entryFrame, mkF, argsToLocals, Value.category]; done) | rfl
def Q_sinit (Z : State) (a : Addr) (w : Addr) (h0 : Heap) (n0 : Nat) (v_ : Option Value) (h_ : Heap) (L_ : List Loc) : Prop := v_ = none ∧ Fr n0 L_ ∧ Keep h0 h_ [a] ∧ Fld Z h_ a "java/lang/String" "value" "[B" (.ref w) ∧ Fld Z h_ a "java/lang/String" "coder" "B" (.int (0 : Int32)) ∧ Exa Z h_ a "java/lang/String"
set_option maxRecDepth 65536 in
set_option maxHeartbeats 40000000 in
theorem rm_sinit (l : Launch) (Z : State) (a0 : Array Value) (hw : ∀ d ∈ tables_1, d.before a0 Z = true) (ws : List Jvm.Cond) (a : Addr) (w : Addr) (h0 : Heap) (n0 : Nat) (Z0 : n0 ≤ h0.size) (F_value_a : Fld Z h0 a "java/lang/String" "value" "[B" .null) (F_coder_a : Fld Z h0 a "java/lang/String" "coder" "B" (.int (0 : Int32))) (E_a : Exa Z h0 a "java/lang/String") (g_a : n0 ≤ a) :
    MetFree l (⟨"java/lang/String", "<init>", "([BB)V"⟩ : MethodName) (head1 (Jvm.Cond.code (⟨"java/lang/String", "<init>", "([BB)V"⟩ : MethodName) jdk_42_method_151_code 3 none :: ws) ({ frames := 1, cells := 0, slots := 0, locals := 12 } : Room)) (fun aa_ U_ => aa_ = #[(.ref a), (.ref w), (.int (0 : Int32))] ∧ Z.Warmed39 U_.vm ∧ U_.heap = h0) (fun _ _ _ _ _ => True) (fun _ U_ o_ U'_ => ∃ v_ L_, o_ = .returned v_ ∧ Q_sinit Z a w h0 n0 v_ U'_.heap L_ ∧ FrameEnd U_ o_ U'_ L_ ({ frames := 1, cells := 0, slots := 0, locals := 12 } : Room).cells ({ frames := 1, cells := 0, slots := 0, locals := 12 } : Room).slots) := by
  refine MetFree.of_bodySF (plainFor_of_name pn_2) hisR ?_
  intro pP eE sS mM argsA below meth cC s₁ Bd hml0 hP hK
  obtain ⟨rfl, hZ, hh⟩ := hP
  have hx := Bd.exec
  have hby := Bd.bytes
  have hml : cC.maxLocals = 3 := hml0
  have hown : sS.vm.findClass "java/lang/String" = some mM.cls := findClass_of_methodNamed Bd.named
  have hnm := (name_of_methodNamed Bd.named Bd.method).1
  have X0 : Stand pP l eE ({ frames := 1, cells := 0, slots := 0, locals := 12 } : Room) sS mM #[(.ref a), (.ref w), (.int (0 : Int32))] below meth cC s₁ [] 0 0 := Stand.of_body Bd
  have e0 : s₁.heap = h0 := by rw [← hh, Bd.state]; rfl
  have N0 := Fr.nil n0
  have pre0 : ∀ t_, Steps pP.tables eE below (s₁.setTop (mkF mM 0 #[.val (.ref a), .val (.ref w), .val (.int (0 : Int32))] [])) t_ → Steps pP.tables eE below (s₁.setTop (entryFrame mM #[(.ref a), (.ref w), (.int (0 : Int32))] 3)) t_ := fun t_ k_ => castTop (ef_sinit mM a w (0 : Int32)) k_
  obtain ⟨T_1, X_1, e_1, st_1⟩ := initO X0 hx hZ hown (ow hw 41 rfl) (ow hw 42 rfl) (ow hw 43 rfl) e0 (g := (mkF mM 1 #[.val (.ref a), .val (.ref w), .val (.int (0 : Int32))] [(.ref a)])) rfl (by rw [hml]; rfl) rfl (hb hby d_jdk_42m151_1) (by decide) (W := 0) (by show 2 * 0 + _ ≤ _; exact Nat.le_of_eq rfl) (by decide)
  obtain ⟨T_2, h_2, X_2, e_2, W_2, st_2⟩ := putF X_1 hx hZ hown (host := "") (Or.inl (ow hw 44 rfl)) Via.refl e_1 F_value_a E_a (Or.inr ⟨(ow hw 45 rfl), rfl, hnm⟩) (ow hw 32 rfl) (ty := (.array .byte)) (by decide) rfl rfl (g := (mkF mM 6 #[.val (.ref a), .val (.ref w), .val (.int (0 : Int32))] [(.ref w), (.ref a)])) rfl rfl (hb hby d_jdk_42m151_6)
  have Fw_2 := F_value_a.same W_2
  have Z_2 : n0 ≤ h_2.size := (Nat.le_trans Z0 (Keep.of_wr W_2).1)
  have K_2 : Keep h0 h_2 [a] := (Keep.refl h0 [a]).wr W_2 (Or.inl (List.mem_of_getElem? (i := 0) rfl))
  have N_2 := Fr.snoc X_2 N0 g_a
  obtain ⟨T_3, h_3, X_3, e_3, W_3, st_3⟩ := putFN X_2 hx hZ hown (ow hw 46 rfl) Via.refl e_2 (F_coder_a.other W_2 (Or.inr (slot_ne (Or.inr (ow hw 47 rfl)) (Or.inr (ow hw 45 rfl)) (by decide) (t := .byte) (t' := (.array .byte)) (by decide) (by decide)))) (E_a.wr W_2) (Or.inr ⟨(ow hw 47 rfl), rfl, hnm⟩) (ow hw 32 rfl) (ty := .byte) (v' := (.int (0 : Int32))) (by decide) rfl rfl (g := (mkF mM 11 #[.val (.ref a), .val (.ref w), .val (.int (0 : Int32))] [(.int (0 : Int32)), (.ref a)])) rfl rfl (hb hby d_jdk_42m151_11)
  have Fw_3 := (F_coder_a.other W_2 (Or.inr (slot_ne (Or.inr (ow hw 47 rfl)) (Or.inr (ow hw 45 rfl)) (by decide) (t := .byte) (t' := (.array .byte)) (by decide) (by decide)))).same W_3
  have Z_3 : n0 ≤ h_3.size := (Nat.le_trans Z_2 (Keep.of_wr W_3).1)
  have K_3 : Keep h0 h_3 [a] := K_2.wr W_3 (Or.inl (List.mem_of_getElem? (i := 0) rfl))
  have N_3 := Fr.snoc X_3 N_2 g_a
  obtain ⟨fs, hr, hrun, hended, hW, hsame⟩ := X_3.leave (v := none) (fun _ => rfl)
  refine ⟨_, _, pre0 _ ?_, hrun, hended, _, _, rfl, ?_, ⟨_, rfl⟩, hW, hsame.mono (by decide) (by decide)⟩
  · show oS pP eE below s₁ (mkF mM 0 #[.val (.ref a), .val (.ref w), .val (.int (0 : Int32))] []) _
    refine XS.aloadN X0.here hx rfl (hb hby d_jdk_42m151_0) rfl rfl ?_
    show oS pP eE below s₁ (mkF mM 1 #[.val (.ref a), .val (.ref w), .val (.int (0 : Int32))] [(.ref a)]) _
    refine st_1 _ ?_
    show oS pP eE below T_1 (mkF mM 4 #[.val (.ref a), .val (.ref w), .val (.int (0 : Int32))] []) _
    refine XS.aloadN X_1.here hx rfl (hb hby d_jdk_42m151_4) rfl rfl ?_
    refine XS.aloadN X_1.here hx rfl (hb hby d_jdk_42m151_5) rfl rfl ?_
    show oS pP eE below T_1 (mkF mM 6 #[.val (.ref a), .val (.ref w), .val (.int (0 : Int32))] [(.ref w), (.ref a)]) _
    refine st_2 _ ?_
    show oS pP eE below T_2 (mkF mM 9 #[.val (.ref a), .val (.ref w), .val (.int (0 : Int32))] []) _
    refine XS.aloadN X_2.here hx rfl (hb hby d_jdk_42m151_9) rfl rfl ?_
    refine XS.iloadN X_2.here hx rfl (hb hby d_jdk_42m151_10) rfl ?_
    show oS pP eE below T_2 (mkF mM 11 #[.val (.ref a), .val (.ref w), .val (.int (0 : Int32))] [(.int (0 : Int32)), (.ref a)]) _
    refine st_3 _ ?_
    show oS pP eE below T_3 (mkF mM 14 #[.val (.ref a), .val (.ref w), .val (.int (0 : Int32))] []) _
    exact X_3.returnOut hx Bd.returns (hb hby d_jdk_42m151_14) hr
  · show Q_sinit Z a w h0 n0 _ T_3.heap _
    rw [e_3]
    exact ⟨rfl, N_3, K_3, (Fw_2.other W_3 (Or.inr (slot_ne (Or.inr (ow hw 45 rfl)) (Or.inr (ow hw 47 rfl)) (by decide) (t := (.array .byte)) (t' := .byte) (by decide) (by decide)))), Fw_3, ((E_a.wr W_2).wr W_3)⟩
theorem d_jdk_42m139_0 : decode jdk_42_method_139_code 0 = .ok (.getstatic 38, 3) := by decide +kernel
theorem d_jdk_42m139_3 : decode jdk_42_method_139_code 3 = .ok (.ifCond .eq 23, 3) := by decide +kernel
theorem d_jdk_42m139_6 : decode jdk_42_method_139_code 6 = .ok (.iload_n 0, 1) := by decide +kernel
theorem d_jdk_42m139_7 : decode jdk_42_method_139_code 7 = .ok (.invokestatic 1015, 3) := by decide +kernel
theorem pd_0 : parseMethodDescriptor "(C)Z" = some ⟨[.char], some .boolean⟩ := by decide +kernel
abbrev MN0 : MethodName := ⟨"java/lang/StringLatin1", "canEncode", "(C)Z"⟩
theorem d_jdk_42m139_10 : decode jdk_42_method_139_code 10 = .ok (.ifCond .eq 16, 3) := by decide +kernel
theorem d_jdk_42m139_13 : decode jdk_42_method_139_code 13 = .ok (.new 10, 3) := by decide +kernel
theorem d_jdk_42m139_16 : decode jdk_42_method_139_code 16 = .ok (.dup, 1) := by decide +kernel
theorem d_jdk_42m139_17 : decode jdk_42_method_139_code 17 = .ok (.iload_n 0, 1) := by decide +kernel
theorem d_jdk_42m139_18 : decode jdk_42_method_139_code 18 = .ok (.invokestatic 1018, 3) := by decide +kernel
theorem pd_1 : parseMethodDescriptor "(C)[B" = some ⟨[.char], some (.array .byte)⟩ := by decide +kernel
abbrev MN1 : MethodName := ⟨"java/lang/StringLatin1", "toBytes", "(C)[B"⟩
theorem d_jdk_42m139_21 : decode jdk_42_method_139_code 21 = .ok (.iconst 0, 1) := by decide +kernel
theorem d_jdk_42m139_22 : decode jdk_42_method_139_code 22 = .ok (.invokespecial 209, 3) := by decide +kernel
theorem pd_2 : parseMethodDescriptor "([BB)V" = some ⟨[(.array .byte), .byte], none⟩ := by decide +kernel
abbrev MN2 : MethodName := ⟨"java/lang/String", "<init>", "([BB)V"⟩
theorem d_jdk_42m139_25 : decode jdk_42_method_139_code 25 = .ok (.areturn, 1) := by decide +kernel
theorem ef_valof (mM : MethodId) (x0 : Int32) : entryFrame mM #[(.int x0)] 1 = mkF mM 0 #[.val (.int x0)] [] := by first | (simp [entryFrame, mkF, argsToLocals, Value.category]; done) | rfl
def Q_valof (Z : State) (p : Int32) (cs : Int32) (h0 : Heap) (n0 : Nat) (v_ : Option Value) (h_ : Heap) (L_ : List Loc) : Prop := ∃ b : Addr, ∃ d : Addr, ∃ k : ClassId, v_ = some (.ref b) ∧ Fr n0 L_ ∧ Keep h0 h_ [] ∧ h0.size ≤ b ∧ h0.size ≤ d ∧ Exa Z h_ b "java/lang/String" ∧ Fld Z h_ b "java/lang/String" "value" "[B" (.ref d) ∧ Fld Z h_ b "java/lang/String" "coder" "B" (.int (0 : Int32)) ∧ Arv Z h_ d k .byte (1 : Int32) [(.int (nar .byte (p.toInt8.toInt32)))] (.int (0 : Int32))
set_option maxRecDepth 65536 in
set_option maxHeartbeats 40000000 in
theorem rm_valof (l : Launch) (Z : State) (a0 : Array Value) (hw : ∀ d ∈ tables_1, d.before a0 Z = true) (ws : List Jvm.Cond) (p : Int32) (cs : Int32) (h0 : Heap) (n0 : Nat) (Z0 : n0 ≤ h0.size) (S_String_COMPACT_STRINGS : Sta Z h0 "java/lang/String" "COMPACT_STRINGS" "Z" (.int cs)) (hcs : ¬ cs = 0) (hp : ¬ (255 : Int32) < p) :
    MetFree l (⟨"java/lang/String", "valueOf", "(C)Ljava/lang/String;"⟩ : MethodName) (head1 (Jvm.Cond.code (⟨"java/lang/String", "valueOf", "(C)Ljava/lang/String;"⟩ : MethodName) jdk_42_method_139_code 1 (some (.object "java/lang/String")) :: ws) ({ frames := 2, cells := 2, slots := 5, locals := 27 } : Room)) (fun aa_ U_ => aa_ = #[(.int p)] ∧ Z.Warmed39 U_.vm ∧ U_.heap = h0) (fun _ _ _ _ _ => True) (fun _ U_ o_ U'_ => ∃ v_ L_, o_ = .returned v_ ∧ Q_valof Z p cs h0 n0 v_ U'_.heap L_ ∧ FrameEnd U_ o_ U'_ L_ ({ frames := 2, cells := 2, slots := 5, locals := 27 } : Room).cells ({ frames := 2, cells := 2, slots := 5, locals := 27 } : Room).slots) := by
  refine MetFree.of_bodySF (plainFor_of_name pn_2) hisR ?_
  intro pP eE sS mM argsA below meth cC s₁ Bd hml0 hP hK
  obtain ⟨rfl, hZ, hh⟩ := hP
  have hx := Bd.exec
  have hby := Bd.bytes
  have hml : cC.maxLocals = 1 := hml0
  have hown : sS.vm.findClass "java/lang/String" = some mM.cls := findClass_of_methodNamed Bd.named
  have hnm := (name_of_methodNamed Bd.named Bd.method).1
  have X0 : Stand pP l eE ({ frames := 2, cells := 2, slots := 5, locals := 27 } : Room) sS mM #[(.int p)] below meth cC s₁ [] 0 0 := Stand.of_body Bd
  have e0 : s₁.heap = h0 := by rw [← hh, Bd.state]; rfl
  have N0 := Fr.nil n0
  have pre0 : ∀ t_, Steps pP.tables eE below (s₁.setTop (mkF mM 0 #[.val (.int p)] [])) t_ → Steps pP.tables eE below (s₁.setTop (entryFrame mM #[(.int p)] 1)) t_ := fun t_ k_ => castTop (ef_valof mM p) k_
  obtain ⟨T_1, X_1, e_1, st_1⟩ := getS2 X0 hx hZ hown (host := "") (Or.inl (ow hw 26 rfl)) Via.refl e0 S_String_COMPACT_STRINGS (g := (mkF mM 0 #[.val (.int p)] [])) rfl (hb hby d_jdk_42m139_0)
  obtain ⟨_, _, ⟨T_2, L_2, k_2, n_2⟩, -, X_2, ⟨Lc_2, hQ_2, l_2, y_2, z_2⟩, st_2⟩ := Jvm.LawKit.callS X_1 hx (y := MN0) hown (mvT hZ (ow hw 27 rfl)) (mvT hZ (ow hw 28 rfl)) (mvT hZ (ow hw 29 rfl)) (mvT hZ (ow hw 30 rfl)) (by decide) (backOf (W := 0) (rm_can l Z a0 hw [] p h0 n0 Z0 hp) hZ (ow hw 30 rfl) (ow hw 29 rfl) (by decide) (by decide)) (g := (mkF mM 7 #[.val (.int p)] [(.int p)])) rfl (by rw [hml]; rfl) (argsL := [(.int p)]) (rest := []) (lenOf pd_0 rfl) rfl (by show 2 * 0 + _ ≤ _; exact Nat.le_of_eq rfl) (hb hby d_jdk_42m139_7) (fun _ _ => ⟨rfl, e_1, (by decide : 0 + 0 ≤ _), (by decide : 0 + 0 ≤ _)⟩)
  dsimp only [Pt.U, Pt.locs, Pt.cells, Pt.slots] at X_2 l_2 y_2 z_2 st_2 hQ_2
  subst l_2 y_2 z_2
  obtain ⟨rfl, N_2q, eh_2⟩ := hQ_2
  have N_2 := Fr.app N0 N_2q
  obtain ⟨T_3, h_3, X_3, e_3, E_3, A_3, D_3, -, st_3⟩ := newO X_2 hx hZ hown (ow hw 31 rfl) (ow hw 32 rfl) (ow hw 24 rfl) eh_2 (g := (mkF mM 13 #[.val (.int p)] [])) rfl (hb hby d_jdk_42m139_13) (by decide) (by decide)
  obtain ⟨b_3, g_3⟩ : ∃ z, z = h0.size := ⟨_, rfl⟩
  rw [← g_3] at A_3 D_3 st_3
  have g_b_3 : n0 ≤ b_3 := Nat.le_trans Z0 (Nat.le_of_eq g_3.symm)
  have sz_b_3 : h0.size ≤ b_3 := Nat.le_trans (Keep.refl h0 []).1 (Nat.le_of_eq g_3.symm)
  have Z_3 : n0 ≤ h_3.size := (Nat.le_trans Z0 E_3.1)
  have K_3 : Keep h0 h_3 [] := (Keep.refl h0 []).ext E_3
  have F_value_b_3__3 : Fld Z h_3 b_3 "java/lang/String" "value" "[B" .null := D_3 (Or.inr (ow hw 45 rfl)) (ty := (.array .byte)) (by decide)
  have F_coder_b_3__3 : Fld Z h_3 b_3 "java/lang/String" "coder" "B" (.int (0 : Int32)) := D_3 (Or.inr (ow hw 47 rfl)) (ty := .byte) (by decide)
  obtain ⟨_, _, ⟨T_4, L_4, k_4, n_4⟩, -, X_4, ⟨Lc_4, hQ_4, l_4, y_4, z_4⟩, st_4⟩ := Jvm.LawKit.callS X_3 hx (y := MN1) hown (mvT hZ (ow hw 33 rfl)) (mvT hZ (ow hw 34 rfl)) (mvT hZ (ow hw 29 rfl)) (mvT hZ (ow hw 35 rfl)) (by decide) (backOf (W := 2) (rm_tob l Z a0 hw [] p h_3 n0 Z_3 ) hZ (ow hw 35 rfl) (ow hw 29 rfl) (by decide) (by decide)) (g := (mkF mM 18 #[.val (.int p)] [(.int p), (.ref b_3), (.ref b_3)])) rfl (by rw [hml]; rfl) (argsL := [(.int p)]) (rest := [(.ref b_3), (.ref b_3)]) (lenOf pd_1 rfl) rfl (by show 2 * 0 + _ ≤ _; exact Nat.le_of_eq rfl) (hb hby d_jdk_42m139_18) (fun _ _ => ⟨rfl, e_3, (by decide : 1 + 1 ≤ _), (by decide : 4 + 1 ≤ _)⟩)
  dsimp only [Pt.U, Pt.locs, Pt.cells, Pt.slots] at X_4 l_4 y_4 z_4 st_4 hQ_4
  subst l_4 y_4 z_4
  obtain ⟨b__4, ⟨k__4, ⟨rfl, N_4q, Kc_4, pfsz_b_4, pfV_b_4⟩⟩⟩ := hQ_4
  have Z_4 : n0 ≤ T_4.heap.size := (Nat.le_trans Z_3 Kc_4.1)
  have K_4 : Keep h0 T_4.heap [] := K_3.trans Kc_4 all0
  have sz_b__4 : h0.size ≤ b__4 := Nat.le_trans K_3.1 pfsz_b_4
  have g_b__4 : n0 ≤ b__4 := Nat.le_trans Z_3 pfsz_b_4
  have N_4 := Fr.app N_2 N_4q
  obtain ⟨_, _, ⟨T_5, L_5, k_5, n_5⟩, -, X_5, ⟨Lc_5, hQ_5, l_5, y_5, z_5⟩, st_5⟩ := X_4.specialBack hx (y := MN2) rfl hown (mvT hZ (ow hw 37 rfl)) (mvT hZ (ow hw 38 rfl)) (mvT hZ (ow hw 40 rfl)) (by decide) (backOf (W := 1) (rm_sinit l Z a0 hw [] b_3 b__4 T_4.heap n0 Z_4 (F_value_b_3__3.keep Kc_4 nin0) (F_coder_b_3__3.keep Kc_4 nin0) (A_3.keep Kc_4) g_b_3) hZ (ow hw 40 rfl) (ow hw 24 rfl) (by decide) (by decide)) (g := (mkF mM 22 #[.val (.int p)] [(.int (0 : Int32)), (.ref b__4), (.ref b_3), (.ref b_3)])) rfl (by rw [hml]; rfl) (Steps.refl _) (a := b_3) (argsL := [(.ref b__4), (.int (0 : Int32))]) (rest := [(.ref b_3)]) (lenOf pd_2 rfl) rfl (by show 2 * 0 + _ ≤ _; exact Nat.le_of_eq rfl) (hb hby d_jdk_42m139_22) (fun _ _ => ⟨rfl, rfl, (by decide : 2 + 0 ≤ _), (by decide : 5 + 0 ≤ _)⟩)
  dsimp only [Pt.U, Pt.locs, Pt.cells, Pt.slots] at X_5 l_5 y_5 z_5 st_5 hQ_5
  subst l_5 y_5 z_5
  obtain ⟨rfl, N_5q, Kc_5, pfF_value_a_5, pfF_coder_a_5, pfE_a_5⟩ := hQ_5
  have Z_5 : n0 ≤ T_5.heap.size := (Nat.le_trans Z_4 Kc_5.1)
  have K_5 : Keep h0 T_5.heap [] := K_4.trans Kc_5 (allS (Or.inr sz_b_3) all0)
  have N_5 := Fr.app N_4 N_5q
  obtain ⟨fs, hr, hrun, hended, hW, hsame⟩ := X_5.leave (v := some (.ref b_3)) (fun h => by rw [Bd.returns] at h; cases h)
  refine ⟨_, _, pre0 _ ?_, hrun, hended, _, _, rfl, ?_, ⟨_, rfl⟩, hW, hsame.mono (by decide) (by decide)⟩
  · show oS pP eE below s₁ (mkF mM 0 #[.val (.int p)] []) _
    refine st_1 _ ?_
    show oS pP eE below T_1 (mkF mM 3 #[.val (.int p)] [(.int cs)]) _
    refine XS.ifNo X_1.here hx rfl (hb hby d_jdk_42m139_3) rfl (XT.i0_eq_f hcs) ?_
    refine XS.iloadN X_1.here hx rfl (hb hby d_jdk_42m139_6) rfl ?_
    show oS pP eE below T_1 (mkF mM 7 #[.val (.int p)] [(.int p)]) _
    refine st_2 _ ?_
    show oS pP eE below T_2 (mkF mM 10 #[.val (.int p)] [(.int (1 : Int32))]) _
    refine XS.ifNo X_2.here hx rfl (hb hby d_jdk_42m139_10) rfl (by decide) ?_
    show oS pP eE below T_2 (mkF mM 13 #[.val (.int p)] []) _
    refine st_3 _ ?_
    show oS pP eE below T_3 (mkF mM 16 #[.val (.int p)] [(.ref b_3)]) _
    refine XS.dup X_3.here hx rfl (hb hby d_jdk_42m139_16) rfl rfl ?_
    refine XS.iloadN X_3.here hx rfl (hb hby d_jdk_42m139_17) rfl ?_
    show oS pP eE below T_3 (mkF mM 18 #[.val (.int p)] [(.int p), (.ref b_3), (.ref b_3)]) _
    refine st_4 _ ?_
    show oS pP eE below T_4 (mkF mM 21 #[.val (.int p)] [(.ref b__4), (.ref b_3), (.ref b_3)]) _
    refine XS.iconst X_4.here hx rfl (hb hby d_jdk_42m139_21) ?_
    show oS pP eE below T_4 (mkF mM 22 #[.val (.int p)] [(.int (0 : Int32)), (.ref b__4), (.ref b_3), (.ref b_3)]) _
    refine st_5.trans ?_
    show oS pP eE below T_5 (mkF mM 25 #[.val (.int p)] [(.ref b_3)]) _
    exact retOut X_5 hx Bd.returns rfl (Or.inr (Or.inr (Or.inr (Or.inr ⟨rfl, rfl, rfl⟩)))) (hb hby d_jdk_42m139_25) hr
  · show Q_valof Z p cs h0 n0 _ T_5.heap _
    exact ⟨b_3, b__4, k__4, rfl, N_5, K_5, sz_b_3, sz_b__4, pfE_a_5, pfF_value_a_5, pfF_coder_a_5, (pfV_b_4.keep Kc_5 (ninS (Ne.symm (Nat.ne_of_lt (Nat.lt_of_lt_of_le A_3.lt pfsz_b_4))) nin0))⟩
theorem d_jdk_42m152_0 : decode jdk_42_method_152_code 0 = .ok (.getstatic 38, 3) := by decide +kernel
theorem d_jdk_42m152_3 : decode jdk_42_method_152_code 3 = .ok (.ifCond .eq 10, 3) := by decide +kernel
theorem d_jdk_42m152_6 : decode jdk_42_method_152_code 6 = .ok (.aload_n 0, 1) := by decide +kernel
theorem d_jdk_42m152_7 : decode jdk_42_method_152_code 7 = .ok (.getfield 15, 3) := by decide +kernel
theorem d_jdk_42m152_10 : decode jdk_42_method_152_code 10 = .ok (.goto 4, 3) := by decide +kernel
theorem d_jdk_42m152_14 : decode jdk_42_method_152_code 14 = .ok (.ireturn, 1) := by decide +kernel
theorem ef_coder (mM : MethodId) (x0 : Addr) : entryFrame mM #[(.ref x0)] 1 = mkF mM 0 #[.val (.ref x0)] [] := by first | (simp [entryFrame, mkF, argsToLocals, Value.category]; done) | rfl
def Q_coder (Z : State) (a : Addr) (cs : Int32) (h0 : Heap) (n0 : Nat) (v_ : Option Value) (h_ : Heap) (L_ : List Loc) : Prop := v_ = some (.int (0 : Int32)) ∧ Fr n0 L_ ∧ h_ = h0
set_option maxRecDepth 65536 in
set_option maxHeartbeats 40000000 in
theorem rm_coder (l : Launch) (Z : State) (a0 : Array Value) (hw : ∀ d ∈ tables_1, d.before a0 Z = true) (ws : List Jvm.Cond) (a : Addr) (cs : Int32) (h0 : Heap) (n0 : Nat) (Z0 : n0 ≤ h0.size) (F_coder_a : Fld Z h0 a "java/lang/String" "coder" "B" (.int (0 : Int32))) (S_String_COMPACT_STRINGS : Sta Z h0 "java/lang/String" "COMPACT_STRINGS" "Z" (.int cs)) (hcs : ¬ cs = 0) :
    MetFree l (⟨"java/lang/String", "coder", "()B"⟩ : MethodName) (head1 (Jvm.Cond.code (⟨"java/lang/String", "coder", "()B"⟩ : MethodName) jdk_42_method_152_code 1 (some .byte) :: ws) ({ frames := 0, cells := 0, slots := 0, locals := 0 } : Room)) (fun aa_ U_ => aa_ = #[(.ref a)] ∧ Z.Warmed39 U_.vm ∧ U_.heap = h0) (fun _ _ _ _ _ => True) (fun _ U_ o_ U'_ => ∃ v_ L_, o_ = .returned v_ ∧ Q_coder Z a cs h0 n0 v_ U'_.heap L_ ∧ FrameEnd U_ o_ U'_ L_ ({ frames := 0, cells := 0, slots := 0, locals := 0 } : Room).cells ({ frames := 0, cells := 0, slots := 0, locals := 0 } : Room).slots) := by
  refine MetFree.of_bodySF (plainFor_of_name pn_2) hisR ?_
  intro pP eE sS mM argsA below meth cC s₁ Bd hml0 hP hK
  obtain ⟨rfl, hZ, hh⟩ := hP
  have hx := Bd.exec
  have hby := Bd.bytes
  have hml : cC.maxLocals = 1 := hml0
  have hown : sS.vm.findClass "java/lang/String" = some mM.cls := findClass_of_methodNamed Bd.named
  have hnm := (name_of_methodNamed Bd.named Bd.method).1
  have X0 : Stand pP l eE ({ frames := 0, cells := 0, slots := 0, locals := 0 } : Room) sS mM #[(.ref a)] below meth cC s₁ [] 0 0 := Stand.of_body Bd
  have e0 : s₁.heap = h0 := by rw [← hh, Bd.state]; rfl
  have N0 := Fr.nil n0
  have pre0 : ∀ t_, Steps pP.tables eE below (s₁.setTop (mkF mM 0 #[.val (.ref a)] [])) t_ → Steps pP.tables eE below (s₁.setTop (entryFrame mM #[(.ref a)] 1)) t_ := fun t_ k_ => castTop (ef_coder mM a) k_
  obtain ⟨T_1, X_1, e_1, st_1⟩ := getS2 X0 hx hZ hown (host := "") (Or.inl (ow hw 26 rfl)) Via.refl e0 S_String_COMPACT_STRINGS (g := (mkF mM 0 #[.val (.ref a)] [])) rfl (hb hby d_jdk_42m152_0)
  obtain ⟨T_2, X_2, e_2, st_2⟩ := getF X_1 hx hZ hown (host := "") (Or.inl (ow hw 46 rfl)) Via.refl e_1 F_coder_a (g := (mkF mM 7 #[.val (.ref a)] [(.ref a)])) rfl rfl (hb hby d_jdk_42m152_7)
  obtain ⟨fs, hr, hrun, hended, hW, hsame⟩ := X_2.leave (v := some (.int (0 : Int32))) (fun h => by rw [Bd.returns] at h; cases h)
  refine ⟨_, _, pre0 _ ?_, hrun, hended, _, _, rfl, ?_, ⟨_, rfl⟩, hW, hsame.mono (by decide) (by decide)⟩
  · show oS pP eE below s₁ (mkF mM 0 #[.val (.ref a)] []) _
    refine st_1 _ ?_
    show oS pP eE below T_1 (mkF mM 3 #[.val (.ref a)] [(.int cs)]) _
    refine XS.ifNo X_1.here hx rfl (hb hby d_jdk_42m152_3) rfl (XT.i0_eq_f hcs) ?_
    refine XS.aloadN X_1.here hx rfl (hb hby d_jdk_42m152_6) rfl rfl ?_
    show oS pP eE below T_1 (mkF mM 7 #[.val (.ref a)] [(.ref a)]) _
    refine st_2 _ ?_
    show oS pP eE below T_2 (mkF mM 10 #[.val (.ref a)] [(.int (0 : Int32))]) _
    refine XS.goto X_2.here hx rfl (pc0 := 10) (pc' := 14) rfl (hb hby d_jdk_42m152_10) (by decide) (by decide) ?_
    show oS pP eE below T_2 (mkF mM 14 #[.val (.ref a)] [(.int (0 : Int32))]) _
    exact retN X_2 hx (t := .byte) Bd.returns (by simp) (hb hby d_jdk_42m152_14) hr
  · show Q_coder Z a cs h0 n0 _ T_2.heap _
    rw [e_2]
    exact ⟨rfl, N0, rfl⟩
theorem d_jdk_42m54_0 : decode jdk_42_method_54_code 0 = .ok (.aload_n 0, 1) := by decide +kernel
theorem d_jdk_42m54_1 : decode jdk_42_method_54_code 1 = .ok (.getfield 9, 3) := by decide +kernel
theorem d_jdk_42m54_4 : decode jdk_42_method_54_code 4 = .ok (.arraylength, 1) := by decide +kernel
theorem d_jdk_42m54_5 : decode jdk_42_method_54_code 5 = .ok (.aload_n 0, 1) := by decide +kernel
theorem d_jdk_42m54_6 : decode jdk_42_method_54_code 6 = .ok (.invokevirtual 335, 3) := by decide +kernel
theorem pd_3 : parseMethodDescriptor "()B" = some ⟨[], some .byte⟩ := by decide +kernel
abbrev MN3 : MethodName := ⟨"java/lang/String", "coder", "()B"⟩
theorem d_jdk_42m54_9 : decode jdk_42_method_54_code 9 = .ok (.ishr, 1) := by decide +kernel
theorem d_jdk_42m54_10 : decode jdk_42_method_54_code 10 = .ok (.ireturn, 1) := by decide +kernel
theorem ef_len41 (mM : MethodId) (x0 : Addr) : entryFrame mM #[(.ref x0)] 1 = mkF mM 0 #[.val (.ref x0)] [] := by first | (simp [entryFrame, mkF, argsToLocals, Value.category]; done) | rfl
def Q_len41 (Z : State) (a : Addr) (d : Addr) (k : ClassId) (cs : Int32) (h0 : Heap) (n0 : Nat) (v_ : Option Value) (h_ : Heap) (L_ : List Loc) : Prop := v_ = some (.int (41 : Int32)) ∧ Fr n0 L_ ∧ h_ = h0
set_option maxRecDepth 65536 in
set_option maxHeartbeats 40000000 in
theorem rm_len41 (l : Launch) (Z : State) (a0 : Array Value) (hw : ∀ d ∈ tables_1, d.before a0 Z = true) (ws : List Jvm.Cond) (a : Addr) (d : Addr) (k : ClassId) (cs : Int32) (h0 : Heap) (n0 : Nat) (Z0 : n0 ≤ h0.size) (F_value_a : Fld Z h0 a "java/lang/String" "value" "[B" (.ref d)) (F_coder_a : Fld Z h0 a "java/lang/String" "coder" "B" (.int (0 : Int32))) (E_a : Exa Z h0 a "java/lang/String") (V_d : Arv Z h0 d k .byte (41 : Int32) [(.int (83 : Int32)), (.int (69 : Int32)), (.int (84 : Int32)), (.int (32 : Int32)), (.int (83 : Int32)), (.int (84 : Int32)), (.int (65 : Int32)), (.int (84 : Int32)), (.int (69 : Int32)), (.int (77 : Int32)), (.int (69 : Int32)), (.int (78 : Int32)), (.int (84 : Int32)), (.int (32 : Int32)), (.int (102 : Int32)), (.int (111 : Int32)), (.int (114 : Int32)), (.int (101 : Int32)), (.int (105 : Int32)), (.int (103 : Int32)), (.int (110 : Int32)), (.int (95 : Int32)), (.int (107 : Int32)), (.int (101 : Int32)), (.int (121 : Int32)), (.int (95 : Int32)), (.int (99 : Int32)), (.int (104 : Int32)), (.int (101 : Int32)), (.int (99 : Int32)), (.int (107 : Int32)), (.int (115 : Int32)), (.int (32 : Int32)), (.int (61 : Int32)), (.int (32 : Int32)), (.int (48 : Int32)), (.int (32 : Int32)), (.int (70 : Int32)), (.int (79 : Int32)), (.int (82 : Int32)), (.int (32 : Int32))] (.int (0 : Int32))) (S_String_COMPACT_STRINGS : Sta Z h0 "java/lang/String" "COMPACT_STRINGS" "Z" (.int cs)) (hcs : ¬ cs = 0) :
    MetFree l (⟨"java/lang/String", "length", "()I"⟩ : MethodName) (head1 (Jvm.Cond.code (⟨"java/lang/String", "length", "()I"⟩ : MethodName) jdk_42_method_54_code 1 (some .int) :: ws) ({ frames := 1, cells := 0, slots := 0, locals := 13 } : Room)) (fun aa_ U_ => aa_ = #[(.ref a)] ∧ Z.Warmed39 U_.vm ∧ U_.heap = h0) (fun _ _ _ _ _ => True) (fun _ U_ o_ U'_ => ∃ v_ L_, o_ = .returned v_ ∧ Q_len41 Z a d k cs h0 n0 v_ U'_.heap L_ ∧ FrameEnd U_ o_ U'_ L_ ({ frames := 1, cells := 0, slots := 0, locals := 13 } : Room).cells ({ frames := 1, cells := 0, slots := 0, locals := 13 } : Room).slots) := by
  refine MetFree.of_bodySF (plainFor_of_name pn_2) hisR ?_
  intro pP eE sS mM argsA below meth cC s₁ Bd hml0 hP hK
  obtain ⟨rfl, hZ, hh⟩ := hP
  have hx := Bd.exec
  have hby := Bd.bytes
  have hml : cC.maxLocals = 1 := hml0
  have hown : sS.vm.findClass "java/lang/String" = some mM.cls := findClass_of_methodNamed Bd.named
  have hnm := (name_of_methodNamed Bd.named Bd.method).1
  have X0 : Stand pP l eE ({ frames := 1, cells := 0, slots := 0, locals := 13 } : Room) sS mM #[(.ref a)] below meth cC s₁ [] 0 0 := Stand.of_body Bd
  have e0 : s₁.heap = h0 := by rw [← hh, Bd.state]; rfl
  have N0 := Fr.nil n0
  have pre0 : ∀ t_, Steps pP.tables eE below (s₁.setTop (mkF mM 0 #[.val (.ref a)] [])) t_ → Steps pP.tables eE below (s₁.setTop (entryFrame mM #[(.ref a)] 1)) t_ := fun t_ k_ => castTop (ef_len41 mM a) k_
  obtain ⟨T_1, X_1, e_1, st_1⟩ := getF X0 hx hZ hown (host := "") (Or.inl (ow hw 44 rfl)) Via.refl e0 F_value_a (g := (mkF mM 1 #[.val (.ref a)] [(.ref a)])) rfl rfl (hb hby d_jdk_42m54_1)
  obtain ⟨cl_2, Ar_2, -, Sa_2, Na_2, -, -⟩ := id V_d
  obtain ⟨cq_3, kq_3, q_3a, q_3b, q_3c⟩ := isOf hZ e_1 E_a
  obtain ⟨_, _, ⟨T_3, L_3, k_3, n_3⟩, -, X_3, ⟨Lc_3, hQ_3, l_3, y_3, z_3⟩, st_3⟩ := X_1.virtualBack hx (y := MN3) (z := MN3) hown (mvT hZ (ow hw 86 rfl)) (mvT hZ (ow hw 87 rfl)) (notFace_of_selects (args := #[]) (mvT hZ (ow hw 89 rfl))) (mvT hZ (ow hw 89 rfl)) (mvT hZ (ow hw 88 rfl)) (by decide) (backOf (W := 1) (rm_coder l Z a0 hw [] a cs h0 n0 Z0 F_coder_a S_String_COMPACT_STRINGS hcs) hZ (ow hw 90 rfl) (ow hw 24 rfl) (by decide) (by decide)) q_3a q_3c (g := (mkF mM 6 #[.val (.ref a)] [(.ref a), (.int (41 : Int32))])) rfl (by rw [hml]; rfl) (Steps.refl _) (argsL := []) (rest := [(.int (41 : Int32))]) (lenOf pd_3 rfl) rfl (by show 2 * 0 + _ ≤ _; exact Nat.le_of_eq rfl) (hb hby d_jdk_42m54_6) (fun _ _ => ⟨rfl, e_1, (by decide : 0 + 0 ≤ _), (by decide : 0 + 0 ≤ _)⟩)
  dsimp only [Pt.U, Pt.locs, Pt.cells, Pt.slots] at X_3 l_3 y_3 z_3 st_3 hQ_3
  subst l_3 y_3 z_3
  obtain ⟨rfl, N_3q, eh_3⟩ := hQ_3
  have N_3 := Fr.app N0 N_3q
  obtain ⟨fs, hr, hrun, hended, hW, hsame⟩ := X_3.leave (v := some (.int (41 : Int32))) (fun h => by rw [Bd.returns] at h; cases h)
  refine ⟨_, _, pre0 _ ?_, hrun, hended, _, _, rfl, ?_, ⟨_, rfl⟩, hW, hsame.mono (by decide) (by decide)⟩
  · show oS pP eE below s₁ (mkF mM 0 #[.val (.ref a)] []) _
    refine XS.aloadN X0.here hx rfl (hb hby d_jdk_42m54_0) rfl rfl ?_
    show oS pP eE below s₁ (mkF mM 1 #[.val (.ref a)] [(.ref a)]) _
    refine st_1 _ ?_
    show oS pP eE below T_1 (mkF mM 4 #[.val (.ref a)] [(.ref d)]) _
    refine X_1.arraylength hx (by rw [e_1]; exact Ar_2.1) (State.isArrayOf_alike hZ.alike Ar_2.2.1) (g := (mkF mM 4 #[.val (.ref a)] [(.ref d)])) rfl rfl (hb hby d_jdk_42m54_4) _ ?_
    rw [len_of Sa_2 Na_2]
    refine XS.aloadN X_1.here hx rfl (hb hby d_jdk_42m54_5) rfl rfl ?_
    show oS pP eE below T_1 (mkF mM 6 #[.val (.ref a)] [(.ref a), (.int (41 : Int32))]) _
    refine st_3.trans ?_
    show oS pP eE below T_3 (mkF mM 9 #[.val (.ref a)] [(.int (0 : Int32)), (.int (41 : Int32))]) _
    refine XT.ishr X_3.here hx rfl (hb hby d_jdk_42m54_9) rfl ?_
    show oS pP eE below T_3 (mkF mM 10 #[.val (.ref a)] [(.int ((41 : Int32) >>> ((0 : Int32) &&& 31)))]) _
    rw [(by decide : ((41 : Int32) >>> ((0 : Int32) &&& 31)) = (41 : Int32))]
    show oS pP eE below T_3 (mkF mM 10 #[.val (.ref a)] [(.int (41 : Int32))]) _
    exact retI X_3 hx Bd.returns (hb hby d_jdk_42m54_10) hr
  · show Q_len41 Z a d k cs h0 n0 _ T_3.heap _
    rw [eh_3]
    exact ⟨rfl, N_3, rfl⟩
theorem ef_len1 (mM : MethodId) (x0 : Addr) : entryFrame mM #[(.ref x0)] 1 = mkF mM 0 #[.val (.ref x0)] [] := by first | (simp [entryFrame, mkF, argsToLocals, Value.category]; done) | rfl
def Q_len1 (Z : State) (a : Addr) (d : Addr) (k : ClassId) (cs : Int32) (x0 : Int32) (h0 : Heap) (n0 : Nat) (v_ : Option Value) (h_ : Heap) (L_ : List Loc) : Prop := v_ = some (.int (1 : Int32)) ∧ Fr n0 L_ ∧ h_ = h0
set_option maxRecDepth 65536 in
set_option maxHeartbeats 40000000 in
theorem rm_len1 (l : Launch) (Z : State) (a0 : Array Value) (hw : ∀ d ∈ tables_1, d.before a0 Z = true) (ws : List Jvm.Cond) (a : Addr) (d : Addr) (k : ClassId) (cs : Int32) (x0 : Int32) (h0 : Heap) (n0 : Nat) (Z0 : n0 ≤ h0.size) (F_value_a : Fld Z h0 a "java/lang/String" "value" "[B" (.ref d)) (F_coder_a : Fld Z h0 a "java/lang/String" "coder" "B" (.int (0 : Int32))) (E_a : Exa Z h0 a "java/lang/String") (V_d : Arv Z h0 d k .byte (1 : Int32) [(.int x0)] (.int (0 : Int32))) (S_String_COMPACT_STRINGS : Sta Z h0 "java/lang/String" "COMPACT_STRINGS" "Z" (.int cs)) (hcs : ¬ cs = 0) :
    MetFree l (⟨"java/lang/String", "length", "()I"⟩ : MethodName) (head1 (Jvm.Cond.code (⟨"java/lang/String", "length", "()I"⟩ : MethodName) jdk_42_method_54_code 1 (some .int) :: ws) ({ frames := 1, cells := 0, slots := 0, locals := 13 } : Room)) (fun aa_ U_ => aa_ = #[(.ref a)] ∧ Z.Warmed39 U_.vm ∧ U_.heap = h0) (fun _ _ _ _ _ => True) (fun _ U_ o_ U'_ => ∃ v_ L_, o_ = .returned v_ ∧ Q_len1 Z a d k cs x0 h0 n0 v_ U'_.heap L_ ∧ FrameEnd U_ o_ U'_ L_ ({ frames := 1, cells := 0, slots := 0, locals := 13 } : Room).cells ({ frames := 1, cells := 0, slots := 0, locals := 13 } : Room).slots) := by
  refine MetFree.of_bodySF (plainFor_of_name pn_2) hisR ?_
  intro pP eE sS mM argsA below meth cC s₁ Bd hml0 hP hK
  obtain ⟨rfl, hZ, hh⟩ := hP
  have hx := Bd.exec
  have hby := Bd.bytes
  have hml : cC.maxLocals = 1 := hml0
  have hown : sS.vm.findClass "java/lang/String" = some mM.cls := findClass_of_methodNamed Bd.named
  have hnm := (name_of_methodNamed Bd.named Bd.method).1
  have X0 : Stand pP l eE ({ frames := 1, cells := 0, slots := 0, locals := 13 } : Room) sS mM #[(.ref a)] below meth cC s₁ [] 0 0 := Stand.of_body Bd
  have e0 : s₁.heap = h0 := by rw [← hh, Bd.state]; rfl
  have N0 := Fr.nil n0
  have pre0 : ∀ t_, Steps pP.tables eE below (s₁.setTop (mkF mM 0 #[.val (.ref a)] [])) t_ → Steps pP.tables eE below (s₁.setTop (entryFrame mM #[(.ref a)] 1)) t_ := fun t_ k_ => castTop (ef_len1 mM a) k_
  obtain ⟨T_1, X_1, e_1, st_1⟩ := getF X0 hx hZ hown (host := "") (Or.inl (ow hw 44 rfl)) Via.refl e0 F_value_a (g := (mkF mM 1 #[.val (.ref a)] [(.ref a)])) rfl rfl (hb hby d_jdk_42m54_1)
  obtain ⟨cl_2, Ar_2, -, Sa_2, Na_2, -, -⟩ := id V_d
  obtain ⟨cq_3, kq_3, q_3a, q_3b, q_3c⟩ := isOf hZ e_1 E_a
  obtain ⟨_, _, ⟨T_3, L_3, k_3, n_3⟩, -, X_3, ⟨Lc_3, hQ_3, l_3, y_3, z_3⟩, st_3⟩ := X_1.virtualBack hx (y := MN3) (z := MN3) hown (mvT hZ (ow hw 86 rfl)) (mvT hZ (ow hw 87 rfl)) (notFace_of_selects (args := #[]) (mvT hZ (ow hw 89 rfl))) (mvT hZ (ow hw 89 rfl)) (mvT hZ (ow hw 88 rfl)) (by decide) (backOf (W := 1) (rm_coder l Z a0 hw [] a cs h0 n0 Z0 F_coder_a S_String_COMPACT_STRINGS hcs) hZ (ow hw 90 rfl) (ow hw 24 rfl) (by decide) (by decide)) q_3a q_3c (g := (mkF mM 6 #[.val (.ref a)] [(.ref a), (.int (1 : Int32))])) rfl (by rw [hml]; rfl) (Steps.refl _) (argsL := []) (rest := [(.int (1 : Int32))]) (lenOf pd_3 rfl) rfl (by show 2 * 0 + _ ≤ _; exact Nat.le_of_eq rfl) (hb hby d_jdk_42m54_6) (fun _ _ => ⟨rfl, e_1, (by decide : 0 + 0 ≤ _), (by decide : 0 + 0 ≤ _)⟩)
  dsimp only [Pt.U, Pt.locs, Pt.cells, Pt.slots] at X_3 l_3 y_3 z_3 st_3 hQ_3
  subst l_3 y_3 z_3
  obtain ⟨rfl, N_3q, eh_3⟩ := hQ_3
  have N_3 := Fr.app N0 N_3q
  obtain ⟨fs, hr, hrun, hended, hW, hsame⟩ := X_3.leave (v := some (.int (1 : Int32))) (fun h => by rw [Bd.returns] at h; cases h)
  refine ⟨_, _, pre0 _ ?_, hrun, hended, _, _, rfl, ?_, ⟨_, rfl⟩, hW, hsame.mono (by decide) (by decide)⟩
  · show oS pP eE below s₁ (mkF mM 0 #[.val (.ref a)] []) _
    refine XS.aloadN X0.here hx rfl (hb hby d_jdk_42m54_0) rfl rfl ?_
    show oS pP eE below s₁ (mkF mM 1 #[.val (.ref a)] [(.ref a)]) _
    refine st_1 _ ?_
    show oS pP eE below T_1 (mkF mM 4 #[.val (.ref a)] [(.ref d)]) _
    refine X_1.arraylength hx (by rw [e_1]; exact Ar_2.1) (State.isArrayOf_alike hZ.alike Ar_2.2.1) (g := (mkF mM 4 #[.val (.ref a)] [(.ref d)])) rfl rfl (hb hby d_jdk_42m54_4) _ ?_
    rw [len_of Sa_2 Na_2]
    refine XS.aloadN X_1.here hx rfl (hb hby d_jdk_42m54_5) rfl rfl ?_
    show oS pP eE below T_1 (mkF mM 6 #[.val (.ref a)] [(.ref a), (.int (1 : Int32))]) _
    refine st_3.trans ?_
    show oS pP eE below T_3 (mkF mM 9 #[.val (.ref a)] [(.int (0 : Int32)), (.int (1 : Int32))]) _
    refine XT.ishr X_3.here hx rfl (hb hby d_jdk_42m54_9) rfl ?_
    show oS pP eE below T_3 (mkF mM 10 #[.val (.ref a)] [(.int ((1 : Int32) >>> ((0 : Int32) &&& 31)))]) _
    rw [(by decide : ((1 : Int32) >>> ((0 : Int32) &&& 31)) = (1 : Int32))]
    show oS pP eE below T_3 (mkF mM 10 #[.val (.ref a)] [(.int (1 : Int32))]) _
    exact retI X_3 hx Bd.returns (hb hby d_jdk_42m54_10) hr
  · show Q_len1 Z a d k cs x0 h0 n0 _ T_3.heap _
    rw [eh_3]
    exact ⟨rfl, N_3, rfl⟩
theorem ef_len42 (mM : MethodId) (x0 : Addr) : entryFrame mM #[(.ref x0)] 1 = mkF mM 0 #[.val (.ref x0)] [] := by first | (simp [entryFrame, mkF, argsToLocals, Value.category]; done) | rfl
def Q_len42 (Z : State) (a : Addr) (d : Addr) (k : ClassId) (cs : Int32) (x0 : Int32) (h0 : Heap) (n0 : Nat) (v_ : Option Value) (h_ : Heap) (L_ : List Loc) : Prop := v_ = some (.int (42 : Int32)) ∧ Fr n0 L_ ∧ h_ = h0
set_option maxRecDepth 65536 in
set_option maxHeartbeats 40000000 in
theorem rm_len42 (l : Launch) (Z : State) (a0 : Array Value) (hw : ∀ d ∈ tables_1, d.before a0 Z = true) (ws : List Jvm.Cond) (a : Addr) (d : Addr) (k : ClassId) (cs : Int32) (x0 : Int32) (h0 : Heap) (n0 : Nat) (Z0 : n0 ≤ h0.size) (F_value_a : Fld Z h0 a "java/lang/String" "value" "[B" (.ref d)) (F_coder_a : Fld Z h0 a "java/lang/String" "coder" "B" (.int (0 : Int32))) (E_a : Exa Z h0 a "java/lang/String") (V_d : Arv Z h0 d k .byte (42 : Int32) [(.int (83 : Int32)), (.int (69 : Int32)), (.int (84 : Int32)), (.int (32 : Int32)), (.int (83 : Int32)), (.int (84 : Int32)), (.int (65 : Int32)), (.int (84 : Int32)), (.int (69 : Int32)), (.int (77 : Int32)), (.int (69 : Int32)), (.int (78 : Int32)), (.int (84 : Int32)), (.int (32 : Int32)), (.int (102 : Int32)), (.int (111 : Int32)), (.int (114 : Int32)), (.int (101 : Int32)), (.int (105 : Int32)), (.int (103 : Int32)), (.int (110 : Int32)), (.int (95 : Int32)), (.int (107 : Int32)), (.int (101 : Int32)), (.int (121 : Int32)), (.int (95 : Int32)), (.int (99 : Int32)), (.int (104 : Int32)), (.int (101 : Int32)), (.int (99 : Int32)), (.int (107 : Int32)), (.int (115 : Int32)), (.int (32 : Int32)), (.int (61 : Int32)), (.int (32 : Int32)), (.int (48 : Int32)), (.int (32 : Int32)), (.int (70 : Int32)), (.int (79 : Int32)), (.int (82 : Int32)), (.int (32 : Int32)), (.int x0)] (.int (0 : Int32))) (S_String_COMPACT_STRINGS : Sta Z h0 "java/lang/String" "COMPACT_STRINGS" "Z" (.int cs)) (hcs : ¬ cs = 0) :
    MetFree l (⟨"java/lang/String", "length", "()I"⟩ : MethodName) (head1 (Jvm.Cond.code (⟨"java/lang/String", "length", "()I"⟩ : MethodName) jdk_42_method_54_code 1 (some .int) :: ws) ({ frames := 1, cells := 0, slots := 0, locals := 13 } : Room)) (fun aa_ U_ => aa_ = #[(.ref a)] ∧ Z.Warmed39 U_.vm ∧ U_.heap = h0) (fun _ _ _ _ _ => True) (fun _ U_ o_ U'_ => ∃ v_ L_, o_ = .returned v_ ∧ Q_len42 Z a d k cs x0 h0 n0 v_ U'_.heap L_ ∧ FrameEnd U_ o_ U'_ L_ ({ frames := 1, cells := 0, slots := 0, locals := 13 } : Room).cells ({ frames := 1, cells := 0, slots := 0, locals := 13 } : Room).slots) := by
  refine MetFree.of_bodySF (plainFor_of_name pn_2) hisR ?_
  intro pP eE sS mM argsA below meth cC s₁ Bd hml0 hP hK
  obtain ⟨rfl, hZ, hh⟩ := hP
  have hx := Bd.exec
  have hby := Bd.bytes
  have hml : cC.maxLocals = 1 := hml0
  have hown : sS.vm.findClass "java/lang/String" = some mM.cls := findClass_of_methodNamed Bd.named
  have hnm := (name_of_methodNamed Bd.named Bd.method).1
  have X0 : Stand pP l eE ({ frames := 1, cells := 0, slots := 0, locals := 13 } : Room) sS mM #[(.ref a)] below meth cC s₁ [] 0 0 := Stand.of_body Bd
  have e0 : s₁.heap = h0 := by rw [← hh, Bd.state]; rfl
  have N0 := Fr.nil n0
  have pre0 : ∀ t_, Steps pP.tables eE below (s₁.setTop (mkF mM 0 #[.val (.ref a)] [])) t_ → Steps pP.tables eE below (s₁.setTop (entryFrame mM #[(.ref a)] 1)) t_ := fun t_ k_ => castTop (ef_len42 mM a) k_
  obtain ⟨T_1, X_1, e_1, st_1⟩ := getF X0 hx hZ hown (host := "") (Or.inl (ow hw 44 rfl)) Via.refl e0 F_value_a (g := (mkF mM 1 #[.val (.ref a)] [(.ref a)])) rfl rfl (hb hby d_jdk_42m54_1)
  obtain ⟨cl_2, Ar_2, -, Sa_2, Na_2, -, -⟩ := id V_d
  obtain ⟨cq_3, kq_3, q_3a, q_3b, q_3c⟩ := isOf hZ e_1 E_a
  obtain ⟨_, _, ⟨T_3, L_3, k_3, n_3⟩, -, X_3, ⟨Lc_3, hQ_3, l_3, y_3, z_3⟩, st_3⟩ := X_1.virtualBack hx (y := MN3) (z := MN3) hown (mvT hZ (ow hw 86 rfl)) (mvT hZ (ow hw 87 rfl)) (notFace_of_selects (args := #[]) (mvT hZ (ow hw 89 rfl))) (mvT hZ (ow hw 89 rfl)) (mvT hZ (ow hw 88 rfl)) (by decide) (backOf (W := 1) (rm_coder l Z a0 hw [] a cs h0 n0 Z0 F_coder_a S_String_COMPACT_STRINGS hcs) hZ (ow hw 90 rfl) (ow hw 24 rfl) (by decide) (by decide)) q_3a q_3c (g := (mkF mM 6 #[.val (.ref a)] [(.ref a), (.int (42 : Int32))])) rfl (by rw [hml]; rfl) (Steps.refl _) (argsL := []) (rest := [(.int (42 : Int32))]) (lenOf pd_3 rfl) rfl (by show 2 * 0 + _ ≤ _; exact Nat.le_of_eq rfl) (hb hby d_jdk_42m54_6) (fun _ _ => ⟨rfl, e_1, (by decide : 0 + 0 ≤ _), (by decide : 0 + 0 ≤ _)⟩)
  dsimp only [Pt.U, Pt.locs, Pt.cells, Pt.slots] at X_3 l_3 y_3 z_3 st_3 hQ_3
  subst l_3 y_3 z_3
  obtain ⟨rfl, N_3q, eh_3⟩ := hQ_3
  have N_3 := Fr.app N0 N_3q
  obtain ⟨fs, hr, hrun, hended, hW, hsame⟩ := X_3.leave (v := some (.int (42 : Int32))) (fun h => by rw [Bd.returns] at h; cases h)
  refine ⟨_, _, pre0 _ ?_, hrun, hended, _, _, rfl, ?_, ⟨_, rfl⟩, hW, hsame.mono (by decide) (by decide)⟩
  · show oS pP eE below s₁ (mkF mM 0 #[.val (.ref a)] []) _
    refine XS.aloadN X0.here hx rfl (hb hby d_jdk_42m54_0) rfl rfl ?_
    show oS pP eE below s₁ (mkF mM 1 #[.val (.ref a)] [(.ref a)]) _
    refine st_1 _ ?_
    show oS pP eE below T_1 (mkF mM 4 #[.val (.ref a)] [(.ref d)]) _
    refine X_1.arraylength hx (by rw [e_1]; exact Ar_2.1) (State.isArrayOf_alike hZ.alike Ar_2.2.1) (g := (mkF mM 4 #[.val (.ref a)] [(.ref d)])) rfl rfl (hb hby d_jdk_42m54_4) _ ?_
    rw [len_of Sa_2 Na_2]
    refine XS.aloadN X_1.here hx rfl (hb hby d_jdk_42m54_5) rfl rfl ?_
    show oS pP eE below T_1 (mkF mM 6 #[.val (.ref a)] [(.ref a), (.int (42 : Int32))]) _
    refine st_3.trans ?_
    show oS pP eE below T_3 (mkF mM 9 #[.val (.ref a)] [(.int (0 : Int32)), (.int (42 : Int32))]) _
    refine XT.ishr X_3.here hx rfl (hb hby d_jdk_42m54_9) rfl ?_
    show oS pP eE below T_3 (mkF mM 10 #[.val (.ref a)] [(.int ((42 : Int32) >>> ((0 : Int32) &&& 31)))]) _
    rw [(by decide : ((42 : Int32) >>> ((0 : Int32) &&& 31)) = (42 : Int32))]
    show oS pP eE below T_3 (mkF mM 10 #[.val (.ref a)] [(.int (42 : Int32))]) _
    exact retI X_3 hx Bd.returns (hb hby d_jdk_42m54_10) hr
  · show Q_len42 Z a d k cs x0 h0 n0 _ T_3.heap _
    rw [eh_3]
    exact ⟨rfl, N_3, rfl⟩
theorem d_jdk_68m2_0 : decode jdk_68_method_2_code 0 = .ok (.aload_n 0, 1) := by decide +kernel
theorem d_jdk_68m2_1 : decode jdk_68_method_2_code 1 = .ok (.invokespecial 3, 3) := by decide +kernel
theorem d_jdk_68m2_4 : decode jdk_68_method_2_code 4 = .ok (.getstatic 18, 3) := by decide +kernel
theorem d_jdk_68m2_7 : decode jdk_68_method_2_code 7 = .ok (.ifCond .eq 18, 3) := by decide +kernel
theorem d_jdk_68m2_10 : decode jdk_68_method_2_code 10 = .ok (.aload_n 0, 1) := by decide +kernel
theorem d_jdk_68m2_11 : decode jdk_68_method_2_code 11 = .ok (.iload_n 1, 1) := by decide +kernel
theorem d_jdk_68m2_12 : decode jdk_68_method_2_code 12 = .ok (.newarray .byte, 2) := by decide +kernel
theorem d_jdk_68m2_14 : decode jdk_68_method_2_code 14 = .ok (.putfield 15, 3) := by decide +kernel
theorem d_jdk_68m2_17 : decode jdk_68_method_2_code 17 = .ok (.aload_n 0, 1) := by decide +kernel
theorem d_jdk_68m2_18 : decode jdk_68_method_2_code 18 = .ok (.iconst 0, 1) := by decide +kernel
theorem d_jdk_68m2_19 : decode jdk_68_method_2_code 19 = .ok (.putfield 22, 3) := by decide +kernel
theorem d_jdk_68m2_22 : decode jdk_68_method_2_code 22 = .ok (.goto 16, 3) := by decide +kernel
theorem d_jdk_68m2_38 : decode jdk_68_method_2_code 38 = .ok (.return_, 1) := by decide +kernel
theorem pn_3 : plainName "java/lang/AbstractStringBuilder" = true := by first | (simp [plainName, overriddenIn]; done) | decide +kernel
theorem ef_asbi (mM : MethodId) (x0 : Addr) (x1 : Int32) : entryFrame mM #[(.ref x0), (.int x1)] 2 = mkF mM 0 #[.val (.ref x0), .val (.int x1)] [] := by first | (simp [entryFrame, mkF, argsToLocals, Value.category]; done) | rfl
def Q_asbi (Z : State) (a : Addr) (cs : Int32) (h0 : Heap) (n0 : Nat) (v_ : Option Value) (h_ : Heap) (L_ : List Loc) : Prop := ∃ d : Addr, ∃ k : ClassId, v_ = none ∧ Fr n0 L_ ∧ Keep h0 h_ [a] ∧ h0.size ≤ d ∧ Fld Z h_ a "java/lang/AbstractStringBuilder" "value" "[B" (.ref d) ∧ Fld Z h_ a "java/lang/AbstractStringBuilder" "coder" "B" (.int (0 : Int32)) ∧ Fld Z h_ a "java/lang/AbstractStringBuilder" "count" "I" (.int (0 : Int32)) ∧ Exa Z h_ a "java/lang/StringBuilder" ∧ Arv Z h_ d k .byte (16 : Int32) [] (.int (0 : Int32))
set_option maxRecDepth 65536 in
set_option maxHeartbeats 40000000 in
theorem rm_asbi (l : Launch) (Z : State) (a0 : Array Value) (hw : ∀ d ∈ tables_1, d.before a0 Z = true) (ws : List Jvm.Cond) (a : Addr) (cs : Int32) (h0 : Heap) (n0 : Nat) (Z0 : n0 ≤ h0.size) (F_value_a : Fld Z h0 a "java/lang/AbstractStringBuilder" "value" "[B" .null) (F_coder_a : Fld Z h0 a "java/lang/AbstractStringBuilder" "coder" "B" (.int (0 : Int32))) (F_count_a : Fld Z h0 a "java/lang/AbstractStringBuilder" "count" "I" (.int (0 : Int32))) (E_a : Exa Z h0 a "java/lang/StringBuilder") (g_a : n0 ≤ a) (S_String_COMPACT_STRINGS : Sta Z h0 "java/lang/String" "COMPACT_STRINGS" "Z" (.int cs)) (hcs : ¬ cs = 0) :
    MetFree l (⟨"java/lang/AbstractStringBuilder", "<init>", "(I)V"⟩ : MethodName) (head1 (Jvm.Cond.code (⟨"java/lang/AbstractStringBuilder", "<init>", "(I)V"⟩ : MethodName) jdk_68_method_2_code 2 none :: ws) ({ frames := 1, cells := 1, slots := 16, locals := 12 } : Room)) (fun aa_ U_ => aa_ = #[(.ref a), (.int (16 : Int32))] ∧ Z.Warmed39 U_.vm ∧ U_.heap = h0) (fun _ _ _ _ _ => True) (fun _ U_ o_ U'_ => ∃ v_ L_, o_ = .returned v_ ∧ Q_asbi Z a cs h0 n0 v_ U'_.heap L_ ∧ FrameEnd U_ o_ U'_ L_ ({ frames := 1, cells := 1, slots := 16, locals := 12 } : Room).cells ({ frames := 1, cells := 1, slots := 16, locals := 12 } : Room).slots) := by
  refine MetFree.of_bodySF (plainFor_of_name pn_3) hisR ?_
  intro pP eE sS mM argsA below meth cC s₁ Bd hml0 hP hK
  obtain ⟨rfl, hZ, hh⟩ := hP
  have hx := Bd.exec
  have hby := Bd.bytes
  have hml : cC.maxLocals = 2 := hml0
  have hown : sS.vm.findClass "java/lang/AbstractStringBuilder" = some mM.cls := findClass_of_methodNamed Bd.named
  have hnm := (name_of_methodNamed Bd.named Bd.method).1
  have X0 : Stand pP l eE ({ frames := 1, cells := 1, slots := 16, locals := 12 } : Room) sS mM #[(.ref a), (.int (16 : Int32))] below meth cC s₁ [] 0 0 := Stand.of_body Bd
  have e0 : s₁.heap = h0 := by rw [← hh, Bd.state]; rfl
  have N0 := Fr.nil n0
  have pre0 : ∀ t_, Steps pP.tables eE below (s₁.setTop (mkF mM 0 #[.val (.ref a), .val (.int (16 : Int32))] [])) t_ → Steps pP.tables eE below (s₁.setTop (entryFrame mM #[(.ref a), (.int (16 : Int32))] 2)) t_ := fun t_ k_ => castTop (ef_asbi mM a (16 : Int32)) k_
  obtain ⟨T_1, X_1, e_1, st_1⟩ := initO X0 hx hZ hown (ow hw 65 rfl) (ow hw 42 rfl) (ow hw 43 rfl) e0 (g := (mkF mM 1 #[.val (.ref a), .val (.int (16 : Int32))] [(.ref a)])) rfl (by rw [hml]; rfl) rfl (hb hby d_jdk_68m2_1) (by decide) (W := 0) (by show 2 * 0 + _ ≤ _; exact Nat.le_of_eq rfl) (by decide)
  obtain ⟨T_2, X_2, e_2, st_2⟩ := getS2 X_1 hx hZ hown (host := "") (Or.inl (ow hw 66 rfl)) Via.refl e_1 S_String_COMPACT_STRINGS (g := (mkF mM 4 #[.val (.ref a), .val (.int (16 : Int32))] [])) rfl (hb hby d_jdk_68m2_4)
  obtain ⟨T_3, h_3, k_3, X_3, e_3, E_3, A_3, st_3⟩ := newP X_2 hx hZ (ow hw 36 rfl) e_2 (g := (mkF mM 12 #[.val (.ref a), .val (.int (16 : Int32))] [(.int (16 : Int32)), (.ref a)])) rfl (hb hby d_jdk_68m2_12) rfl (by decide) (cap := 16) (by decide) (by decide) (by decide) (by decide)
  obtain ⟨b_3, g_3⟩ : ∃ z, z = h0.size := ⟨_, rfl⟩
  rw [← g_3] at A_3 st_3
  have g_b_3 : n0 ≤ b_3 := Nat.le_trans Z0 (Nat.le_of_eq g_3.symm)
  have sz_b_3 : h0.size ≤ b_3 := Nat.le_trans (Keep.refl h0 [a]).1 (Nat.le_of_eq g_3.symm)
  have Z_3 : n0 ≤ h_3.size := (Nat.le_trans Z0 E_3.1)
  have K_3 : Keep h0 h_3 [a] := (Keep.refl h0 [a]).ext E_3
  have V_b_3 : Arv Z h_3 b_3 k_3 .byte (16 : Int32) [] (.int (0 : Int32)) := (Arv.new A_3 (by decide)).pad (pad_rep [] (.int (0 : Int32)) 0)
  obtain ⟨T_4, h_4, X_4, e_4, W_4, st_4⟩ := putF X_3 hx hZ hown (host := "") (Or.inl (ow hw 67 rfl)) Via.refl e_3 (F_value_a.ext E_3) (E_a.ext E_3) (Or.inl (ow hw 68 rfl)) (ow hw 54 rfl) (ty := (.array .byte)) (by decide) rfl rfl (g := (mkF mM 14 #[.val (.ref a), .val (.int (16 : Int32))] [(.ref b_3), (.ref a)])) rfl rfl (hb hby d_jdk_68m2_14)
  have Fw_4 := (F_value_a.ext E_3).same W_4
  have Z_4 : n0 ≤ h_4.size := (Nat.le_trans Z_3 (Keep.of_wr W_4).1)
  have K_4 : Keep h0 h_4 [a] := K_3.wr W_4 (Or.inl (List.mem_of_getElem? (i := 0) rfl))
  have N_4 := Fr.snoc X_4 N0 g_a
  obtain ⟨T_5, h_5, X_5, e_5, W_5, st_5⟩ := putFN X_4 hx hZ hown (ow hw 69 rfl) Via.refl e_4 ((F_coder_a.ext E_3).other W_4 (Or.inr (slot_ne (Or.inl (ow hw 70 rfl)) (Or.inl (ow hw 68 rfl)) (by decide) (t := .byte) (t' := (.array .byte)) (by decide) (by decide)))) ((E_a.ext E_3).wr W_4) (Or.inl (ow hw 70 rfl)) (ow hw 54 rfl) (ty := .byte) (v' := (.int (0 : Int32))) (by decide) rfl rfl (g := (mkF mM 19 #[.val (.ref a), .val (.int (16 : Int32))] [(.int (0 : Int32)), (.ref a)])) rfl rfl (hb hby d_jdk_68m2_19)
  have Fw_5 := ((F_coder_a.ext E_3).other W_4 (Or.inr (slot_ne (Or.inl (ow hw 70 rfl)) (Or.inl (ow hw 68 rfl)) (by decide) (t := .byte) (t' := (.array .byte)) (by decide) (by decide)))).same W_5
  have Z_5 : n0 ≤ h_5.size := (Nat.le_trans Z_4 (Keep.of_wr W_5).1)
  have K_5 : Keep h0 h_5 [a] := K_4.wr W_5 (Or.inl (List.mem_of_getElem? (i := 0) rfl))
  have N_5 := Fr.snoc X_5 N_4 g_a
  obtain ⟨fs, hr, hrun, hended, hW, hsame⟩ := X_5.leave (v := none) (fun _ => rfl)
  refine ⟨_, _, pre0 _ ?_, hrun, hended, _, _, rfl, ?_, ⟨_, rfl⟩, hW, hsame.mono (by decide) (by decide)⟩
  · show oS pP eE below s₁ (mkF mM 0 #[.val (.ref a), .val (.int (16 : Int32))] []) _
    refine XS.aloadN X0.here hx rfl (hb hby d_jdk_68m2_0) rfl rfl ?_
    show oS pP eE below s₁ (mkF mM 1 #[.val (.ref a), .val (.int (16 : Int32))] [(.ref a)]) _
    refine st_1 _ ?_
    show oS pP eE below T_1 (mkF mM 4 #[.val (.ref a), .val (.int (16 : Int32))] []) _
    refine st_2 _ ?_
    show oS pP eE below T_2 (mkF mM 7 #[.val (.ref a), .val (.int (16 : Int32))] [(.int cs)]) _
    refine XS.ifNo X_2.here hx rfl (hb hby d_jdk_68m2_7) rfl (XT.i0_eq_f hcs) ?_
    refine XS.aloadN X_2.here hx rfl (hb hby d_jdk_68m2_10) rfl rfl ?_
    refine XS.iloadN X_2.here hx rfl (hb hby d_jdk_68m2_11) rfl ?_
    show oS pP eE below T_2 (mkF mM 12 #[.val (.ref a), .val (.int (16 : Int32))] [(.int (16 : Int32)), (.ref a)]) _
    refine st_3 _ ?_
    show oS pP eE below T_3 (mkF mM 14 #[.val (.ref a), .val (.int (16 : Int32))] [(.ref b_3), (.ref a)]) _
    refine st_4 _ ?_
    show oS pP eE below T_4 (mkF mM 17 #[.val (.ref a), .val (.int (16 : Int32))] []) _
    refine XS.aloadN X_4.here hx rfl (hb hby d_jdk_68m2_17) rfl rfl ?_
    refine XS.iconst X_4.here hx rfl (hb hby d_jdk_68m2_18) ?_
    show oS pP eE below T_4 (mkF mM 19 #[.val (.ref a), .val (.int (16 : Int32))] [(.int (0 : Int32)), (.ref a)]) _
    refine st_5 _ ?_
    show oS pP eE below T_5 (mkF mM 22 #[.val (.ref a), .val (.int (16 : Int32))] []) _
    refine XS.goto X_5.here hx rfl (pc0 := 22) (pc' := 38) rfl (hb hby d_jdk_68m2_22) (by decide) (by decide) ?_
    show oS pP eE below T_5 (mkF mM 38 #[.val (.ref a), .val (.int (16 : Int32))] []) _
    exact X_5.returnOut hx Bd.returns (hb hby d_jdk_68m2_38) hr
  · show Q_asbi Z a cs h0 n0 _ T_5.heap _
    rw [e_5]
    exact ⟨b_3, k_3, rfl, N_5, K_5, sz_b_3, (Fw_4.other W_5 (Or.inr (slot_ne (Or.inl (ow hw 68 rfl)) (Or.inl (ow hw 70 rfl)) (by decide) (t := (.array .byte)) (t' := .byte) (by decide) (by decide)))), Fw_5, (((F_count_a.ext E_3).other W_4 (Or.inr (slot_ne (Or.inl (ow hw 92 rfl)) (Or.inl (ow hw 68 rfl)) (by decide) (t := .int) (t' := (.array .byte)) (by decide) (by decide)))).other W_5 (Or.inr (slot_ne (Or.inl (ow hw 92 rfl)) (Or.inl (ow hw 70 rfl)) (by decide) (t := .int) (t' := .byte) (by decide) (by decide)))), (((E_a.ext E_3).wr W_4).wr W_5), ((V_b_3.other W_4 (Ne.symm (Nat.ne_of_lt (Nat.lt_of_lt_of_le E_a.lt (Nat.le_of_eq g_3.symm))))).other W_5 (Ne.symm (Nat.ne_of_lt (Nat.lt_of_lt_of_le E_a.lt (Nat.le_of_eq g_3.symm)))))⟩
theorem d_jdk_67m1_0 : decode jdk_67_method_1_code 0 = .ok (.aload_n 0, 1) := by decide +kernel
theorem d_jdk_67m1_1 : decode jdk_67_method_1_code 1 = .ok (.bipush 16, 2) := by decide +kernel
theorem d_jdk_67m1_3 : decode jdk_67_method_1_code 3 = .ok (.invokespecial 1, 3) := by decide +kernel
theorem pd_4 : parseMethodDescriptor "(I)V" = some ⟨[.int], none⟩ := by decide +kernel
abbrev MN4 : MethodName := ⟨"java/lang/AbstractStringBuilder", "<init>", "(I)V"⟩
theorem d_jdk_67m1_6 : decode jdk_67_method_1_code 6 = .ok (.return_, 1) := by decide +kernel
theorem pn_4 : plainName "java/lang/StringBuilder" = true := by first | (simp [plainName, overriddenIn]; done) | decide +kernel
theorem ef_sbi (mM : MethodId) (x0 : Addr) : entryFrame mM #[(.ref x0)] 1 = mkF mM 0 #[.val (.ref x0)] [] := by first | (simp [entryFrame, mkF, argsToLocals, Value.category]; done) | rfl
def Q_sbi (Z : State) (a : Addr) (cs : Int32) (h0 : Heap) (n0 : Nat) (v_ : Option Value) (h_ : Heap) (L_ : List Loc) : Prop := ∃ d : Addr, ∃ k : ClassId, v_ = none ∧ Fr n0 L_ ∧ Keep h0 h_ [a] ∧ h0.size ≤ d ∧ Fld Z h_ a "java/lang/AbstractStringBuilder" "value" "[B" (.ref d) ∧ Fld Z h_ a "java/lang/AbstractStringBuilder" "coder" "B" (.int (0 : Int32)) ∧ Fld Z h_ a "java/lang/AbstractStringBuilder" "count" "I" (.int (0 : Int32)) ∧ Exa Z h_ a "java/lang/StringBuilder" ∧ Arv Z h_ d k .byte (16 : Int32) [] (.int (0 : Int32))
set_option maxRecDepth 65536 in
set_option maxHeartbeats 40000000 in
theorem rm_sbi (l : Launch) (Z : State) (a0 : Array Value) (hw : ∀ d ∈ tables_1, d.before a0 Z = true) (ws : List Jvm.Cond) (a : Addr) (cs : Int32) (h0 : Heap) (n0 : Nat) (Z0 : n0 ≤ h0.size) (F_value_a : Fld Z h0 a "java/lang/AbstractStringBuilder" "value" "[B" .null) (F_coder_a : Fld Z h0 a "java/lang/AbstractStringBuilder" "coder" "B" (.int (0 : Int32))) (F_count_a : Fld Z h0 a "java/lang/AbstractStringBuilder" "count" "I" (.int (0 : Int32))) (E_a : Exa Z h0 a "java/lang/StringBuilder") (g_a : n0 ≤ a) (S_String_COMPACT_STRINGS : Sta Z h0 "java/lang/String" "COMPACT_STRINGS" "Z" (.int cs)) (hcs : ¬ cs = 0) :
    MetFree l (⟨"java/lang/StringBuilder", "<init>", "()V"⟩ : MethodName) (head1 (Jvm.Cond.code (⟨"java/lang/StringBuilder", "<init>", "()V"⟩ : MethodName) jdk_67_method_1_code 1 none :: ws) ({ frames := 2, cells := 1, slots := 16, locals := 25 } : Room)) (fun aa_ U_ => aa_ = #[(.ref a)] ∧ Z.Warmed39 U_.vm ∧ U_.heap = h0) (fun _ _ _ _ _ => True) (fun _ U_ o_ U'_ => ∃ v_ L_, o_ = .returned v_ ∧ Q_sbi Z a cs h0 n0 v_ U'_.heap L_ ∧ FrameEnd U_ o_ U'_ L_ ({ frames := 2, cells := 1, slots := 16, locals := 25 } : Room).cells ({ frames := 2, cells := 1, slots := 16, locals := 25 } : Room).slots) := by
  refine MetFree.of_bodySF (plainFor_of_name pn_4) hisR ?_
  intro pP eE sS mM argsA below meth cC s₁ Bd hml0 hP hK
  obtain ⟨rfl, hZ, hh⟩ := hP
  have hx := Bd.exec
  have hby := Bd.bytes
  have hml : cC.maxLocals = 1 := hml0
  have hown : sS.vm.findClass "java/lang/StringBuilder" = some mM.cls := findClass_of_methodNamed Bd.named
  have hnm := (name_of_methodNamed Bd.named Bd.method).1
  have X0 : Stand pP l eE ({ frames := 2, cells := 1, slots := 16, locals := 25 } : Room) sS mM #[(.ref a)] below meth cC s₁ [] 0 0 := Stand.of_body Bd
  have e0 : s₁.heap = h0 := by rw [← hh, Bd.state]; rfl
  have N0 := Fr.nil n0
  have pre0 : ∀ t_, Steps pP.tables eE below (s₁.setTop (mkF mM 0 #[.val (.ref a)] [])) t_ → Steps pP.tables eE below (s₁.setTop (entryFrame mM #[(.ref a)] 1)) t_ := fun t_ k_ => castTop (ef_sbi mM a) k_
  obtain ⟨_, _, ⟨T_1, L_1, k_1, n_1⟩, -, X_1, ⟨Lc_1, hQ_1, l_1, y_1, z_1⟩, st_1⟩ := X0.specialBack hx (y := MN4) rfl hown (mvT hZ (ow hw 59 rfl)) (mvT hZ (ow hw 60 rfl)) (mvT hZ (ow hw 64 rfl)) (by decide) (backOf (W := 0) (rm_asbi l Z a0 hw [] a cs h0 n0 Z0 F_value_a F_coder_a F_count_a E_a g_a S_String_COMPACT_STRINGS hcs) hZ (ow hw 64 rfl) (ow hw 63 rfl) (by decide) (by decide)) (g := (mkF mM 3 #[.val (.ref a)] [(.int (16 : Int32)), (.ref a)])) rfl (by rw [hml]; rfl) (Steps.refl _) (a := a) (argsL := [(.int (16 : Int32))]) (rest := []) (lenOf pd_4 rfl) rfl (by show 2 * 0 + _ ≤ _; exact Nat.le_of_eq rfl) (hb hby d_jdk_67m1_3) (fun _ _ => ⟨rfl, e0, (by decide : 0 + 1 ≤ _), (by decide : 0 + 16 ≤ _)⟩)
  dsimp only [Pt.U, Pt.locs, Pt.cells, Pt.slots] at X_1 l_1 y_1 z_1 st_1 hQ_1
  subst l_1 y_1 z_1
  obtain ⟨d__1, ⟨k__1, ⟨rfl, N_1q, Kc_1, pfsz_d_1, pfF_value_a_1, pfF_coder_a_1, pfF_count_a_1, pfE_a_1, pfV_d_1⟩⟩⟩ := hQ_1
  have Z_1 : n0 ≤ T_1.heap.size := (Nat.le_trans Z0 Kc_1.1)
  have K_1 : Keep h0 T_1.heap [a] := (Keep.refl h0 [a]).trans Kc_1 (allS (Or.inl (List.mem_of_getElem? (i := 0) rfl)) all0)
  have sz_d__1 : h0.size ≤ d__1 := Nat.le_trans (Keep.refl h0 [a]).1 pfsz_d_1
  have g_d__1 : n0 ≤ d__1 := Nat.le_trans Z0 pfsz_d_1
  have N_1 := Fr.app N0 N_1q
  obtain ⟨fs, hr, hrun, hended, hW, hsame⟩ := X_1.leave (v := none) (fun _ => rfl)
  refine ⟨_, _, pre0 _ ?_, hrun, hended, _, _, rfl, ?_, ⟨_, rfl⟩, hW, hsame.mono (by decide) (by decide)⟩
  · show oS pP eE below s₁ (mkF mM 0 #[.val (.ref a)] []) _
    refine XS.aloadN X0.here hx rfl (hb hby d_jdk_67m1_0) rfl rfl ?_
    refine XS.bipush X0.here hx rfl (hb hby d_jdk_67m1_1) ?_
    show oS pP eE below s₁ (mkF mM 3 #[.val (.ref a)] [(.int (16 : Int32)), (.ref a)]) _
    refine st_1.trans ?_
    show oS pP eE below T_1 (mkF mM 6 #[.val (.ref a)] []) _
    exact X_1.returnOut hx Bd.returns (hb hby d_jdk_67m1_6) hr
  · show Q_sbi Z a cs h0 n0 _ T_1.heap _
    exact ⟨d__1, k__1, rfl, N_1, K_1, sz_d__1, pfF_value_a_1, pfF_coder_a_1, pfF_count_a_1, pfE_a_1, pfV_d_1⟩
theorem d_jdk_29m65_0 : decode jdk_29_method_65_code 0 = .ok (.iload_n 0, 1) := by decide +kernel
theorem d_jdk_29m65_1 : decode jdk_29_method_65_code 1 = .ok (.iload_n 1, 1) := by decide +kernel
theorem d_jdk_29m65_2 : decode jdk_29_method_65_code 2 = .ok (.if_icmp .lt 7, 3) := by decide +kernel
theorem d_jdk_29m65_5 : decode jdk_29_method_65_code 5 = .ok (.iload_n 0, 1) := by decide +kernel
theorem d_jdk_29m65_6 : decode jdk_29_method_65_code 6 = .ok (.goto 4, 3) := by decide +kernel
theorem d_jdk_29m65_10 : decode jdk_29_method_65_code 10 = .ok (.ireturn, 1) := by decide +kernel
theorem ef_max_25_18 (mM : MethodId) (x0 : Int32) (x1 : Int32) : entryFrame mM #[(.int x0), (.int x1)] 2 = mkF mM 0 #[.val (.int x0), .val (.int x1)] [] := by first | (simp [entryFrame, mkF, argsToLocals, Value.category]; done) | rfl
def Q_max_25_18 (Z : State)  (h0 : Heap) (n0 : Nat) (v_ : Option Value) (h_ : Heap) (L_ : List Loc) : Prop := v_ = some (.int (25 : Int32)) ∧ Fr n0 L_ ∧ h_ = h0
set_option maxRecDepth 65536 in
set_option maxHeartbeats 40000000 in
theorem rm_max_25_18 (l : Launch) (Z : State) (a0 : Array Value) (hw : ∀ d ∈ tables_1, d.before a0 Z = true) (ws : List Jvm.Cond)  (h0 : Heap) (n0 : Nat) (Z0 : n0 ≤ h0.size) :
    MetFree l (⟨"java/lang/Math", "max", "(II)I"⟩ : MethodName) (head1 (Jvm.Cond.code (⟨"java/lang/Math", "max", "(II)I"⟩ : MethodName) jdk_29_method_65_code 2 (some .int) :: ws) ({ frames := 0, cells := 0, slots := 0, locals := 0 } : Room)) (fun aa_ U_ => aa_ = #[(.int (25 : Int32)), (.int (18 : Int32))] ∧ Z.Warmed39 U_.vm ∧ U_.heap = h0) (fun _ _ _ _ _ => True) (fun _ U_ o_ U'_ => ∃ v_ L_, o_ = .returned v_ ∧ Q_max_25_18 Z  h0 n0 v_ U'_.heap L_ ∧ FrameEnd U_ o_ U'_ L_ ({ frames := 0, cells := 0, slots := 0, locals := 0 } : Room).cells ({ frames := 0, cells := 0, slots := 0, locals := 0 } : Room).slots) := by
  refine MetFree.of_bodySF (Jvm.Free.JP.mathPlain rfl (by decide +kernel)) hisR ?_
  intro pP eE sS mM argsA below meth cC s₁ Bd hml0 hP hK
  obtain ⟨rfl, hZ, hh⟩ := hP
  have hx := Bd.exec
  have hby := Bd.bytes
  have hml : cC.maxLocals = 2 := hml0
  have hown : sS.vm.findClass "java/lang/Math" = some mM.cls := findClass_of_methodNamed Bd.named
  have hnm := (name_of_methodNamed Bd.named Bd.method).1
  have X0 : Stand pP l eE ({ frames := 0, cells := 0, slots := 0, locals := 0 } : Room) sS mM #[(.int (25 : Int32)), (.int (18 : Int32))] below meth cC s₁ [] 0 0 := Stand.of_body Bd
  have e0 : s₁.heap = h0 := by rw [← hh, Bd.state]; rfl
  have N0 := Fr.nil n0
  have pre0 : ∀ t_, Steps pP.tables eE below (s₁.setTop (mkF mM 0 #[.val (.int (25 : Int32)), .val (.int (18 : Int32))] [])) t_ → Steps pP.tables eE below (s₁.setTop (entryFrame mM #[(.int (25 : Int32)), (.int (18 : Int32))] 2)) t_ := fun t_ k_ => castTop (ef_max_25_18 mM (25 : Int32) (18 : Int32)) k_
  obtain ⟨fs, hr, hrun, hended, hW, hsame⟩ := X0.leave (v := some (.int (25 : Int32))) (fun h => by rw [Bd.returns] at h; cases h)
  refine ⟨_, _, pre0 _ ?_, hrun, hended, _, _, rfl, ?_, ⟨_, rfl⟩, hW, hsame.mono (by decide) (by decide)⟩
  · show oS pP eE below s₁ (mkF mM 0 #[.val (.int (25 : Int32)), .val (.int (18 : Int32))] []) _
    refine XS.iloadN X0.here hx rfl (hb hby d_jdk_29m65_0) rfl ?_
    refine XS.iloadN X0.here hx rfl (hb hby d_jdk_29m65_1) rfl ?_
    refine XS.icmpNo X0.here hx rfl (hb hby d_jdk_29m65_2) rfl (by decide) ?_
    refine XS.iloadN X0.here hx rfl (hb hby d_jdk_29m65_5) rfl ?_
    show oS pP eE below s₁ (mkF mM 6 #[.val (.int (25 : Int32)), .val (.int (18 : Int32))] [(.int (25 : Int32))]) _
    refine XS.goto X0.here hx rfl (pc0 := 6) (pc' := 10) rfl (hb hby d_jdk_29m65_6) (by decide) (by decide) ?_
    show oS pP eE below s₁ (mkF mM 10 #[.val (.int (25 : Int32)), .val (.int (18 : Int32))] [(.int (25 : Int32))]) _
    exact retI X0 hx Bd.returns (hb hby d_jdk_29m65_10) hr
  · show Q_max_25_18 Z  h0 n0 _ s₁.heap _
    rw [e0]
    exact ⟨rfl, N0, rfl⟩
theorem d_jdk_29m65_9 : decode jdk_29_method_65_code 9 = .ok (.iload_n 1, 1) := by decide +kernel
theorem ef_max_1_43 (mM : MethodId) (x0 : Int32) (x1 : Int32) : entryFrame mM #[(.int x0), (.int x1)] 2 = mkF mM 0 #[.val (.int x0), .val (.int x1)] [] := by first | (simp [entryFrame, mkF, argsToLocals, Value.category]; done) | rfl
def Q_max_1_43 (Z : State)  (h0 : Heap) (n0 : Nat) (v_ : Option Value) (h_ : Heap) (L_ : List Loc) : Prop := v_ = some (.int (43 : Int32)) ∧ Fr n0 L_ ∧ h_ = h0
set_option maxRecDepth 65536 in
set_option maxHeartbeats 40000000 in
theorem rm_max_1_43 (l : Launch) (Z : State) (a0 : Array Value) (hw : ∀ d ∈ tables_1, d.before a0 Z = true) (ws : List Jvm.Cond)  (h0 : Heap) (n0 : Nat) (Z0 : n0 ≤ h0.size) :
    MetFree l (⟨"java/lang/Math", "max", "(II)I"⟩ : MethodName) (head1 (Jvm.Cond.code (⟨"java/lang/Math", "max", "(II)I"⟩ : MethodName) jdk_29_method_65_code 2 (some .int) :: ws) ({ frames := 0, cells := 0, slots := 0, locals := 0 } : Room)) (fun aa_ U_ => aa_ = #[(.int (1 : Int32)), (.int (43 : Int32))] ∧ Z.Warmed39 U_.vm ∧ U_.heap = h0) (fun _ _ _ _ _ => True) (fun _ U_ o_ U'_ => ∃ v_ L_, o_ = .returned v_ ∧ Q_max_1_43 Z  h0 n0 v_ U'_.heap L_ ∧ FrameEnd U_ o_ U'_ L_ ({ frames := 0, cells := 0, slots := 0, locals := 0 } : Room).cells ({ frames := 0, cells := 0, slots := 0, locals := 0 } : Room).slots) := by
  refine MetFree.of_bodySF (Jvm.Free.JP.mathPlain rfl (by decide +kernel)) hisR ?_
  intro pP eE sS mM argsA below meth cC s₁ Bd hml0 hP hK
  obtain ⟨rfl, hZ, hh⟩ := hP
  have hx := Bd.exec
  have hby := Bd.bytes
  have hml : cC.maxLocals = 2 := hml0
  have hown : sS.vm.findClass "java/lang/Math" = some mM.cls := findClass_of_methodNamed Bd.named
  have hnm := (name_of_methodNamed Bd.named Bd.method).1
  have X0 : Stand pP l eE ({ frames := 0, cells := 0, slots := 0, locals := 0 } : Room) sS mM #[(.int (1 : Int32)), (.int (43 : Int32))] below meth cC s₁ [] 0 0 := Stand.of_body Bd
  have e0 : s₁.heap = h0 := by rw [← hh, Bd.state]; rfl
  have N0 := Fr.nil n0
  have pre0 : ∀ t_, Steps pP.tables eE below (s₁.setTop (mkF mM 0 #[.val (.int (1 : Int32)), .val (.int (43 : Int32))] [])) t_ → Steps pP.tables eE below (s₁.setTop (entryFrame mM #[(.int (1 : Int32)), (.int (43 : Int32))] 2)) t_ := fun t_ k_ => castTop (ef_max_1_43 mM (1 : Int32) (43 : Int32)) k_
  obtain ⟨fs, hr, hrun, hended, hW, hsame⟩ := X0.leave (v := some (.int (43 : Int32))) (fun h => by rw [Bd.returns] at h; cases h)
  refine ⟨_, _, pre0 _ ?_, hrun, hended, _, _, rfl, ?_, ⟨_, rfl⟩, hW, hsame.mono (by decide) (by decide)⟩
  · show oS pP eE below s₁ (mkF mM 0 #[.val (.int (1 : Int32)), .val (.int (43 : Int32))] []) _
    refine XS.iloadN X0.here hx rfl (hb hby d_jdk_29m65_0) rfl ?_
    refine XS.iloadN X0.here hx rfl (hb hby d_jdk_29m65_1) rfl ?_
    refine XS.icmpYes X0.here hx rfl (pc0 := 2) (pc' := 9) rfl (hb hby d_jdk_29m65_2) rfl (by decide) (by decide) (by decide) ?_
    refine XS.iloadN X0.here hx rfl (hb hby d_jdk_29m65_9) rfl ?_
    show oS pP eE below s₁ (mkF mM 10 #[.val (.int (1 : Int32)), .val (.int (43 : Int32))] [(.int (43 : Int32))]) _
    exact retI X0 hx Bd.returns (hb hby d_jdk_29m65_10) hr
  · show Q_max_1_43 Z  h0 n0 _ s₁.heap _
    rw [e0]
    exact ⟨rfl, N0, rfl⟩
theorem d_jdk_29m69_0 : decode jdk_29_method_69_code 0 = .ok (.iload_n 0, 1) := by decide +kernel
theorem d_jdk_29m69_1 : decode jdk_29_method_69_code 1 = .ok (.iload_n 1, 1) := by decide +kernel
theorem d_jdk_29m69_2 : decode jdk_29_method_69_code 2 = .ok (.if_icmp .gt 7, 3) := by decide +kernel
theorem d_jdk_29m69_5 : decode jdk_29_method_69_code 5 = .ok (.iload_n 0, 1) := by decide +kernel
theorem d_jdk_29m69_6 : decode jdk_29_method_69_code 6 = .ok (.goto 4, 3) := by decide +kernel
theorem d_jdk_29m69_10 : decode jdk_29_method_69_code 10 = .ok (.ireturn, 1) := by decide +kernel
theorem ef_min_16_41 (mM : MethodId) (x0 : Int32) (x1 : Int32) : entryFrame mM #[(.int x0), (.int x1)] 2 = mkF mM 0 #[.val (.int x0), .val (.int x1)] [] := by first | (simp [entryFrame, mkF, argsToLocals, Value.category]; done) | rfl
def Q_min_16_41 (Z : State)  (h0 : Heap) (n0 : Nat) (v_ : Option Value) (h_ : Heap) (L_ : List Loc) : Prop := v_ = some (.int (16 : Int32)) ∧ Fr n0 L_ ∧ h_ = h0
set_option maxRecDepth 65536 in
set_option maxHeartbeats 40000000 in
theorem rm_min_16_41 (l : Launch) (Z : State) (a0 : Array Value) (hw : ∀ d ∈ tables_1, d.before a0 Z = true) (ws : List Jvm.Cond)  (h0 : Heap) (n0 : Nat) (Z0 : n0 ≤ h0.size) :
    MetFree l (⟨"java/lang/Math", "min", "(II)I"⟩ : MethodName) (head1 (Jvm.Cond.code (⟨"java/lang/Math", "min", "(II)I"⟩ : MethodName) jdk_29_method_69_code 2 (some .int) :: ws) ({ frames := 0, cells := 0, slots := 0, locals := 0 } : Room)) (fun aa_ U_ => aa_ = #[(.int (16 : Int32)), (.int (41 : Int32))] ∧ Z.Warmed39 U_.vm ∧ U_.heap = h0) (fun _ _ _ _ _ => True) (fun _ U_ o_ U'_ => ∃ v_ L_, o_ = .returned v_ ∧ Q_min_16_41 Z  h0 n0 v_ U'_.heap L_ ∧ FrameEnd U_ o_ U'_ L_ ({ frames := 0, cells := 0, slots := 0, locals := 0 } : Room).cells ({ frames := 0, cells := 0, slots := 0, locals := 0 } : Room).slots) := by
  refine MetFree.of_bodySF (Jvm.Free.JP.mathPlain rfl (by decide +kernel)) hisR ?_
  intro pP eE sS mM argsA below meth cC s₁ Bd hml0 hP hK
  obtain ⟨rfl, hZ, hh⟩ := hP
  have hx := Bd.exec
  have hby := Bd.bytes
  have hml : cC.maxLocals = 2 := hml0
  have hown : sS.vm.findClass "java/lang/Math" = some mM.cls := findClass_of_methodNamed Bd.named
  have hnm := (name_of_methodNamed Bd.named Bd.method).1
  have X0 : Stand pP l eE ({ frames := 0, cells := 0, slots := 0, locals := 0 } : Room) sS mM #[(.int (16 : Int32)), (.int (41 : Int32))] below meth cC s₁ [] 0 0 := Stand.of_body Bd
  have e0 : s₁.heap = h0 := by rw [← hh, Bd.state]; rfl
  have N0 := Fr.nil n0
  have pre0 : ∀ t_, Steps pP.tables eE below (s₁.setTop (mkF mM 0 #[.val (.int (16 : Int32)), .val (.int (41 : Int32))] [])) t_ → Steps pP.tables eE below (s₁.setTop (entryFrame mM #[(.int (16 : Int32)), (.int (41 : Int32))] 2)) t_ := fun t_ k_ => castTop (ef_min_16_41 mM (16 : Int32) (41 : Int32)) k_
  obtain ⟨fs, hr, hrun, hended, hW, hsame⟩ := X0.leave (v := some (.int (16 : Int32))) (fun h => by rw [Bd.returns] at h; cases h)
  refine ⟨_, _, pre0 _ ?_, hrun, hended, _, _, rfl, ?_, ⟨_, rfl⟩, hW, hsame.mono (by decide) (by decide)⟩
  · show oS pP eE below s₁ (mkF mM 0 #[.val (.int (16 : Int32)), .val (.int (41 : Int32))] []) _
    refine XS.iloadN X0.here hx rfl (hb hby d_jdk_29m69_0) rfl ?_
    refine XS.iloadN X0.here hx rfl (hb hby d_jdk_29m69_1) rfl ?_
    refine XS.icmpNo X0.here hx rfl (hb hby d_jdk_29m69_2) rfl (by decide) ?_
    refine XS.iloadN X0.here hx rfl (hb hby d_jdk_29m69_5) rfl ?_
    show oS pP eE below s₁ (mkF mM 6 #[.val (.int (16 : Int32)), .val (.int (41 : Int32))] [(.int (16 : Int32))]) _
    refine XS.goto X0.here hx rfl (pc0 := 6) (pc' := 10) rfl (hb hby d_jdk_29m69_6) (by decide) (by decide) ?_
    show oS pP eE below s₁ (mkF mM 10 #[.val (.int (16 : Int32)), .val (.int (41 : Int32))] [(.int (16 : Int32))]) _
    exact retI X0 hx Bd.returns (hb hby d_jdk_29m69_10) hr
  · show Q_min_16_41 Z  h0 n0 _ s₁.heap _
    rw [e0]
    exact ⟨rfl, N0, rfl⟩
theorem ef_min_41_84 (mM : MethodId) (x0 : Int32) (x1 : Int32) : entryFrame mM #[(.int x0), (.int x1)] 2 = mkF mM 0 #[.val (.int x0), .val (.int x1)] [] := by first | (simp [entryFrame, mkF, argsToLocals, Value.category]; done) | rfl
def Q_min_41_84 (Z : State)  (h0 : Heap) (n0 : Nat) (v_ : Option Value) (h_ : Heap) (L_ : List Loc) : Prop := v_ = some (.int (41 : Int32)) ∧ Fr n0 L_ ∧ h_ = h0
set_option maxRecDepth 65536 in
set_option maxHeartbeats 40000000 in
theorem rm_min_41_84 (l : Launch) (Z : State) (a0 : Array Value) (hw : ∀ d ∈ tables_1, d.before a0 Z = true) (ws : List Jvm.Cond)  (h0 : Heap) (n0 : Nat) (Z0 : n0 ≤ h0.size) :
    MetFree l (⟨"java/lang/Math", "min", "(II)I"⟩ : MethodName) (head1 (Jvm.Cond.code (⟨"java/lang/Math", "min", "(II)I"⟩ : MethodName) jdk_29_method_69_code 2 (some .int) :: ws) ({ frames := 0, cells := 0, slots := 0, locals := 0 } : Room)) (fun aa_ U_ => aa_ = #[(.int (41 : Int32)), (.int (84 : Int32))] ∧ Z.Warmed39 U_.vm ∧ U_.heap = h0) (fun _ _ _ _ _ => True) (fun _ U_ o_ U'_ => ∃ v_ L_, o_ = .returned v_ ∧ Q_min_41_84 Z  h0 n0 v_ U'_.heap L_ ∧ FrameEnd U_ o_ U'_ L_ ({ frames := 0, cells := 0, slots := 0, locals := 0 } : Room).cells ({ frames := 0, cells := 0, slots := 0, locals := 0 } : Room).slots) := by
  refine MetFree.of_bodySF (Jvm.Free.JP.mathPlain rfl (by decide +kernel)) hisR ?_
  intro pP eE sS mM argsA below meth cC s₁ Bd hml0 hP hK
  obtain ⟨rfl, hZ, hh⟩ := hP
  have hx := Bd.exec
  have hby := Bd.bytes
  have hml : cC.maxLocals = 2 := hml0
  have hown : sS.vm.findClass "java/lang/Math" = some mM.cls := findClass_of_methodNamed Bd.named
  have hnm := (name_of_methodNamed Bd.named Bd.method).1
  have X0 : Stand pP l eE ({ frames := 0, cells := 0, slots := 0, locals := 0 } : Room) sS mM #[(.int (41 : Int32)), (.int (84 : Int32))] below meth cC s₁ [] 0 0 := Stand.of_body Bd
  have e0 : s₁.heap = h0 := by rw [← hh, Bd.state]; rfl
  have N0 := Fr.nil n0
  have pre0 : ∀ t_, Steps pP.tables eE below (s₁.setTop (mkF mM 0 #[.val (.int (41 : Int32)), .val (.int (84 : Int32))] [])) t_ → Steps pP.tables eE below (s₁.setTop (entryFrame mM #[(.int (41 : Int32)), (.int (84 : Int32))] 2)) t_ := fun t_ k_ => castTop (ef_min_41_84 mM (41 : Int32) (84 : Int32)) k_
  obtain ⟨fs, hr, hrun, hended, hW, hsame⟩ := X0.leave (v := some (.int (41 : Int32))) (fun h => by rw [Bd.returns] at h; cases h)
  refine ⟨_, _, pre0 _ ?_, hrun, hended, _, _, rfl, ?_, ⟨_, rfl⟩, hW, hsame.mono (by decide) (by decide)⟩
  · show oS pP eE below s₁ (mkF mM 0 #[.val (.int (41 : Int32)), .val (.int (84 : Int32))] []) _
    refine XS.iloadN X0.here hx rfl (hb hby d_jdk_29m69_0) rfl ?_
    refine XS.iloadN X0.here hx rfl (hb hby d_jdk_29m69_1) rfl ?_
    refine XS.icmpNo X0.here hx rfl (hb hby d_jdk_29m69_2) rfl (by decide) ?_
    refine XS.iloadN X0.here hx rfl (hb hby d_jdk_29m69_5) rfl ?_
    show oS pP eE below s₁ (mkF mM 6 #[.val (.int (41 : Int32)), .val (.int (84 : Int32))] [(.int (41 : Int32))]) _
    refine XS.goto X0.here hx rfl (pc0 := 6) (pc' := 10) rfl (hb hby d_jdk_29m69_6) (by decide) (by decide) ?_
    show oS pP eE below s₁ (mkF mM 10 #[.val (.int (41 : Int32)), .val (.int (84 : Int32))] [(.int (41 : Int32))]) _
    exact retI X0 hx Bd.returns (hb hby d_jdk_29m69_10) hr
  · show Q_min_41_84 Z  h0 n0 _ s₁.heap _
    rw [e0]
    exact ⟨rfl, N0, rfl⟩
theorem d_jdk_29m69_9 : decode jdk_29_method_69_code 9 = .ok (.iload_n 1, 1) := by decide +kernel
theorem ef_min_84_42 (mM : MethodId) (x0 : Int32) (x1 : Int32) : entryFrame mM #[(.int x0), (.int x1)] 2 = mkF mM 0 #[.val (.int x0), .val (.int x1)] [] := by first | (simp [entryFrame, mkF, argsToLocals, Value.category]; done) | rfl
def Q_min_84_42 (Z : State)  (h0 : Heap) (n0 : Nat) (v_ : Option Value) (h_ : Heap) (L_ : List Loc) : Prop := v_ = some (.int (42 : Int32)) ∧ Fr n0 L_ ∧ h_ = h0
set_option maxRecDepth 65536 in
set_option maxHeartbeats 40000000 in
theorem rm_min_84_42 (l : Launch) (Z : State) (a0 : Array Value) (hw : ∀ d ∈ tables_1, d.before a0 Z = true) (ws : List Jvm.Cond)  (h0 : Heap) (n0 : Nat) (Z0 : n0 ≤ h0.size) :
    MetFree l (⟨"java/lang/Math", "min", "(II)I"⟩ : MethodName) (head1 (Jvm.Cond.code (⟨"java/lang/Math", "min", "(II)I"⟩ : MethodName) jdk_29_method_69_code 2 (some .int) :: ws) ({ frames := 0, cells := 0, slots := 0, locals := 0 } : Room)) (fun aa_ U_ => aa_ = #[(.int (84 : Int32)), (.int (42 : Int32))] ∧ Z.Warmed39 U_.vm ∧ U_.heap = h0) (fun _ _ _ _ _ => True) (fun _ U_ o_ U'_ => ∃ v_ L_, o_ = .returned v_ ∧ Q_min_84_42 Z  h0 n0 v_ U'_.heap L_ ∧ FrameEnd U_ o_ U'_ L_ ({ frames := 0, cells := 0, slots := 0, locals := 0 } : Room).cells ({ frames := 0, cells := 0, slots := 0, locals := 0 } : Room).slots) := by
  refine MetFree.of_bodySF (Jvm.Free.JP.mathPlain rfl (by decide +kernel)) hisR ?_
  intro pP eE sS mM argsA below meth cC s₁ Bd hml0 hP hK
  obtain ⟨rfl, hZ, hh⟩ := hP
  have hx := Bd.exec
  have hby := Bd.bytes
  have hml : cC.maxLocals = 2 := hml0
  have hown : sS.vm.findClass "java/lang/Math" = some mM.cls := findClass_of_methodNamed Bd.named
  have hnm := (name_of_methodNamed Bd.named Bd.method).1
  have X0 : Stand pP l eE ({ frames := 0, cells := 0, slots := 0, locals := 0 } : Room) sS mM #[(.int (84 : Int32)), (.int (42 : Int32))] below meth cC s₁ [] 0 0 := Stand.of_body Bd
  have e0 : s₁.heap = h0 := by rw [← hh, Bd.state]; rfl
  have N0 := Fr.nil n0
  have pre0 : ∀ t_, Steps pP.tables eE below (s₁.setTop (mkF mM 0 #[.val (.int (84 : Int32)), .val (.int (42 : Int32))] [])) t_ → Steps pP.tables eE below (s₁.setTop (entryFrame mM #[(.int (84 : Int32)), (.int (42 : Int32))] 2)) t_ := fun t_ k_ => castTop (ef_min_84_42 mM (84 : Int32) (42 : Int32)) k_
  obtain ⟨fs, hr, hrun, hended, hW, hsame⟩ := X0.leave (v := some (.int (42 : Int32))) (fun h => by rw [Bd.returns] at h; cases h)
  refine ⟨_, _, pre0 _ ?_, hrun, hended, _, _, rfl, ?_, ⟨_, rfl⟩, hW, hsame.mono (by decide) (by decide)⟩
  · show oS pP eE below s₁ (mkF mM 0 #[.val (.int (84 : Int32)), .val (.int (42 : Int32))] []) _
    refine XS.iloadN X0.here hx rfl (hb hby d_jdk_29m69_0) rfl ?_
    refine XS.iloadN X0.here hx rfl (hb hby d_jdk_29m69_1) rfl ?_
    refine XS.icmpYes X0.here hx rfl (pc0 := 2) (pc' := 9) rfl (hb hby d_jdk_29m69_2) rfl (by decide) (by decide) (by decide) ?_
    refine XS.iloadN X0.here hx rfl (hb hby d_jdk_29m69_9) rfl ?_
    show oS pP eE below s₁ (mkF mM 10 #[.val (.int (84 : Int32)), .val (.int (42 : Int32))] [(.int (42 : Int32))]) _
    exact retI X0 hx Bd.returns (hb hby d_jdk_29m69_10) hr
  · show Q_min_84_42 Z  h0 n0 _ s₁.heap _
    rw [e0]
    exact ⟨rfl, N0, rfl⟩
theorem d_jdk_48m27_0 : decode jdk_48_method_27_code 0 = .ok (.iload_n 0, 1) := by decide +kernel
theorem d_jdk_48m27_1 : decode jdk_48_method_27_code 1 = .ok (.iload_n 1, 1) := by decide +kernel
theorem d_jdk_48m27_2 : decode jdk_48_method_27_code 2 = .ok (.iload_n 2, 1) := by decide +kernel
theorem d_jdk_48m27_3 : decode jdk_48_method_27_code 3 = .ok (.invokestatic 194, 3) := by decide +kernel
theorem pd_5 : parseMethodDescriptor "(II)I" = some ⟨[.int, .int], some .int⟩ := by decide +kernel
abbrev MN5 : MethodName := ⟨"java/lang/Math", "max", "(II)I"⟩
theorem d_jdk_48m27_6 : decode jdk_48_method_27_code 6 = .ok (.iadd, 1) := by decide +kernel
theorem d_jdk_48m27_7 : decode jdk_48_method_27_code 7 = .ok (.istore_n 3, 1) := by decide +kernel
theorem d_jdk_48m27_8 : decode jdk_48_method_27_code 8 = .ok (.iconst 0, 1) := by decide +kernel
theorem d_jdk_48m27_9 : decode jdk_48_method_27_code 9 = .ok (.iload_n 3, 1) := by decide +kernel
theorem d_jdk_48m27_10 : decode jdk_48_method_27_code 10 = .ok (.if_icmp .ge 11, 3) := by decide +kernel
theorem d_jdk_48m27_13 : decode jdk_48_method_27_code 13 = .ok (.iload_n 3, 1) := by decide +kernel
theorem d_jdk_48m27_14 : decode jdk_48_method_27_code 14 = .ok (.ldc 200, 2) := by decide +kernel
theorem d_jdk_48m27_16 : decode jdk_48_method_27_code 16 = .ok (.if_icmp .gt 5, 3) := by decide +kernel
theorem d_jdk_48m27_19 : decode jdk_48_method_27_code 19 = .ok (.iload_n 3, 1) := by decide +kernel
theorem d_jdk_48m27_20 : decode jdk_48_method_27_code 20 = .ok (.ireturn, 1) := by decide +kernel
theorem pn_5 : plainName "jdk/internal/util/ArraysSupport" = true := by first | (simp [plainName, overriddenIn]; done) | decide +kernel
theorem ef_nl41 (mM : MethodId) (x0 : Int32) (x1 : Int32) (x2 : Int32) : entryFrame mM #[(.int x0), (.int x1), (.int x2)] 4 = mkF mM 0 #[.val (.int x0), .val (.int x1), .val (.int x2), .unset] [] := by first | (simp [entryFrame, mkF, argsToLocals, Value.category]; done) | rfl
def Q_nl41 (Z : State)  (h0 : Heap) (n0 : Nat) (v_ : Option Value) (h_ : Heap) (L_ : List Loc) : Prop := v_ = some (.int (41 : Int32)) ∧ Fr n0 L_ ∧ h_ = h0
set_option maxRecDepth 65536 in
set_option maxHeartbeats 40000000 in
theorem rm_nl41 (l : Launch) (Z : State) (a0 : Array Value) (hw : ∀ d ∈ tables_1, d.before a0 Z = true) (ws : List Jvm.Cond)  (h0 : Heap) (n0 : Nat) (Z0 : n0 ≤ h0.size) :
    MetFree l (⟨"jdk/internal/util/ArraysSupport", "newLength", "(III)I"⟩ : MethodName) (head1 (Jvm.Cond.code (⟨"jdk/internal/util/ArraysSupport", "newLength", "(III)I"⟩ : MethodName) jdk_48_method_27_code 4 (some .int) :: ws) ({ frames := 1, cells := 0, slots := 0, locals := 14 } : Room)) (fun aa_ U_ => aa_ = #[(.int (16 : Int32)), (.int (25 : Int32)), (.int (18 : Int32))] ∧ Z.Warmed39 U_.vm ∧ U_.heap = h0) (fun _ _ _ _ _ => True) (fun _ U_ o_ U'_ => ∃ v_ L_, o_ = .returned v_ ∧ Q_nl41 Z  h0 n0 v_ U'_.heap L_ ∧ FrameEnd U_ o_ U'_ L_ ({ frames := 1, cells := 0, slots := 0, locals := 14 } : Room).cells ({ frames := 1, cells := 0, slots := 0, locals := 14 } : Room).slots) := by
  refine MetFree.of_bodySF (plainFor_of_name pn_5) hisR ?_
  intro pP eE sS mM argsA below meth cC s₁ Bd hml0 hP hK
  obtain ⟨rfl, hZ, hh⟩ := hP
  have hx := Bd.exec
  have hby := Bd.bytes
  have hml : cC.maxLocals = 4 := hml0
  have hown : sS.vm.findClass "jdk/internal/util/ArraysSupport" = some mM.cls := findClass_of_methodNamed Bd.named
  have hnm := (name_of_methodNamed Bd.named Bd.method).1
  have X0 : Stand pP l eE ({ frames := 1, cells := 0, slots := 0, locals := 14 } : Room) sS mM #[(.int (16 : Int32)), (.int (25 : Int32)), (.int (18 : Int32))] below meth cC s₁ [] 0 0 := Stand.of_body Bd
  have e0 : s₁.heap = h0 := by rw [← hh, Bd.state]; rfl
  have N0 := Fr.nil n0
  have pre0 : ∀ t_, Steps pP.tables eE below (s₁.setTop (mkF mM 0 #[.val (.int (16 : Int32)), .val (.int (25 : Int32)), .val (.int (18 : Int32)), .unset] [])) t_ → Steps pP.tables eE below (s₁.setTop (entryFrame mM #[(.int (16 : Int32)), (.int (25 : Int32)), (.int (18 : Int32))] 4)) t_ := fun t_ k_ => castTop (ef_nl41 mM (16 : Int32) (25 : Int32) (18 : Int32)) k_
  obtain ⟨_, _, ⟨T_1, L_1, k_1, n_1⟩, -, X_1, ⟨Lc_1, hQ_1, l_1, y_1, z_1⟩, st_1⟩ := Jvm.LawKit.callS X0 hx (y := MN5) hown (mvT hZ (ow hw 107 rfl)) (mvT hZ (ow hw 108 rfl)) (mvT hZ (ow hw 109 rfl)) (mvT hZ (ow hw 110 rfl)) (by decide) (backOf (W := 1) (rm_max_25_18 l Z a0 hw []  h0 n0 Z0 ) hZ (ow hw 110 rfl) (ow hw 109 rfl) (by decide) (by decide)) (g := (mkF mM 3 #[.val (.int (16 : Int32)), .val (.int (25 : Int32)), .val (.int (18 : Int32)), .unset] [(.int (18 : Int32)), (.int (25 : Int32)), (.int (16 : Int32))])) rfl (by rw [hml]; rfl) (argsL := [(.int (25 : Int32)), (.int (18 : Int32))]) (rest := [(.int (16 : Int32))]) (lenOf pd_5 rfl) rfl (by show 2 * 0 + _ ≤ _; exact Nat.le_of_eq rfl) (hb hby d_jdk_48m27_3) (fun _ _ => ⟨rfl, e0, (by decide : 0 + 0 ≤ _), (by decide : 0 + 0 ≤ _)⟩)
  dsimp only [Pt.U, Pt.locs, Pt.cells, Pt.slots] at X_1 l_1 y_1 z_1 st_1 hQ_1
  subst l_1 y_1 z_1
  obtain ⟨rfl, N_1q, eh_1⟩ := hQ_1
  have N_1 := Fr.app N0 N_1q
  obtain ⟨fs, hr, hrun, hended, hW, hsame⟩ := X_1.leave (v := some (.int (41 : Int32))) (fun h => by rw [Bd.returns] at h; cases h)
  refine ⟨_, _, pre0 _ ?_, hrun, hended, _, _, rfl, ?_, ⟨_, rfl⟩, hW, hsame.mono (by decide) (by decide)⟩
  · show oS pP eE below s₁ (mkF mM 0 #[.val (.int (16 : Int32)), .val (.int (25 : Int32)), .val (.int (18 : Int32)), .unset] []) _
    refine XS.iloadN X0.here hx rfl (hb hby d_jdk_48m27_0) rfl ?_
    refine XS.iloadN X0.here hx rfl (hb hby d_jdk_48m27_1) rfl ?_
    refine XS.iloadN X0.here hx rfl (hb hby d_jdk_48m27_2) rfl ?_
    show oS pP eE below s₁ (mkF mM 3 #[.val (.int (16 : Int32)), .val (.int (25 : Int32)), .val (.int (18 : Int32)), .unset] [(.int (18 : Int32)), (.int (25 : Int32)), (.int (16 : Int32))]) _
    refine st_1 _ ?_
    show oS pP eE below T_1 (mkF mM 6 #[.val (.int (16 : Int32)), .val (.int (25 : Int32)), .val (.int (18 : Int32)), .unset] [(.int (25 : Int32)), (.int (16 : Int32))]) _
    refine XS.iadd X_1.here hx rfl (hb hby d_jdk_48m27_6) rfl ?_
    show oS pP eE below T_1 (mkF mM 7 #[.val (.int (16 : Int32)), .val (.int (25 : Int32)), .val (.int (18 : Int32)), .unset] [(.int ((16 : Int32) + (25 : Int32)))]) _
    rw [(by decide : ((16 : Int32) + (25 : Int32)) = (41 : Int32))]
    refine XS.istoreN X_1.here hx rfl (hb hby d_jdk_48m27_7) rfl (l' := #[.val (.int (16 : Int32)), .val (.int (25 : Int32)), .val (.int (18 : Int32)), .val (.int (41 : Int32))]) rfl ?_
    refine XS.iconst X_1.here hx rfl (hb hby d_jdk_48m27_8) ?_
    refine XS.iloadN X_1.here hx rfl (hb hby d_jdk_48m27_9) rfl ?_
    show oS pP eE below T_1 (mkF mM 10 #[.val (.int (16 : Int32)), .val (.int (25 : Int32)), .val (.int (18 : Int32)), .val (.int (41 : Int32))] [(.int (41 : Int32)), (.int (0 : Int32))]) _
    refine XS.icmpNo X_1.here hx rfl (hb hby d_jdk_48m27_10) rfl (by decide) ?_
    refine XS.iloadN X_1.here hx rfl (hb hby d_jdk_48m27_13) rfl ?_
    show oS pP eE below T_1 (mkF mM 14 #[.val (.int (16 : Int32)), .val (.int (25 : Int32)), .val (.int (18 : Int32)), .val (.int (41 : Int32))] [(.int (41 : Int32))]) _
    refine X_1.ldcI hx hown (mvT hZ (ow hw 111 rfl)) (g := (mkF mM 14 #[.val (.int (16 : Int32)), .val (.int (25 : Int32)), .val (.int (18 : Int32)), .val (.int (41 : Int32))] [(.int (41 : Int32))])) rfl (hb hby d_jdk_48m27_14) ?_
    refine XS.icmpNo X_1.here hx rfl (hb hby d_jdk_48m27_16) rfl (by decide) ?_
    refine XS.iloadN X_1.here hx rfl (hb hby d_jdk_48m27_19) rfl ?_
    show oS pP eE below T_1 (mkF mM 20 #[.val (.int (16 : Int32)), .val (.int (25 : Int32)), .val (.int (18 : Int32)), .val (.int (41 : Int32))] [(.int (41 : Int32))]) _
    exact retI X_1 hx Bd.returns (hb hby d_jdk_48m27_20) hr
  · show Q_nl41 Z  h0 n0 _ T_1.heap _
    rw [eh_1]
    exact ⟨rfl, N_1, rfl⟩
theorem ef_nl84 (mM : MethodId) (x0 : Int32) (x1 : Int32) (x2 : Int32) : entryFrame mM #[(.int x0), (.int x1), (.int x2)] 4 = mkF mM 0 #[.val (.int x0), .val (.int x1), .val (.int x2), .unset] [] := by first | (simp [entryFrame, mkF, argsToLocals, Value.category]; done) | rfl
def Q_nl84 (Z : State)  (h0 : Heap) (n0 : Nat) (v_ : Option Value) (h_ : Heap) (L_ : List Loc) : Prop := v_ = some (.int (84 : Int32)) ∧ Fr n0 L_ ∧ h_ = h0
set_option maxRecDepth 65536 in
set_option maxHeartbeats 40000000 in
theorem rm_nl84 (l : Launch) (Z : State) (a0 : Array Value) (hw : ∀ d ∈ tables_1, d.before a0 Z = true) (ws : List Jvm.Cond)  (h0 : Heap) (n0 : Nat) (Z0 : n0 ≤ h0.size) :
    MetFree l (⟨"jdk/internal/util/ArraysSupport", "newLength", "(III)I"⟩ : MethodName) (head1 (Jvm.Cond.code (⟨"jdk/internal/util/ArraysSupport", "newLength", "(III)I"⟩ : MethodName) jdk_48_method_27_code 4 (some .int) :: ws) ({ frames := 1, cells := 0, slots := 0, locals := 14 } : Room)) (fun aa_ U_ => aa_ = #[(.int (41 : Int32)), (.int (1 : Int32)), (.int (43 : Int32))] ∧ Z.Warmed39 U_.vm ∧ U_.heap = h0) (fun _ _ _ _ _ => True) (fun _ U_ o_ U'_ => ∃ v_ L_, o_ = .returned v_ ∧ Q_nl84 Z  h0 n0 v_ U'_.heap L_ ∧ FrameEnd U_ o_ U'_ L_ ({ frames := 1, cells := 0, slots := 0, locals := 14 } : Room).cells ({ frames := 1, cells := 0, slots := 0, locals := 14 } : Room).slots) := by
  refine MetFree.of_bodySF (plainFor_of_name pn_5) hisR ?_
  intro pP eE sS mM argsA below meth cC s₁ Bd hml0 hP hK
  obtain ⟨rfl, hZ, hh⟩ := hP
  have hx := Bd.exec
  have hby := Bd.bytes
  have hml : cC.maxLocals = 4 := hml0
  have hown : sS.vm.findClass "jdk/internal/util/ArraysSupport" = some mM.cls := findClass_of_methodNamed Bd.named
  have hnm := (name_of_methodNamed Bd.named Bd.method).1
  have X0 : Stand pP l eE ({ frames := 1, cells := 0, slots := 0, locals := 14 } : Room) sS mM #[(.int (41 : Int32)), (.int (1 : Int32)), (.int (43 : Int32))] below meth cC s₁ [] 0 0 := Stand.of_body Bd
  have e0 : s₁.heap = h0 := by rw [← hh, Bd.state]; rfl
  have N0 := Fr.nil n0
  have pre0 : ∀ t_, Steps pP.tables eE below (s₁.setTop (mkF mM 0 #[.val (.int (41 : Int32)), .val (.int (1 : Int32)), .val (.int (43 : Int32)), .unset] [])) t_ → Steps pP.tables eE below (s₁.setTop (entryFrame mM #[(.int (41 : Int32)), (.int (1 : Int32)), (.int (43 : Int32))] 4)) t_ := fun t_ k_ => castTop (ef_nl84 mM (41 : Int32) (1 : Int32) (43 : Int32)) k_
  obtain ⟨_, _, ⟨T_1, L_1, k_1, n_1⟩, -, X_1, ⟨Lc_1, hQ_1, l_1, y_1, z_1⟩, st_1⟩ := Jvm.LawKit.callS X0 hx (y := MN5) hown (mvT hZ (ow hw 107 rfl)) (mvT hZ (ow hw 108 rfl)) (mvT hZ (ow hw 109 rfl)) (mvT hZ (ow hw 110 rfl)) (by decide) (backOf (W := 1) (rm_max_1_43 l Z a0 hw []  h0 n0 Z0 ) hZ (ow hw 110 rfl) (ow hw 109 rfl) (by decide) (by decide)) (g := (mkF mM 3 #[.val (.int (41 : Int32)), .val (.int (1 : Int32)), .val (.int (43 : Int32)), .unset] [(.int (43 : Int32)), (.int (1 : Int32)), (.int (41 : Int32))])) rfl (by rw [hml]; rfl) (argsL := [(.int (1 : Int32)), (.int (43 : Int32))]) (rest := [(.int (41 : Int32))]) (lenOf pd_5 rfl) rfl (by show 2 * 0 + _ ≤ _; exact Nat.le_of_eq rfl) (hb hby d_jdk_48m27_3) (fun _ _ => ⟨rfl, e0, (by decide : 0 + 0 ≤ _), (by decide : 0 + 0 ≤ _)⟩)
  dsimp only [Pt.U, Pt.locs, Pt.cells, Pt.slots] at X_1 l_1 y_1 z_1 st_1 hQ_1
  subst l_1 y_1 z_1
  obtain ⟨rfl, N_1q, eh_1⟩ := hQ_1
  have N_1 := Fr.app N0 N_1q
  obtain ⟨fs, hr, hrun, hended, hW, hsame⟩ := X_1.leave (v := some (.int (84 : Int32))) (fun h => by rw [Bd.returns] at h; cases h)
  refine ⟨_, _, pre0 _ ?_, hrun, hended, _, _, rfl, ?_, ⟨_, rfl⟩, hW, hsame.mono (by decide) (by decide)⟩
  · show oS pP eE below s₁ (mkF mM 0 #[.val (.int (41 : Int32)), .val (.int (1 : Int32)), .val (.int (43 : Int32)), .unset] []) _
    refine XS.iloadN X0.here hx rfl (hb hby d_jdk_48m27_0) rfl ?_
    refine XS.iloadN X0.here hx rfl (hb hby d_jdk_48m27_1) rfl ?_
    refine XS.iloadN X0.here hx rfl (hb hby d_jdk_48m27_2) rfl ?_
    show oS pP eE below s₁ (mkF mM 3 #[.val (.int (41 : Int32)), .val (.int (1 : Int32)), .val (.int (43 : Int32)), .unset] [(.int (43 : Int32)), (.int (1 : Int32)), (.int (41 : Int32))]) _
    refine st_1 _ ?_
    show oS pP eE below T_1 (mkF mM 6 #[.val (.int (41 : Int32)), .val (.int (1 : Int32)), .val (.int (43 : Int32)), .unset] [(.int (43 : Int32)), (.int (41 : Int32))]) _
    refine XS.iadd X_1.here hx rfl (hb hby d_jdk_48m27_6) rfl ?_
    show oS pP eE below T_1 (mkF mM 7 #[.val (.int (41 : Int32)), .val (.int (1 : Int32)), .val (.int (43 : Int32)), .unset] [(.int ((41 : Int32) + (43 : Int32)))]) _
    rw [(by decide : ((41 : Int32) + (43 : Int32)) = (84 : Int32))]
    refine XS.istoreN X_1.here hx rfl (hb hby d_jdk_48m27_7) rfl (l' := #[.val (.int (41 : Int32)), .val (.int (1 : Int32)), .val (.int (43 : Int32)), .val (.int (84 : Int32))]) rfl ?_
    refine XS.iconst X_1.here hx rfl (hb hby d_jdk_48m27_8) ?_
    refine XS.iloadN X_1.here hx rfl (hb hby d_jdk_48m27_9) rfl ?_
    show oS pP eE below T_1 (mkF mM 10 #[.val (.int (41 : Int32)), .val (.int (1 : Int32)), .val (.int (43 : Int32)), .val (.int (84 : Int32))] [(.int (84 : Int32)), (.int (0 : Int32))]) _
    refine XS.icmpNo X_1.here hx rfl (hb hby d_jdk_48m27_10) rfl (by decide) ?_
    refine XS.iloadN X_1.here hx rfl (hb hby d_jdk_48m27_13) rfl ?_
    show oS pP eE below T_1 (mkF mM 14 #[.val (.int (41 : Int32)), .val (.int (1 : Int32)), .val (.int (43 : Int32)), .val (.int (84 : Int32))] [(.int (84 : Int32))]) _
    refine X_1.ldcI hx hown (mvT hZ (ow hw 111 rfl)) (g := (mkF mM 14 #[.val (.int (41 : Int32)), .val (.int (1 : Int32)), .val (.int (43 : Int32)), .val (.int (84 : Int32))] [(.int (84 : Int32))])) rfl (hb hby d_jdk_48m27_14) ?_
    refine XS.icmpNo X_1.here hx rfl (hb hby d_jdk_48m27_16) rfl (by decide) ?_
    refine XS.iloadN X_1.here hx rfl (hb hby d_jdk_48m27_19) rfl ?_
    show oS pP eE below T_1 (mkF mM 20 #[.val (.int (41 : Int32)), .val (.int (1 : Int32)), .val (.int (43 : Int32)), .val (.int (84 : Int32))] [(.int (84 : Int32))]) _
    exact retI X_1 hx Bd.returns (hb hby d_jdk_48m27_20) hr
  · show Q_nl84 Z  h0 n0 _ T_1.heap _
    rw [eh_1]
    exact ⟨rfl, N_1, rfl⟩
abbrev lc0 (a : Addr) : Array Slot := #[.val (.ref a), .val (.int (41 : Int32)), .unset, .unset, .unset, .unset]
theorem d_jdk_68m10_0 : decode jdk_68_method_10_code 0 = .ok (.aload_n 0, 1) := by decide +kernel
theorem d_jdk_68m10_1 : decode jdk_68_method_10_code 1 = .ok (.getfield 15, 3) := by decide +kernel
theorem d_jdk_68m10_4 : decode jdk_68_method_10_code 4 = .ok (.arraylength, 1) := by decide +kernel
theorem d_jdk_68m10_5 : decode jdk_68_method_10_code 5 = .ok (.istore_n 2, 1) := by decide +kernel
abbrev lc1 (a : Addr) : Array Slot := #[.val (.ref a), .val (.int (41 : Int32)), .val (.int (16 : Int32)), .unset, .unset, .unset]
theorem d_jdk_68m10_6 : decode jdk_68_method_10_code 6 = .ok (.iload_n 1, 1) := by decide +kernel
theorem d_jdk_68m10_7 : decode jdk_68_method_10_code 7 = .ok (.aload_n 0, 1) := by decide +kernel
theorem d_jdk_68m10_8 : decode jdk_68_method_10_code 8 = .ok (.getfield 22, 3) := by decide +kernel
theorem d_jdk_68m10_11 : decode jdk_68_method_10_code 11 = .ok (.ishl, 1) := by decide +kernel
theorem d_jdk_68m10_12 : decode jdk_68_method_10_code 12 = .ok (.istore_n 3, 1) := by decide +kernel
abbrev lc2 (a : Addr) : Array Slot := #[.val (.ref a), .val (.int (41 : Int32)), .val (.int (16 : Int32)), .val (.int (41 : Int32)), .unset, .unset]
theorem d_jdk_68m10_13 : decode jdk_68_method_10_code 13 = .ok (.iload_n 3, 1) := by decide +kernel
theorem d_jdk_68m10_14 : decode jdk_68_method_10_code 14 = .ok (.iload_n 2, 1) := by decide +kernel
theorem d_jdk_68m10_15 : decode jdk_68_method_10_code 15 = .ok (.isub, 1) := by decide +kernel
theorem d_jdk_68m10_16 : decode jdk_68_method_10_code 16 = .ok (.istore 4, 2) := by decide +kernel
abbrev lc3 (a : Addr) : Array Slot := #[.val (.ref a), .val (.int (41 : Int32)), .val (.int (16 : Int32)), .val (.int (41 : Int32)), .val (.int (25 : Int32)), .unset]
theorem d_jdk_68m10_18 : decode jdk_68_method_10_code 18 = .ok (.iload_n 2, 1) := by decide +kernel
theorem d_jdk_68m10_19 : decode jdk_68_method_10_code 19 = .ok (.iload 4, 2) := by decide +kernel
theorem d_jdk_68m10_21 : decode jdk_68_method_10_code 21 = .ok (.iload_n 2, 1) := by decide +kernel
theorem d_jdk_68m10_22 : decode jdk_68_method_10_code 22 = .ok (.iconst 2, 1) := by decide +kernel
theorem d_jdk_68m10_23 : decode jdk_68_method_10_code 23 = .ok (.aload_n 0, 1) := by decide +kernel
theorem d_jdk_68m10_24 : decode jdk_68_method_10_code 24 = .ok (.getfield 22, 3) := by decide +kernel
theorem d_jdk_68m10_27 : decode jdk_68_method_10_code 27 = .ok (.ishl, 1) := by decide +kernel
theorem d_jdk_68m10_28 : decode jdk_68_method_10_code 28 = .ok (.iadd, 1) := by decide +kernel
theorem d_jdk_68m10_29 : decode jdk_68_method_10_code 29 = .ok (.invokestatic 114, 3) := by decide +kernel
theorem pd_6 : parseMethodDescriptor "(III)I" = some ⟨[.int, .int, .int], some .int⟩ := by decide +kernel
abbrev MN6 : MethodName := ⟨"jdk/internal/util/ArraysSupport", "newLength", "(III)I"⟩
theorem d_jdk_68m10_32 : decode jdk_68_method_10_code 32 = .ok (.istore 5, 2) := by decide +kernel
abbrev lc4 (a : Addr) : Array Slot := #[.val (.ref a), .val (.int (41 : Int32)), .val (.int (16 : Int32)), .val (.int (41 : Int32)), .val (.int (25 : Int32)), .val (.int (41 : Int32))]
theorem d_jdk_68m10_34 : decode jdk_68_method_10_code 34 = .ok (.iload 5, 2) := by decide +kernel
theorem d_jdk_68m10_36 : decode jdk_68_method_10_code 36 = .ok (.ldc 39, 2) := by decide +kernel
theorem d_jdk_68m10_38 : decode jdk_68_method_10_code 38 = .ok (.if_icmp .ne 13, 3) := by decide +kernel
theorem d_jdk_68m10_51 : decode jdk_68_method_10_code 51 = .ok (.iload 5, 2) := by decide +kernel
theorem d_jdk_68m10_53 : decode jdk_68_method_10_code 53 = .ok (.aload_n 0, 1) := by decide +kernel
theorem d_jdk_68m10_54 : decode jdk_68_method_10_code 54 = .ok (.getfield 22, 3) := by decide +kernel
theorem d_jdk_68m10_57 : decode jdk_68_method_10_code 57 = .ok (.ishr, 1) := by decide +kernel
theorem d_jdk_68m10_58 : decode jdk_68_method_10_code 58 = .ok (.ireturn, 1) := by decide +kernel
theorem ef_nc41 (mM : MethodId) (x0 : Addr) (x1 : Int32) : entryFrame mM #[(.ref x0), (.int x1)] 6 = mkF mM 0 #[.val (.ref x0), .val (.int x1), .unset, .unset, .unset, .unset] [] := by first | (simp [entryFrame, mkF, argsToLocals, Value.category]; done) | rfl
def Q_nc41 (Z : State) (a : Addr) (d : Addr) (k : ClassId) (h0 : Heap) (n0 : Nat) (v_ : Option Value) (h_ : Heap) (L_ : List Loc) : Prop := v_ = some (.int (41 : Int32)) ∧ Fr n0 L_ ∧ h_ = h0
set_option maxRecDepth 65536 in
set_option maxHeartbeats 40000000 in
theorem rm_nc41 (l : Launch) (Z : State) (a0 : Array Value) (hw : ∀ d ∈ tables_1, d.before a0 Z = true) (ws : List Jvm.Cond) (a : Addr) (d : Addr) (k : ClassId) (h0 : Heap) (n0 : Nat) (Z0 : n0 ≤ h0.size) (F_value_a : Fld Z h0 a "java/lang/AbstractStringBuilder" "value" "[B" (.ref d)) (F_coder_a : Fld Z h0 a "java/lang/AbstractStringBuilder" "coder" "B" (.int (0 : Int32))) (F_count_a : Fld Z h0 a "java/lang/AbstractStringBuilder" "count" "I" (.int (0 : Int32))) (E_a : Exa Z h0 a "java/lang/StringBuilder") (V_d : Arv Z h0 d k .byte (16 : Int32) [] (.int (0 : Int32))) :
    MetFree l (⟨"java/lang/AbstractStringBuilder", "newCapacity", "(I)I"⟩ : MethodName) (head1 (Jvm.Cond.code (⟨"java/lang/AbstractStringBuilder", "newCapacity", "(I)I"⟩ : MethodName) jdk_68_method_10_code 6 (some .int) :: ws) ({ frames := 2, cells := 0, slots := 0, locals := 29 } : Room)) (fun aa_ U_ => aa_ = #[(.ref a), (.int (41 : Int32))] ∧ Z.Warmed39 U_.vm ∧ U_.heap = h0) (fun _ _ _ _ _ => True) (fun _ U_ o_ U'_ => ∃ v_ L_, o_ = .returned v_ ∧ Q_nc41 Z a d k h0 n0 v_ U'_.heap L_ ∧ FrameEnd U_ o_ U'_ L_ ({ frames := 2, cells := 0, slots := 0, locals := 29 } : Room).cells ({ frames := 2, cells := 0, slots := 0, locals := 29 } : Room).slots) := by
  refine MetFree.of_bodySF (plainFor_of_name pn_3) hisR ?_
  intro pP eE sS mM argsA below meth cC s₁ Bd hml0 hP hK
  obtain ⟨rfl, hZ, hh⟩ := hP
  have hx := Bd.exec
  have hby := Bd.bytes
  have hml : cC.maxLocals = 6 := hml0
  have hown : sS.vm.findClass "java/lang/AbstractStringBuilder" = some mM.cls := findClass_of_methodNamed Bd.named
  have hnm := (name_of_methodNamed Bd.named Bd.method).1
  have X0 : Stand pP l eE ({ frames := 2, cells := 0, slots := 0, locals := 29 } : Room) sS mM #[(.ref a), (.int (41 : Int32))] below meth cC s₁ [] 0 0 := Stand.of_body Bd
  have e0 : s₁.heap = h0 := by rw [← hh, Bd.state]; rfl
  have N0 := Fr.nil n0
  have pre0 : ∀ t_, Steps pP.tables eE below (s₁.setTop (mkF mM 0 #[.val (.ref a), .val (.int (41 : Int32)), .unset, .unset, .unset, .unset] [])) t_ → Steps pP.tables eE below (s₁.setTop (entryFrame mM #[(.ref a), (.int (41 : Int32))] 6)) t_ := fun t_ k_ => castTop (ef_nc41 mM a (41 : Int32)) k_
  obtain ⟨T_1, X_1, e_1, st_1⟩ := getF X0 hx hZ hown (host := "") (Or.inl (ow hw 67 rfl)) Via.refl e0 F_value_a (g := (mkF mM 1 (lc0 a) [(.ref a)])) rfl rfl (hb hby d_jdk_68m10_1)
  obtain ⟨cl_2, Ar_2, -, Sa_2, Na_2, -, -⟩ := id V_d
  obtain ⟨T_3, X_3, e_3, st_3⟩ := getF X_1 hx hZ hown (host := "") (Or.inl (ow hw 69 rfl)) Via.refl e_1 F_coder_a (g := (mkF mM 8 (lc1 a) [(.ref a), (.int (41 : Int32))])) rfl rfl (hb hby d_jdk_68m10_8)
  obtain ⟨T_4, X_4, e_4, st_4⟩ := getF X_3 hx hZ hown (host := "") (Or.inl (ow hw 69 rfl)) Via.refl e_3 F_coder_a (g := (mkF mM 24 (lc3 a) [(.ref a), (.int (2 : Int32)), (.int (16 : Int32)), (.int (25 : Int32)), (.int (16 : Int32))])) rfl rfl (hb hby d_jdk_68m10_24)
  obtain ⟨_, _, ⟨T_5, L_5, k_5, n_5⟩, -, X_5, ⟨Lc_5, hQ_5, l_5, y_5, z_5⟩, st_5⟩ := Jvm.LawKit.callS X_4 hx (y := MN6) hown (mvT hZ (ow hw 103 rfl)) (mvT hZ (ow hw 104 rfl)) (mvT hZ (ow hw 105 rfl)) (mvT hZ (ow hw 106 rfl)) (by decide) (backOf (W := 0) (rm_nl41 l Z a0 hw []  h0 n0 Z0 ) hZ (ow hw 106 rfl) (ow hw 105 rfl) (by decide) (by decide)) (g := (mkF mM 29 (lc3 a) [(.int (18 : Int32)), (.int (25 : Int32)), (.int (16 : Int32))])) rfl (by rw [hml]; rfl) (argsL := [(.int (16 : Int32)), (.int (25 : Int32)), (.int (18 : Int32))]) (rest := []) (lenOf pd_6 rfl) rfl (by show 2 * 0 + _ ≤ _; exact Nat.le_of_eq rfl) (hb hby d_jdk_68m10_29) (fun _ _ => ⟨rfl, e_4, (by decide : 0 + 0 ≤ _), (by decide : 0 + 0 ≤ _)⟩)
  dsimp only [Pt.U, Pt.locs, Pt.cells, Pt.slots] at X_5 l_5 y_5 z_5 st_5 hQ_5
  subst l_5 y_5 z_5
  obtain ⟨rfl, N_5q, eh_5⟩ := hQ_5
  have N_5 := Fr.app N0 N_5q
  obtain ⟨T_6, X_6, e_6, st_6⟩ := getF X_5 hx hZ hown (host := "") (Or.inl (ow hw 69 rfl)) Via.refl eh_5 F_coder_a (g := (mkF mM 54 (lc4 a) [(.ref a), (.int (41 : Int32))])) rfl rfl (hb hby d_jdk_68m10_54)
  obtain ⟨fs, hr, hrun, hended, hW, hsame⟩ := X_6.leave (v := some (.int (41 : Int32))) (fun h => by rw [Bd.returns] at h; cases h)
  refine ⟨_, _, pre0 _ ?_, hrun, hended, _, _, rfl, ?_, ⟨_, rfl⟩, hW, hsame.mono (by decide) (by decide)⟩
  · show oS pP eE below s₁ (mkF mM 0 (lc0 a) []) _
    refine XS.aloadN X0.here hx rfl (hb hby d_jdk_68m10_0) rfl rfl ?_
    show oS pP eE below s₁ (mkF mM 1 (lc0 a) [(.ref a)]) _
    refine st_1 _ ?_
    show oS pP eE below T_1 (mkF mM 4 (lc0 a) [(.ref d)]) _
    refine X_1.arraylength hx (by rw [e_1]; exact Ar_2.1) (State.isArrayOf_alike hZ.alike Ar_2.2.1) (g := (mkF mM 4 (lc0 a) [(.ref d)])) rfl rfl (hb hby d_jdk_68m10_4) _ ?_
    rw [len_of Sa_2 Na_2]
    refine XS.istoreN X_1.here hx rfl (hb hby d_jdk_68m10_5) rfl (l' := (lc1 a)) rfl ?_
    refine XS.iloadN X_1.here hx rfl (hb hby d_jdk_68m10_6) rfl ?_
    refine XS.aloadN X_1.here hx rfl (hb hby d_jdk_68m10_7) rfl rfl ?_
    show oS pP eE below T_1 (mkF mM 8 (lc1 a) [(.ref a), (.int (41 : Int32))]) _
    refine st_3 _ ?_
    show oS pP eE below T_3 (mkF mM 11 (lc1 a) [(.int (0 : Int32)), (.int (41 : Int32))]) _
    refine XT.ishl X_3.here hx rfl (hb hby d_jdk_68m10_11) rfl ?_
    show oS pP eE below T_3 (mkF mM 12 (lc1 a) [(.int ((41 : Int32) <<< ((0 : Int32) &&& 31)))]) _
    rw [(by decide : ((41 : Int32) <<< ((0 : Int32) &&& 31)) = (41 : Int32))]
    refine XS.istoreN X_3.here hx rfl (hb hby d_jdk_68m10_12) rfl (l' := (lc2 a)) rfl ?_
    refine XS.iloadN X_3.here hx rfl (hb hby d_jdk_68m10_13) rfl ?_
    refine XS.iloadN X_3.here hx rfl (hb hby d_jdk_68m10_14) rfl ?_
    show oS pP eE below T_3 (mkF mM 15 (lc2 a) [(.int (16 : Int32)), (.int (41 : Int32))]) _
    refine XS.isub X_3.here hx rfl (hb hby d_jdk_68m10_15) rfl ?_
    show oS pP eE below T_3 (mkF mM 16 (lc2 a) [(.int ((41 : Int32) - (16 : Int32)))]) _
    rw [(by decide : ((41 : Int32) - (16 : Int32)) = (25 : Int32))]
    refine XS.istore X_3.here hx rfl (hb hby d_jdk_68m10_16) rfl (l' := (lc3 a)) rfl ?_
    refine XS.iloadN X_3.here hx rfl (hb hby d_jdk_68m10_18) rfl ?_
    refine XS.iload X_3.here hx rfl (hb hby d_jdk_68m10_19) rfl ?_
    show oS pP eE below T_3 (mkF mM 21 (lc3 a) [(.int (25 : Int32)), (.int (16 : Int32))]) _
    refine XS.iloadN X_3.here hx rfl (hb hby d_jdk_68m10_21) rfl ?_
    refine XS.iconst X_3.here hx rfl (hb hby d_jdk_68m10_22) ?_
    refine XS.aloadN X_3.here hx rfl (hb hby d_jdk_68m10_23) rfl rfl ?_
    show oS pP eE below T_3 (mkF mM 24 (lc3 a) [(.ref a), (.int (2 : Int32)), (.int (16 : Int32)), (.int (25 : Int32)), (.int (16 : Int32))]) _
    refine st_4 _ ?_
    show oS pP eE below T_4 (mkF mM 27 (lc3 a) [(.int (0 : Int32)), (.int (2 : Int32)), (.int (16 : Int32)), (.int (25 : Int32)), (.int (16 : Int32))]) _
    refine XT.ishl X_4.here hx rfl (hb hby d_jdk_68m10_27) rfl ?_
    show oS pP eE below T_4 (mkF mM 28 (lc3 a) [(.int ((2 : Int32) <<< ((0 : Int32) &&& 31))), (.int (16 : Int32)), (.int (25 : Int32)), (.int (16 : Int32))]) _
    rw [(by decide : ((2 : Int32) <<< ((0 : Int32) &&& 31)) = (2 : Int32))]
    show oS pP eE below T_4 (mkF mM 28 (lc3 a) [(.int (2 : Int32)), (.int (16 : Int32)), (.int (25 : Int32)), (.int (16 : Int32))]) _
    refine XS.iadd X_4.here hx rfl (hb hby d_jdk_68m10_28) rfl ?_
    show oS pP eE below T_4 (mkF mM 29 (lc3 a) [(.int ((16 : Int32) + (2 : Int32))), (.int (25 : Int32)), (.int (16 : Int32))]) _
    rw [(by decide : ((16 : Int32) + (2 : Int32)) = (18 : Int32))]
    show oS pP eE below T_4 (mkF mM 29 (lc3 a) [(.int (18 : Int32)), (.int (25 : Int32)), (.int (16 : Int32))]) _
    refine st_5 _ ?_
    show oS pP eE below T_5 (mkF mM 32 (lc3 a) [(.int (41 : Int32))]) _
    refine XS.istore X_5.here hx rfl (hb hby d_jdk_68m10_32) rfl (l' := (lc4 a)) rfl ?_
    refine XS.iload X_5.here hx rfl (hb hby d_jdk_68m10_34) rfl ?_
    show oS pP eE below T_5 (mkF mM 36 (lc4 a) [(.int (41 : Int32))]) _
    refine X_5.ldcI hx hown (mvT hZ (ow hw 112 rfl)) (g := (mkF mM 36 (lc4 a) [(.int (41 : Int32))])) rfl (hb hby d_jdk_68m10_36) ?_
    refine XS.icmpYes X_5.here hx rfl (pc0 := 38) (pc' := 51) rfl (hb hby d_jdk_68m10_38) rfl (by decide) (by decide) (by decide) ?_
    refine XS.iload X_5.here hx rfl (hb hby d_jdk_68m10_51) rfl ?_
    refine XS.aloadN X_5.here hx rfl (hb hby d_jdk_68m10_53) rfl rfl ?_
    show oS pP eE below T_5 (mkF mM 54 (lc4 a) [(.ref a), (.int (41 : Int32))]) _
    refine st_6 _ ?_
    show oS pP eE below T_6 (mkF mM 57 (lc4 a) [(.int (0 : Int32)), (.int (41 : Int32))]) _
    refine XT.ishr X_6.here hx rfl (hb hby d_jdk_68m10_57) rfl ?_
    show oS pP eE below T_6 (mkF mM 58 (lc4 a) [(.int ((41 : Int32) >>> ((0 : Int32) &&& 31)))]) _
    rw [(by decide : ((41 : Int32) >>> ((0 : Int32) &&& 31)) = (41 : Int32))]
    show oS pP eE below T_6 (mkF mM 58 (lc4 a) [(.int (41 : Int32))]) _
    exact retI X_6 hx Bd.returns (hb hby d_jdk_68m10_58) hr
  · show Q_nc41 Z a d k h0 n0 _ T_6.heap _
    rw [e_6]
    exact ⟨rfl, N_5, rfl⟩
theorem d_jdk_65m121_0 : decode jdk_65_method_121_code 0 = .ok (.iload_n 1, 1) := by decide +kernel
theorem d_jdk_65m121_1 : decode jdk_65_method_121_code 1 = .ok (.aload_n 0, 1) := by decide +kernel
theorem d_jdk_65m121_2 : decode jdk_65_method_121_code 2 = .ok (.arraylength, 1) := by decide +kernel
theorem d_jdk_65m121_3 : decode jdk_65_method_121_code 3 = .ok (.if_icmp .ne 11, 3) := by decide +kernel
theorem d_jdk_65m121_14 : decode jdk_65_method_121_code 14 = .ok (.iload_n 1, 1) := by decide +kernel
theorem d_jdk_65m121_15 : decode jdk_65_method_121_code 15 = .ok (.newarray .byte, 2) := by decide +kernel
theorem d_jdk_65m121_17 : decode jdk_65_method_121_code 17 = .ok (.astore_n 2, 1) := by decide +kernel
theorem d_jdk_65m121_18 : decode jdk_65_method_121_code 18 = .ok (.aload_n 0, 1) := by decide +kernel
theorem d_jdk_65m121_19 : decode jdk_65_method_121_code 19 = .ok (.iconst 0, 1) := by decide +kernel
theorem d_jdk_65m121_20 : decode jdk_65_method_121_code 20 = .ok (.aload_n 2, 1) := by decide +kernel
theorem d_jdk_65m121_21 : decode jdk_65_method_121_code 21 = .ok (.iconst 0, 1) := by decide +kernel
theorem d_jdk_65m121_22 : decode jdk_65_method_121_code 22 = .ok (.aload_n 0, 1) := by decide +kernel
theorem d_jdk_65m121_23 : decode jdk_65_method_121_code 23 = .ok (.arraylength, 1) := by decide +kernel
theorem d_jdk_65m121_24 : decode jdk_65_method_121_code 24 = .ok (.iload_n 1, 1) := by decide +kernel
theorem d_jdk_65m121_25 : decode jdk_65_method_121_code 25 = .ok (.invokestatic 304, 3) := by decide +kernel
abbrev MN7 : MethodName := ⟨"java/lang/Math", "min", "(II)I"⟩
theorem d_jdk_65m121_28 : decode jdk_65_method_121_code 28 = .ok (.invokestatic 150, 3) := by decide +kernel
theorem d_jdk_65m121_31 : decode jdk_65_method_121_code 31 = .ok (.aload_n 2, 1) := by decide +kernel
theorem d_jdk_65m121_32 : decode jdk_65_method_121_code 32 = .ok (.areturn, 1) := by decide +kernel
theorem pn_6 : plainName "java/util/Arrays" = true := by first | (simp [plainName, overriddenIn]; done) | decide +kernel
theorem ef_cpo41 (mM : MethodId) (x0 : Addr) (x1 : Int32) : entryFrame mM #[(.ref x0), (.int x1)] 3 = mkF mM 0 #[.val (.ref x0), .val (.int x1), .unset] [] := by first | (simp [entryFrame, mkF, argsToLocals, Value.category]; done) | rfl
def Q_cpo41 (Z : State) (d : Addr) (k : ClassId) (h0 : Heap) (n0 : Nat) (v_ : Option Value) (h_ : Heap) (L_ : List Loc) : Prop := ∃ e : Addr, ∃ kk : ClassId, v_ = some (.ref e) ∧ Fr n0 L_ ∧ Keep h0 h_ [] ∧ h0.size ≤ e ∧ Arv Z h_ e kk .byte (41 : Int32) [(.int (0 : Int32)), (.int (0 : Int32)), (.int (0 : Int32)), (.int (0 : Int32)), (.int (0 : Int32)), (.int (0 : Int32)), (.int (0 : Int32)), (.int (0 : Int32)), (.int (0 : Int32)), (.int (0 : Int32)), (.int (0 : Int32)), (.int (0 : Int32)), (.int (0 : Int32)), (.int (0 : Int32)), (.int (0 : Int32)), (.int (0 : Int32)), (.int (0 : Int32)), (.int (0 : Int32)), (.int (0 : Int32)), (.int (0 : Int32)), (.int (0 : Int32)), (.int (0 : Int32)), (.int (0 : Int32)), (.int (0 : Int32)), (.int (0 : Int32)), (.int (0 : Int32)), (.int (0 : Int32)), (.int (0 : Int32)), (.int (0 : Int32)), (.int (0 : Int32)), (.int (0 : Int32)), (.int (0 : Int32)), (.int (0 : Int32)), (.int (0 : Int32)), (.int (0 : Int32)), (.int (0 : Int32)), (.int (0 : Int32)), (.int (0 : Int32)), (.int (0 : Int32)), (.int (0 : Int32)), (.int (0 : Int32))] (.int (0 : Int32))
set_option maxRecDepth 65536 in
set_option maxHeartbeats 40000000 in
theorem rm_cpo41 (l : Launch) (Z : State) (a0 : Array Value) (hw : ∀ d ∈ tables_1, d.before a0 Z = true) (ws : List Jvm.Cond) (d : Addr) (k : ClassId) (h0 : Heap) (n0 : Nat) (Z0 : n0 ≤ h0.size) (V_d : Arv Z h0 d k .byte (16 : Int32) [] (.int (0 : Int32))) :
    MetFree l (⟨"java/util/Arrays", "copyOf", "([BI)[B"⟩ : MethodName) (head1 (Jvm.Cond.code (⟨"java/util/Arrays", "copyOf", "([BI)[B"⟩ : MethodName) jdk_65_method_121_code 3 (some (.array .byte)) :: ws) ({ frames := 1, cells := 1, slots := 41, locals := 18 } : Room)) (fun aa_ U_ => aa_ = #[(.ref d), (.int (41 : Int32))] ∧ Z.Warmed39 U_.vm ∧ U_.heap = h0) (fun _ _ _ _ _ => True) (fun _ U_ o_ U'_ => ∃ v_ L_, o_ = .returned v_ ∧ Q_cpo41 Z d k h0 n0 v_ U'_.heap L_ ∧ FrameEnd U_ o_ U'_ L_ ({ frames := 1, cells := 1, slots := 41, locals := 18 } : Room).cells ({ frames := 1, cells := 1, slots := 41, locals := 18 } : Room).slots) := by
  refine MetFree.of_bodySF (plainFor_of_name pn_6) hisR ?_
  intro pP eE sS mM argsA below meth cC s₁ Bd hml0 hP hK
  obtain ⟨rfl, hZ, hh⟩ := hP
  have hx := Bd.exec
  have hby := Bd.bytes
  have hml : cC.maxLocals = 3 := hml0
  have hown : sS.vm.findClass "java/util/Arrays" = some mM.cls := findClass_of_methodNamed Bd.named
  have hnm := (name_of_methodNamed Bd.named Bd.method).1
  have X0 : Stand pP l eE ({ frames := 1, cells := 1, slots := 41, locals := 18 } : Room) sS mM #[(.ref d), (.int (41 : Int32))] below meth cC s₁ [] 0 0 := Stand.of_body Bd
  have e0 : s₁.heap = h0 := by rw [← hh, Bd.state]; rfl
  have N0 := Fr.nil n0
  have pre0 : ∀ t_, Steps pP.tables eE below (s₁.setTop (mkF mM 0 #[.val (.ref d), .val (.int (41 : Int32)), .unset] [])) t_ → Steps pP.tables eE below (s₁.setTop (entryFrame mM #[(.ref d), (.int (41 : Int32))] 3)) t_ := fun t_ k_ => castTop (ef_cpo41 mM d (41 : Int32)) k_
  obtain ⟨cl_1, Ar_1, -, Sa_1, Na_1, -, -⟩ := id V_d
  obtain ⟨T_2, h_2, k_2, X_2, e_2, E_2, A_2, st_2⟩ := newP X0 hx hZ (ow hw 36 rfl) e0 (g := (mkF mM 15 #[.val (.ref d), .val (.int (41 : Int32)), .unset] [(.int (41 : Int32))])) rfl (hb hby d_jdk_65m121_15) rfl (by decide) (cap := 41) (by decide) (by decide) (by decide) (by decide)
  obtain ⟨b_2, g_2⟩ : ∃ z, z = h0.size := ⟨_, rfl⟩
  rw [← g_2] at A_2 st_2
  have g_b_2 : n0 ≤ b_2 := Nat.le_trans Z0 (Nat.le_of_eq g_2.symm)
  have sz_b_2 : h0.size ≤ b_2 := Nat.le_trans (Keep.refl h0 []).1 (Nat.le_of_eq g_2.symm)
  have Z_2 : n0 ≤ h_2.size := (Nat.le_trans Z0 E_2.1)
  have K_2 : Keep h0 h_2 [] := (Keep.refl h0 []).ext E_2
  have V_b_2 : Arv Z h_2 b_2 k_2 .byte (41 : Int32) [(.int (0 : Int32)), (.int (0 : Int32)), (.int (0 : Int32)), (.int (0 : Int32)), (.int (0 : Int32)), (.int (0 : Int32)), (.int (0 : Int32)), (.int (0 : Int32)), (.int (0 : Int32)), (.int (0 : Int32)), (.int (0 : Int32)), (.int (0 : Int32)), (.int (0 : Int32)), (.int (0 : Int32)), (.int (0 : Int32)), (.int (0 : Int32)), (.int (0 : Int32)), (.int (0 : Int32)), (.int (0 : Int32)), (.int (0 : Int32)), (.int (0 : Int32)), (.int (0 : Int32)), (.int (0 : Int32)), (.int (0 : Int32)), (.int (0 : Int32)), (.int (0 : Int32)), (.int (0 : Int32)), (.int (0 : Int32)), (.int (0 : Int32)), (.int (0 : Int32)), (.int (0 : Int32)), (.int (0 : Int32)), (.int (0 : Int32)), (.int (0 : Int32)), (.int (0 : Int32)), (.int (0 : Int32)), (.int (0 : Int32)), (.int (0 : Int32)), (.int (0 : Int32)), (.int (0 : Int32)), (.int (0 : Int32))] (.int (0 : Int32)) := (Arv.new A_2 (by decide)).pad (pad_rep [] (.int (0 : Int32)) 41)
  obtain ⟨cl_3, Ar_3, -, Sa_3, Na_3, -, -⟩ := id (V_d.ext E_2)
  obtain ⟨_, _, ⟨T_4, L_4, k_4, n_4⟩, -, X_4, ⟨Lc_4, hQ_4, l_4, y_4, z_4⟩, st_4⟩ := Jvm.LawKit.callS X_2 hx (y := MN7) hown (mvT hZ (ow hw 117 rfl)) (mvT hZ (ow hw 118 rfl)) (mvT hZ (ow hw 109 rfl)) (mvT hZ (ow hw 119 rfl)) (by decide) (backOf (W := 4) (rm_min_16_41 l Z a0 hw []  h_2 n0 Z_2 ) hZ (ow hw 119 rfl) (ow hw 109 rfl) (by decide) (by decide)) (g := (mkF mM 25 #[.val (.ref d), .val (.int (41 : Int32)), .val (.ref b_2)] [(.int (41 : Int32)), (.int (16 : Int32)), (.int (0 : Int32)), (.ref b_2), (.int (0 : Int32)), (.ref d)])) rfl (by rw [hml]; rfl) (argsL := [(.int (16 : Int32)), (.int (41 : Int32))]) (rest := [(.int (0 : Int32)), (.ref b_2), (.int (0 : Int32)), (.ref d)]) (lenOf pd_5 rfl) rfl (by show 2 * 0 + _ ≤ _; exact Nat.le_of_eq rfl) (hb hby d_jdk_65m121_25) (fun _ _ => ⟨rfl, e_2, (by decide : 1 + 0 ≤ _), (by decide : 41 + 0 ≤ _)⟩)
  dsimp only [Pt.U, Pt.locs, Pt.cells, Pt.slots] at X_4 l_4 y_4 z_4 st_4 hQ_4
  subst l_4 y_4 z_4
  obtain ⟨rfl, N_4q, eh_4⟩ := hQ_4
  have N_4 := Fr.app N0 N_4q
  obtain ⟨T_5, h_5, L_5, X_5, e_5, N_5, Kc_5, V_5, st_5⟩ := cpA X_4 hx hZ hown (ow hw 120 rfl) (ow hw 123 rfl) (ow hw 121 rfl) (ow hw 122 rfl) eh_4 (V_d.ext E_2) V_b_2 (Or.inl ⟨rfl, rfl⟩) (sp := (0 : Int32)) (dp := (0 : Int32)) (nn := (16 : Int32)) (us := [(.int (0 : Int32)), (.int (0 : Int32)), (.int (0 : Int32)), (.int (0 : Int32)), (.int (0 : Int32)), (.int (0 : Int32)), (.int (0 : Int32)), (.int (0 : Int32)), (.int (0 : Int32)), (.int (0 : Int32)), (.int (0 : Int32)), (.int (0 : Int32)), (.int (0 : Int32)), (.int (0 : Int32)), (.int (0 : Int32)), (.int (0 : Int32))]) (by decide) (by decide) (by decide) (by decide) (by decide) rfl (by decide) N_4 g_b_2 (g := (mkF mM 28 #[.val (.ref d), .val (.int (41 : Int32)), .val (.ref b_2)] [(.int (16 : Int32)), (.int (0 : Int32)), (.ref b_2), (.int (0 : Int32)), (.ref d)])) rfl (by rw [hml]; rfl) rfl (hb hby d_jdk_65m121_28) (by decide) (W := 0) (by show 2 * 0 + _ ≤ _; exact Nat.le_of_eq rfl) (by decide)
  have Z_5 : n0 ≤ h_5.size := (Nat.le_trans Z_2 Kc_5.1)
  have K_5 : Keep h0 h_5 [] := K_2.trans Kc_5 (allS (Or.inr sz_b_2) all0)
  have Va_5 : Arv Z h_5 b_2 k_2 .byte (41 : Int32) [(.int (0 : Int32)), (.int (0 : Int32)), (.int (0 : Int32)), (.int (0 : Int32)), (.int (0 : Int32)), (.int (0 : Int32)), (.int (0 : Int32)), (.int (0 : Int32)), (.int (0 : Int32)), (.int (0 : Int32)), (.int (0 : Int32)), (.int (0 : Int32)), (.int (0 : Int32)), (.int (0 : Int32)), (.int (0 : Int32)), (.int (0 : Int32)), (.int (0 : Int32)), (.int (0 : Int32)), (.int (0 : Int32)), (.int (0 : Int32)), (.int (0 : Int32)), (.int (0 : Int32)), (.int (0 : Int32)), (.int (0 : Int32)), (.int (0 : Int32)), (.int (0 : Int32)), (.int (0 : Int32)), (.int (0 : Int32)), (.int (0 : Int32)), (.int (0 : Int32)), (.int (0 : Int32)), (.int (0 : Int32)), (.int (0 : Int32)), (.int (0 : Int32)), (.int (0 : Int32)), (.int (0 : Int32)), (.int (0 : Int32)), (.int (0 : Int32)), (.int (0 : Int32)), (.int (0 : Int32)), (.int (0 : Int32))] (.int (0 : Int32)) := V_5
  obtain ⟨fs, hr, hrun, hended, hW, hsame⟩ := X_5.leave (v := some (.ref b_2)) (fun h => by rw [Bd.returns] at h; cases h)
  refine ⟨_, _, pre0 _ ?_, hrun, hended, _, _, rfl, ?_, ⟨_, rfl⟩, hW, hsame.mono (by decide) (by decide)⟩
  · show oS pP eE below s₁ (mkF mM 0 #[.val (.ref d), .val (.int (41 : Int32)), .unset] []) _
    refine XS.iloadN X0.here hx rfl (hb hby d_jdk_65m121_0) rfl ?_
    refine XS.aloadN X0.here hx rfl (hb hby d_jdk_65m121_1) rfl rfl ?_
    show oS pP eE below s₁ (mkF mM 2 #[.val (.ref d), .val (.int (41 : Int32)), .unset] [(.ref d), (.int (41 : Int32))]) _
    refine X0.arraylength hx (by rw [e0]; exact Ar_1.1) (State.isArrayOf_alike hZ.alike Ar_1.2.1) (g := (mkF mM 2 #[.val (.ref d), .val (.int (41 : Int32)), .unset] [(.ref d), (.int (41 : Int32))])) rfl rfl (hb hby d_jdk_65m121_2) _ ?_
    rw [len_of Sa_1 Na_1]
    refine XS.icmpYes X0.here hx rfl (pc0 := 3) (pc' := 14) rfl (hb hby d_jdk_65m121_3) rfl (by decide) (by decide) (by decide) ?_
    refine XS.iloadN X0.here hx rfl (hb hby d_jdk_65m121_14) rfl ?_
    show oS pP eE below s₁ (mkF mM 15 #[.val (.ref d), .val (.int (41 : Int32)), .unset] [(.int (41 : Int32))]) _
    refine st_2 _ ?_
    show oS pP eE below T_2 (mkF mM 17 #[.val (.ref d), .val (.int (41 : Int32)), .unset] [(.ref b_2)]) _
    refine XS.astoreN X_2.here hx rfl (hb hby d_jdk_65m121_17) rfl rfl (l' := #[.val (.ref d), .val (.int (41 : Int32)), .val (.ref b_2)]) rfl ?_
    refine XS.aloadN X_2.here hx rfl (hb hby d_jdk_65m121_18) rfl rfl ?_
    refine XS.iconst X_2.here hx rfl (hb hby d_jdk_65m121_19) ?_
    refine XS.aloadN X_2.here hx rfl (hb hby d_jdk_65m121_20) rfl rfl ?_
    show oS pP eE below T_2 (mkF mM 21 #[.val (.ref d), .val (.int (41 : Int32)), .val (.ref b_2)] [(.ref b_2), (.int (0 : Int32)), (.ref d)]) _
    refine XS.iconst X_2.here hx rfl (hb hby d_jdk_65m121_21) ?_
    refine XS.aloadN X_2.here hx rfl (hb hby d_jdk_65m121_22) rfl rfl ?_
    show oS pP eE below T_2 (mkF mM 23 #[.val (.ref d), .val (.int (41 : Int32)), .val (.ref b_2)] [(.ref d), (.int (0 : Int32)), (.ref b_2), (.int (0 : Int32)), (.ref d)]) _
    refine X_2.arraylength hx (by rw [e_2]; exact Ar_3.1) (State.isArrayOf_alike hZ.alike Ar_3.2.1) (g := (mkF mM 23 #[.val (.ref d), .val (.int (41 : Int32)), .val (.ref b_2)] [(.ref d), (.int (0 : Int32)), (.ref b_2), (.int (0 : Int32)), (.ref d)])) rfl rfl (hb hby d_jdk_65m121_23) _ ?_
    rw [len_of Sa_3 Na_3]
    refine XS.iloadN X_2.here hx rfl (hb hby d_jdk_65m121_24) rfl ?_
    show oS pP eE below T_2 (mkF mM 25 #[.val (.ref d), .val (.int (41 : Int32)), .val (.ref b_2)] [(.int (41 : Int32)), (.int (16 : Int32)), (.int (0 : Int32)), (.ref b_2), (.int (0 : Int32)), (.ref d)]) _
    refine st_4 _ ?_
    show oS pP eE below T_4 (mkF mM 28 #[.val (.ref d), .val (.int (41 : Int32)), .val (.ref b_2)] [(.int (16 : Int32)), (.int (0 : Int32)), (.ref b_2), (.int (0 : Int32)), (.ref d)]) _
    refine st_5 _ ?_
    show oS pP eE below T_5 (mkF mM 31 #[.val (.ref d), .val (.int (41 : Int32)), .val (.ref b_2)] []) _
    refine XS.aloadN X_5.here hx rfl (hb hby d_jdk_65m121_31) rfl rfl ?_
    show oS pP eE below T_5 (mkF mM 32 #[.val (.ref d), .val (.int (41 : Int32)), .val (.ref b_2)] [(.ref b_2)]) _
    exact retOut X_5 hx Bd.returns rfl (Or.inr (Or.inr (Or.inr (Or.inr ⟨rfl, rfl, rfl⟩)))) (hb hby d_jdk_65m121_32) hr
  · show Q_cpo41 Z d k h0 n0 _ T_5.heap _
    rw [e_5]
    exact ⟨b_2, k_2, rfl, N_5, K_5, sz_b_2, Va_5⟩
theorem d_jdk_68m9_0 : decode jdk_68_method_9_code 0 = .ok (.aload_n 0, 1) := by decide +kernel
theorem d_jdk_68m9_1 : decode jdk_68_method_9_code 1 = .ok (.getfield 15, 3) := by decide +kernel
theorem d_jdk_68m9_4 : decode jdk_68_method_9_code 4 = .ok (.arraylength, 1) := by decide +kernel
theorem d_jdk_68m9_5 : decode jdk_68_method_9_code 5 = .ok (.aload_n 0, 1) := by decide +kernel
theorem d_jdk_68m9_6 : decode jdk_68_method_9_code 6 = .ok (.getfield 22, 3) := by decide +kernel
theorem d_jdk_68m9_9 : decode jdk_68_method_9_code 9 = .ok (.ishr, 1) := by decide +kernel
theorem d_jdk_68m9_10 : decode jdk_68_method_9_code 10 = .ok (.istore_n 2, 1) := by decide +kernel
theorem d_jdk_68m9_11 : decode jdk_68_method_9_code 11 = .ok (.iload_n 1, 1) := by decide +kernel
theorem d_jdk_68m9_12 : decode jdk_68_method_9_code 12 = .ok (.iload_n 2, 1) := by decide +kernel
theorem d_jdk_68m9_13 : decode jdk_68_method_9_code 13 = .ok (.isub, 1) := by decide +kernel
theorem d_jdk_68m9_14 : decode jdk_68_method_9_code 14 = .ok (.ifCond .le 24, 3) := by decide +kernel
theorem d_jdk_68m9_17 : decode jdk_68_method_9_code 17 = .ok (.aload_n 0, 1) := by decide +kernel
theorem d_jdk_68m9_18 : decode jdk_68_method_9_code 18 = .ok (.aload_n 0, 1) := by decide +kernel
theorem d_jdk_68m9_19 : decode jdk_68_method_9_code 19 = .ok (.getfield 15, 3) := by decide +kernel
theorem d_jdk_68m9_22 : decode jdk_68_method_9_code 22 = .ok (.aload_n 0, 1) := by decide +kernel
theorem d_jdk_68m9_23 : decode jdk_68_method_9_code 23 = .ok (.iload_n 1, 1) := by decide +kernel
theorem d_jdk_68m9_24 : decode jdk_68_method_9_code 24 = .ok (.invokevirtual 104, 3) := by decide +kernel
theorem pd_7 : parseMethodDescriptor "(I)I" = some ⟨[.int], some .int⟩ := by decide +kernel
abbrev MN8 : MethodName := ⟨"java/lang/AbstractStringBuilder", "newCapacity", "(I)I"⟩
theorem d_jdk_68m9_27 : decode jdk_68_method_9_code 27 = .ok (.aload_n 0, 1) := by decide +kernel
theorem d_jdk_68m9_28 : decode jdk_68_method_9_code 28 = .ok (.getfield 22, 3) := by decide +kernel
theorem d_jdk_68m9_31 : decode jdk_68_method_9_code 31 = .ok (.ishl, 1) := by decide +kernel
theorem d_jdk_68m9_32 : decode jdk_68_method_9_code 32 = .ok (.invokestatic 108, 3) := by decide +kernel
theorem pd_8 : parseMethodDescriptor "([BI)[B" = some ⟨[(.array .byte), .int], some (.array .byte)⟩ := by decide +kernel
abbrev MN9 : MethodName := ⟨"java/util/Arrays", "copyOf", "([BI)[B"⟩
theorem d_jdk_68m9_35 : decode jdk_68_method_9_code 35 = .ok (.putfield 15, 3) := by decide +kernel
theorem d_jdk_68m9_38 : decode jdk_68_method_9_code 38 = .ok (.return_, 1) := by decide +kernel
theorem ef_ens41 (mM : MethodId) (x0 : Addr) (x1 : Int32) : entryFrame mM #[(.ref x0), (.int x1)] 3 = mkF mM 0 #[.val (.ref x0), .val (.int x1), .unset] [] := by first | (simp [entryFrame, mkF, argsToLocals, Value.category]; done) | rfl
def Q_ens41 (Z : State) (a : Addr) (d : Addr) (k : ClassId) (h0 : Heap) (n0 : Nat) (v_ : Option Value) (h_ : Heap) (L_ : List Loc) : Prop := ∃ e : Addr, ∃ kk : ClassId, v_ = none ∧ Fr n0 L_ ∧ Keep h0 h_ [a] ∧ h0.size ≤ e ∧ Fld Z h_ a "java/lang/AbstractStringBuilder" "value" "[B" (.ref e) ∧ Fld Z h_ a "java/lang/AbstractStringBuilder" "coder" "B" (.int (0 : Int32)) ∧ Fld Z h_ a "java/lang/AbstractStringBuilder" "count" "I" (.int (0 : Int32)) ∧ Exa Z h_ a "java/lang/StringBuilder" ∧ Arv Z h_ e kk .byte (41 : Int32) [(.int (0 : Int32)), (.int (0 : Int32)), (.int (0 : Int32)), (.int (0 : Int32)), (.int (0 : Int32)), (.int (0 : Int32)), (.int (0 : Int32)), (.int (0 : Int32)), (.int (0 : Int32)), (.int (0 : Int32)), (.int (0 : Int32)), (.int (0 : Int32)), (.int (0 : Int32)), (.int (0 : Int32)), (.int (0 : Int32)), (.int (0 : Int32)), (.int (0 : Int32)), (.int (0 : Int32)), (.int (0 : Int32)), (.int (0 : Int32)), (.int (0 : Int32)), (.int (0 : Int32)), (.int (0 : Int32)), (.int (0 : Int32)), (.int (0 : Int32)), (.int (0 : Int32)), (.int (0 : Int32)), (.int (0 : Int32)), (.int (0 : Int32)), (.int (0 : Int32)), (.int (0 : Int32)), (.int (0 : Int32)), (.int (0 : Int32)), (.int (0 : Int32)), (.int (0 : Int32)), (.int (0 : Int32)), (.int (0 : Int32)), (.int (0 : Int32)), (.int (0 : Int32)), (.int (0 : Int32)), (.int (0 : Int32))] (.int (0 : Int32))
set_option maxRecDepth 65536 in
set_option maxHeartbeats 40000000 in
theorem rm_ens41 (l : Launch) (Z : State) (a0 : Array Value) (hw : ∀ d ∈ tables_1, d.before a0 Z = true) (ws : List Jvm.Cond) (a : Addr) (d : Addr) (k : ClassId) (h0 : Heap) (n0 : Nat) (Z0 : n0 ≤ h0.size) (F_value_a : Fld Z h0 a "java/lang/AbstractStringBuilder" "value" "[B" (.ref d)) (F_coder_a : Fld Z h0 a "java/lang/AbstractStringBuilder" "coder" "B" (.int (0 : Int32))) (F_count_a : Fld Z h0 a "java/lang/AbstractStringBuilder" "count" "I" (.int (0 : Int32))) (E_a : Exa Z h0 a "java/lang/StringBuilder") (V_d : Arv Z h0 d k .byte (16 : Int32) [] (.int (0 : Int32))) (g_a : n0 ≤ a) :
    MetFree l (⟨"java/lang/AbstractStringBuilder", "ensureCapacityInternal", "(I)V"⟩ : MethodName) (head1 (Jvm.Cond.code (⟨"java/lang/AbstractStringBuilder", "ensureCapacityInternal", "(I)V"⟩ : MethodName) jdk_68_method_9_code 3 none :: ws) ({ frames := 3, cells := 1, slots := 41, locals := 48 } : Room)) (fun aa_ U_ => aa_ = #[(.ref a), (.int (41 : Int32))] ∧ Z.Warmed39 U_.vm ∧ U_.heap = h0) (fun _ _ _ _ _ => True) (fun _ U_ o_ U'_ => ∃ v_ L_, o_ = .returned v_ ∧ Q_ens41 Z a d k h0 n0 v_ U'_.heap L_ ∧ FrameEnd U_ o_ U'_ L_ ({ frames := 3, cells := 1, slots := 41, locals := 48 } : Room).cells ({ frames := 3, cells := 1, slots := 41, locals := 48 } : Room).slots) := by
  refine MetFree.of_bodySF (plainFor_of_name pn_3) hisR ?_
  intro pP eE sS mM argsA below meth cC s₁ Bd hml0 hP hK
  obtain ⟨rfl, hZ, hh⟩ := hP
  have hx := Bd.exec
  have hby := Bd.bytes
  have hml : cC.maxLocals = 3 := hml0
  have hown : sS.vm.findClass "java/lang/AbstractStringBuilder" = some mM.cls := findClass_of_methodNamed Bd.named
  have hnm := (name_of_methodNamed Bd.named Bd.method).1
  have X0 : Stand pP l eE ({ frames := 3, cells := 1, slots := 41, locals := 48 } : Room) sS mM #[(.ref a), (.int (41 : Int32))] below meth cC s₁ [] 0 0 := Stand.of_body Bd
  have e0 : s₁.heap = h0 := by rw [← hh, Bd.state]; rfl
  have N0 := Fr.nil n0
  have pre0 : ∀ t_, Steps pP.tables eE below (s₁.setTop (mkF mM 0 #[.val (.ref a), .val (.int (41 : Int32)), .unset] [])) t_ → Steps pP.tables eE below (s₁.setTop (entryFrame mM #[(.ref a), (.int (41 : Int32))] 3)) t_ := fun t_ k_ => castTop (ef_ens41 mM a (41 : Int32)) k_
  obtain ⟨T_1, X_1, e_1, st_1⟩ := getF X0 hx hZ hown (host := "") (Or.inl (ow hw 67 rfl)) Via.refl e0 F_value_a (g := (mkF mM 1 #[.val (.ref a), .val (.int (41 : Int32)), .unset] [(.ref a)])) rfl rfl (hb hby d_jdk_68m9_1)
  obtain ⟨cl_2, Ar_2, -, Sa_2, Na_2, -, -⟩ := id V_d
  obtain ⟨T_3, X_3, e_3, st_3⟩ := getF X_1 hx hZ hown (host := "") (Or.inl (ow hw 69 rfl)) Via.refl e_1 F_coder_a (g := (mkF mM 6 #[.val (.ref a), .val (.int (41 : Int32)), .unset] [(.ref a), (.int (16 : Int32))])) rfl rfl (hb hby d_jdk_68m9_6)
  obtain ⟨T_4, X_4, e_4, st_4⟩ := getF X_3 hx hZ hown (host := "") (Or.inl (ow hw 67 rfl)) Via.refl e_3 F_value_a (g := (mkF mM 19 #[.val (.ref a), .val (.int (41 : Int32)), .val (.int (16 : Int32))] [(.ref a), (.ref a)])) rfl rfl (hb hby d_jdk_68m9_19)
  obtain ⟨cq_5, kq_5, q_5a, q_5b, q_5c⟩ := isOf hZ e_4 E_a
  obtain ⟨_, _, ⟨T_5, L_5, k_5, n_5⟩, -, X_5, ⟨Lc_5, hQ_5, l_5, y_5, z_5⟩, st_5⟩ := X_4.virtualBack hx (y := MN8) (z := MN8) hown (mvT hZ (ow hw 98 rfl)) (own_decl (mvT hZ (ow hw 99 rfl)) (mvT hZ (ow hw 102 rfl))) (notFace_of_selects (args := #[]) (mvT hZ (ow hw 101 rfl))) (mvT hZ (ow hw 101 rfl)) (mvT hZ (ow hw 99 rfl)) (by decide) (backOf (W := 2) (rm_nc41 l Z a0 hw [] a d k h0 n0 Z0 F_value_a F_coder_a F_count_a E_a V_d) hZ (ow hw 102 rfl) (ow hw 63 rfl) (by decide) (by decide)) q_5a q_5c (g := (mkF mM 24 #[.val (.ref a), .val (.int (41 : Int32)), .val (.int (16 : Int32))] [(.int (41 : Int32)), (.ref a), (.ref d), (.ref a)])) rfl (by rw [hml]; rfl) (Steps.refl _) (argsL := [(.int (41 : Int32))]) (rest := [(.ref d), (.ref a)]) (lenOf pd_7 rfl) rfl (by show 2 * 0 + _ ≤ _; exact Nat.le_of_eq rfl) (hb hby d_jdk_68m9_24) (fun _ _ => ⟨rfl, e_4, (by decide : 0 + 0 ≤ _), (by decide : 0 + 0 ≤ _)⟩)
  dsimp only [Pt.U, Pt.locs, Pt.cells, Pt.slots] at X_5 l_5 y_5 z_5 st_5 hQ_5
  subst l_5 y_5 z_5
  obtain ⟨rfl, N_5q, eh_5⟩ := hQ_5
  have N_5 := Fr.app N0 N_5q
  obtain ⟨T_6, X_6, e_6, st_6⟩ := getF X_5 hx hZ hown (host := "") (Or.inl (ow hw 69 rfl)) Via.refl eh_5 F_coder_a (g := (mkF mM 28 #[.val (.ref a), .val (.int (41 : Int32)), .val (.int (16 : Int32))] [(.ref a), (.int (41 : Int32)), (.ref d), (.ref a)])) rfl rfl (hb hby d_jdk_68m9_28)
  obtain ⟨_, _, ⟨T_7, L_7, k_7, n_7⟩, -, X_7, ⟨Lc_7, hQ_7, l_7, y_7, z_7⟩, st_7⟩ := Jvm.LawKit.callS X_6 hx (y := MN9) hown (mvT hZ (ow hw 113 rfl)) (mvT hZ (ow hw 114 rfl)) (mvT hZ (ow hw 115 rfl)) (mvT hZ (ow hw 116 rfl)) (by decide) (backOf (W := 1) (rm_cpo41 l Z a0 hw [] d k h0 n0 Z0 V_d) hZ (ow hw 116 rfl) (ow hw 115 rfl) (by decide) (by decide)) (g := (mkF mM 32 #[.val (.ref a), .val (.int (41 : Int32)), .val (.int (16 : Int32))] [(.int (41 : Int32)), (.ref d), (.ref a)])) rfl (by rw [hml]; rfl) (argsL := [(.ref d), (.int (41 : Int32))]) (rest := [(.ref a)]) (lenOf pd_8 rfl) rfl (by show 2 * 0 + _ ≤ _; exact Nat.le_of_eq rfl) (hb hby d_jdk_68m9_32) (fun _ _ => ⟨rfl, e_6, (by decide : 0 + 1 ≤ _), (by decide : 0 + 41 ≤ _)⟩)
  dsimp only [Pt.U, Pt.locs, Pt.cells, Pt.slots] at X_7 l_7 y_7 z_7 st_7 hQ_7
  subst l_7 y_7 z_7
  obtain ⟨e__7, ⟨kk__7, ⟨rfl, N_7q, Kc_7, pfsz_e_7, pfV_e_7⟩⟩⟩ := hQ_7
  have Z_7 : n0 ≤ T_7.heap.size := (Nat.le_trans Z0 Kc_7.1)
  have K_7 : Keep h0 T_7.heap [a] := (Keep.refl h0 [a]).trans Kc_7 all0
  have sz_e__7 : h0.size ≤ e__7 := Nat.le_trans (Keep.refl h0 [a]).1 pfsz_e_7
  have g_e__7 : n0 ≤ e__7 := Nat.le_trans Z0 pfsz_e_7
  have N_7 := Fr.app N_5 N_7q
  obtain ⟨T_8, h_8, X_8, e_8, W_8, st_8⟩ := putF X_7 hx hZ hown (host := "") (Or.inl (ow hw 67 rfl)) Via.refl rfl (F_value_a.keep Kc_7 nin0) (E_a.keep Kc_7) (Or.inl (ow hw 68 rfl)) (ow hw 54 rfl) (ty := (.array .byte)) (by decide) rfl rfl (g := (mkF mM 35 #[.val (.ref a), .val (.int (41 : Int32)), .val (.int (16 : Int32))] [(.ref e__7), (.ref a)])) rfl rfl (hb hby d_jdk_68m9_35)
  have Fw_8 := (F_value_a.keep Kc_7 nin0).same W_8
  have Z_8 : n0 ≤ h_8.size := (Nat.le_trans Z_7 (Keep.of_wr W_8).1)
  have K_8 : Keep h0 h_8 [a] := K_7.wr W_8 (Or.inl (List.mem_of_getElem? (i := 0) rfl))
  have N_8 := Fr.snoc X_8 N_7 g_a
  obtain ⟨fs, hr, hrun, hended, hW, hsame⟩ := X_8.leave (v := none) (fun _ => rfl)
  refine ⟨_, _, pre0 _ ?_, hrun, hended, _, _, rfl, ?_, ⟨_, rfl⟩, hW, hsame.mono (by decide) (by decide)⟩
  · show oS pP eE below s₁ (mkF mM 0 #[.val (.ref a), .val (.int (41 : Int32)), .unset] []) _
    refine XS.aloadN X0.here hx rfl (hb hby d_jdk_68m9_0) rfl rfl ?_
    show oS pP eE below s₁ (mkF mM 1 #[.val (.ref a), .val (.int (41 : Int32)), .unset] [(.ref a)]) _
    refine st_1 _ ?_
    show oS pP eE below T_1 (mkF mM 4 #[.val (.ref a), .val (.int (41 : Int32)), .unset] [(.ref d)]) _
    refine X_1.arraylength hx (by rw [e_1]; exact Ar_2.1) (State.isArrayOf_alike hZ.alike Ar_2.2.1) (g := (mkF mM 4 #[.val (.ref a), .val (.int (41 : Int32)), .unset] [(.ref d)])) rfl rfl (hb hby d_jdk_68m9_4) _ ?_
    rw [len_of Sa_2 Na_2]
    refine XS.aloadN X_1.here hx rfl (hb hby d_jdk_68m9_5) rfl rfl ?_
    show oS pP eE below T_1 (mkF mM 6 #[.val (.ref a), .val (.int (41 : Int32)), .unset] [(.ref a), (.int (16 : Int32))]) _
    refine st_3 _ ?_
    show oS pP eE below T_3 (mkF mM 9 #[.val (.ref a), .val (.int (41 : Int32)), .unset] [(.int (0 : Int32)), (.int (16 : Int32))]) _
    refine XT.ishr X_3.here hx rfl (hb hby d_jdk_68m9_9) rfl ?_
    show oS pP eE below T_3 (mkF mM 10 #[.val (.ref a), .val (.int (41 : Int32)), .unset] [(.int ((16 : Int32) >>> ((0 : Int32) &&& 31)))]) _
    rw [(by decide : ((16 : Int32) >>> ((0 : Int32) &&& 31)) = (16 : Int32))]
    refine XS.istoreN X_3.here hx rfl (hb hby d_jdk_68m9_10) rfl (l' := #[.val (.ref a), .val (.int (41 : Int32)), .val (.int (16 : Int32))]) rfl ?_
    refine XS.iloadN X_3.here hx rfl (hb hby d_jdk_68m9_11) rfl ?_
    refine XS.iloadN X_3.here hx rfl (hb hby d_jdk_68m9_12) rfl ?_
    show oS pP eE below T_3 (mkF mM 13 #[.val (.ref a), .val (.int (41 : Int32)), .val (.int (16 : Int32))] [(.int (16 : Int32)), (.int (41 : Int32))]) _
    refine XS.isub X_3.here hx rfl (hb hby d_jdk_68m9_13) rfl ?_
    show oS pP eE below T_3 (mkF mM 14 #[.val (.ref a), .val (.int (41 : Int32)), .val (.int (16 : Int32))] [(.int ((41 : Int32) - (16 : Int32)))]) _
    rw [(by decide : ((41 : Int32) - (16 : Int32)) = (25 : Int32))]
    refine XS.ifNo X_3.here hx rfl (hb hby d_jdk_68m9_14) rfl (by decide) ?_
    refine XS.aloadN X_3.here hx rfl (hb hby d_jdk_68m9_17) rfl rfl ?_
    refine XS.aloadN X_3.here hx rfl (hb hby d_jdk_68m9_18) rfl rfl ?_
    show oS pP eE below T_3 (mkF mM 19 #[.val (.ref a), .val (.int (41 : Int32)), .val (.int (16 : Int32))] [(.ref a), (.ref a)]) _
    refine st_4 _ ?_
    show oS pP eE below T_4 (mkF mM 22 #[.val (.ref a), .val (.int (41 : Int32)), .val (.int (16 : Int32))] [(.ref d), (.ref a)]) _
    refine XS.aloadN X_4.here hx rfl (hb hby d_jdk_68m9_22) rfl rfl ?_
    refine XS.iloadN X_4.here hx rfl (hb hby d_jdk_68m9_23) rfl ?_
    show oS pP eE below T_4 (mkF mM 24 #[.val (.ref a), .val (.int (41 : Int32)), .val (.int (16 : Int32))] [(.int (41 : Int32)), (.ref a), (.ref d), (.ref a)]) _
    refine st_5.trans ?_
    show oS pP eE below T_5 (mkF mM 27 #[.val (.ref a), .val (.int (41 : Int32)), .val (.int (16 : Int32))] [(.int (41 : Int32)), (.ref d), (.ref a)]) _
    refine XS.aloadN X_5.here hx rfl (hb hby d_jdk_68m9_27) rfl rfl ?_
    show oS pP eE below T_5 (mkF mM 28 #[.val (.ref a), .val (.int (41 : Int32)), .val (.int (16 : Int32))] [(.ref a), (.int (41 : Int32)), (.ref d), (.ref a)]) _
    refine st_6 _ ?_
    show oS pP eE below T_6 (mkF mM 31 #[.val (.ref a), .val (.int (41 : Int32)), .val (.int (16 : Int32))] [(.int (0 : Int32)), (.int (41 : Int32)), (.ref d), (.ref a)]) _
    refine XT.ishl X_6.here hx rfl (hb hby d_jdk_68m9_31) rfl ?_
    show oS pP eE below T_6 (mkF mM 32 #[.val (.ref a), .val (.int (41 : Int32)), .val (.int (16 : Int32))] [(.int ((41 : Int32) <<< ((0 : Int32) &&& 31))), (.ref d), (.ref a)]) _
    rw [(by decide : ((41 : Int32) <<< ((0 : Int32) &&& 31)) = (41 : Int32))]
    show oS pP eE below T_6 (mkF mM 32 #[.val (.ref a), .val (.int (41 : Int32)), .val (.int (16 : Int32))] [(.int (41 : Int32)), (.ref d), (.ref a)]) _
    refine st_7 _ ?_
    show oS pP eE below T_7 (mkF mM 35 #[.val (.ref a), .val (.int (41 : Int32)), .val (.int (16 : Int32))] [(.ref e__7), (.ref a)]) _
    refine st_8 _ ?_
    show oS pP eE below T_8 (mkF mM 38 #[.val (.ref a), .val (.int (41 : Int32)), .val (.int (16 : Int32))] []) _
    exact X_8.returnOut hx Bd.returns (hb hby d_jdk_68m9_38) hr
  · show Q_ens41 Z a d k h0 n0 _ T_8.heap _
    rw [e_8]
    exact ⟨e__7, kk__7, rfl, N_8, K_8, sz_e__7, Fw_8, ((F_coder_a.keep Kc_7 nin0).other W_8 (Or.inr (slot_ne (Or.inl (ow hw 70 rfl)) (Or.inl (ow hw 68 rfl)) (by decide) (t := .byte) (t' := (.array .byte)) (by decide) (by decide)))), ((F_count_a.keep Kc_7 nin0).other W_8 (Or.inr (slot_ne (Or.inl (ow hw 92 rfl)) (Or.inl (ow hw 68 rfl)) (by decide) (t := .int) (t' := (.array .byte)) (by decide) (by decide)))), ((E_a.keep Kc_7).wr W_8), (pfV_e_7.other W_8 (Ne.symm (Nat.ne_of_lt (Nat.lt_of_lt_of_le E_a.lt pfsz_e_7))))⟩
abbrev lc5 (a : Addr) : Array Slot := #[.val (.ref a), .val (.int (42 : Int32)), .unset, .unset, .unset, .unset]
abbrev lc6 (a : Addr) : Array Slot := #[.val (.ref a), .val (.int (42 : Int32)), .val (.int (41 : Int32)), .unset, .unset, .unset]
abbrev lc7 (a : Addr) : Array Slot := #[.val (.ref a), .val (.int (42 : Int32)), .val (.int (41 : Int32)), .val (.int (42 : Int32)), .unset, .unset]
abbrev lc8 (a : Addr) : Array Slot := #[.val (.ref a), .val (.int (42 : Int32)), .val (.int (41 : Int32)), .val (.int (42 : Int32)), .val (.int (1 : Int32)), .unset]
abbrev lc9 (a : Addr) : Array Slot := #[.val (.ref a), .val (.int (42 : Int32)), .val (.int (41 : Int32)), .val (.int (42 : Int32)), .val (.int (1 : Int32)), .val (.int (84 : Int32))]
theorem ef_nc42 (mM : MethodId) (x0 : Addr) (x1 : Int32) : entryFrame mM #[(.ref x0), (.int x1)] 6 = mkF mM 0 #[.val (.ref x0), .val (.int x1), .unset, .unset, .unset, .unset] [] := by first | (simp [entryFrame, mkF, argsToLocals, Value.category]; done) | rfl
def Q_nc42 (Z : State) (a : Addr) (d : Addr) (k : ClassId) (h0 : Heap) (n0 : Nat) (v_ : Option Value) (h_ : Heap) (L_ : List Loc) : Prop := v_ = some (.int (84 : Int32)) ∧ Fr n0 L_ ∧ h_ = h0
set_option maxRecDepth 65536 in
set_option maxHeartbeats 40000000 in
theorem rm_nc42 (l : Launch) (Z : State) (a0 : Array Value) (hw : ∀ d ∈ tables_1, d.before a0 Z = true) (ws : List Jvm.Cond) (a : Addr) (d : Addr) (k : ClassId) (h0 : Heap) (n0 : Nat) (Z0 : n0 ≤ h0.size) (F_value_a : Fld Z h0 a "java/lang/AbstractStringBuilder" "value" "[B" (.ref d)) (F_coder_a : Fld Z h0 a "java/lang/AbstractStringBuilder" "coder" "B" (.int (0 : Int32))) (F_count_a : Fld Z h0 a "java/lang/AbstractStringBuilder" "count" "I" (.int (41 : Int32))) (E_a : Exa Z h0 a "java/lang/StringBuilder") (V_d : Arv Z h0 d k .byte (41 : Int32) [(.int (83 : Int32)), (.int (69 : Int32)), (.int (84 : Int32)), (.int (32 : Int32)), (.int (83 : Int32)), (.int (84 : Int32)), (.int (65 : Int32)), (.int (84 : Int32)), (.int (69 : Int32)), (.int (77 : Int32)), (.int (69 : Int32)), (.int (78 : Int32)), (.int (84 : Int32)), (.int (32 : Int32)), (.int (102 : Int32)), (.int (111 : Int32)), (.int (114 : Int32)), (.int (101 : Int32)), (.int (105 : Int32)), (.int (103 : Int32)), (.int (110 : Int32)), (.int (95 : Int32)), (.int (107 : Int32)), (.int (101 : Int32)), (.int (121 : Int32)), (.int (95 : Int32)), (.int (99 : Int32)), (.int (104 : Int32)), (.int (101 : Int32)), (.int (99 : Int32)), (.int (107 : Int32)), (.int (115 : Int32)), (.int (32 : Int32)), (.int (61 : Int32)), (.int (32 : Int32)), (.int (48 : Int32)), (.int (32 : Int32)), (.int (70 : Int32)), (.int (79 : Int32)), (.int (82 : Int32)), (.int (32 : Int32))] (.int (0 : Int32))) :
    MetFree l (⟨"java/lang/AbstractStringBuilder", "newCapacity", "(I)I"⟩ : MethodName) (head1 (Jvm.Cond.code (⟨"java/lang/AbstractStringBuilder", "newCapacity", "(I)I"⟩ : MethodName) jdk_68_method_10_code 6 (some .int) :: ws) ({ frames := 2, cells := 0, slots := 0, locals := 29 } : Room)) (fun aa_ U_ => aa_ = #[(.ref a), (.int (42 : Int32))] ∧ Z.Warmed39 U_.vm ∧ U_.heap = h0) (fun _ _ _ _ _ => True) (fun _ U_ o_ U'_ => ∃ v_ L_, o_ = .returned v_ ∧ Q_nc42 Z a d k h0 n0 v_ U'_.heap L_ ∧ FrameEnd U_ o_ U'_ L_ ({ frames := 2, cells := 0, slots := 0, locals := 29 } : Room).cells ({ frames := 2, cells := 0, slots := 0, locals := 29 } : Room).slots) := by
  refine MetFree.of_bodySF (plainFor_of_name pn_3) hisR ?_
  intro pP eE sS mM argsA below meth cC s₁ Bd hml0 hP hK
  obtain ⟨rfl, hZ, hh⟩ := hP
  have hx := Bd.exec
  have hby := Bd.bytes
  have hml : cC.maxLocals = 6 := hml0
  have hown : sS.vm.findClass "java/lang/AbstractStringBuilder" = some mM.cls := findClass_of_methodNamed Bd.named
  have hnm := (name_of_methodNamed Bd.named Bd.method).1
  have X0 : Stand pP l eE ({ frames := 2, cells := 0, slots := 0, locals := 29 } : Room) sS mM #[(.ref a), (.int (42 : Int32))] below meth cC s₁ [] 0 0 := Stand.of_body Bd
  have e0 : s₁.heap = h0 := by rw [← hh, Bd.state]; rfl
  have N0 := Fr.nil n0
  have pre0 : ∀ t_, Steps pP.tables eE below (s₁.setTop (mkF mM 0 #[.val (.ref a), .val (.int (42 : Int32)), .unset, .unset, .unset, .unset] [])) t_ → Steps pP.tables eE below (s₁.setTop (entryFrame mM #[(.ref a), (.int (42 : Int32))] 6)) t_ := fun t_ k_ => castTop (ef_nc42 mM a (42 : Int32)) k_
  obtain ⟨T_1, X_1, e_1, st_1⟩ := getF X0 hx hZ hown (host := "") (Or.inl (ow hw 67 rfl)) Via.refl e0 F_value_a (g := (mkF mM 1 (lc5 a) [(.ref a)])) rfl rfl (hb hby d_jdk_68m10_1)
  obtain ⟨cl_2, Ar_2, -, Sa_2, Na_2, -, -⟩ := id V_d
  obtain ⟨T_3, X_3, e_3, st_3⟩ := getF X_1 hx hZ hown (host := "") (Or.inl (ow hw 69 rfl)) Via.refl e_1 F_coder_a (g := (mkF mM 8 (lc6 a) [(.ref a), (.int (42 : Int32))])) rfl rfl (hb hby d_jdk_68m10_8)
  obtain ⟨T_4, X_4, e_4, st_4⟩ := getF X_3 hx hZ hown (host := "") (Or.inl (ow hw 69 rfl)) Via.refl e_3 F_coder_a (g := (mkF mM 24 (lc8 a) [(.ref a), (.int (2 : Int32)), (.int (41 : Int32)), (.int (1 : Int32)), (.int (41 : Int32))])) rfl rfl (hb hby d_jdk_68m10_24)
  obtain ⟨_, _, ⟨T_5, L_5, k_5, n_5⟩, -, X_5, ⟨Lc_5, hQ_5, l_5, y_5, z_5⟩, st_5⟩ := Jvm.LawKit.callS X_4 hx (y := MN6) hown (mvT hZ (ow hw 103 rfl)) (mvT hZ (ow hw 104 rfl)) (mvT hZ (ow hw 105 rfl)) (mvT hZ (ow hw 106 rfl)) (by decide) (backOf (W := 0) (rm_nl84 l Z a0 hw []  h0 n0 Z0 ) hZ (ow hw 106 rfl) (ow hw 105 rfl) (by decide) (by decide)) (g := (mkF mM 29 (lc8 a) [(.int (43 : Int32)), (.int (1 : Int32)), (.int (41 : Int32))])) rfl (by rw [hml]; rfl) (argsL := [(.int (41 : Int32)), (.int (1 : Int32)), (.int (43 : Int32))]) (rest := []) (lenOf pd_6 rfl) rfl (by show 2 * 0 + _ ≤ _; exact Nat.le_of_eq rfl) (hb hby d_jdk_68m10_29) (fun _ _ => ⟨rfl, e_4, (by decide : 0 + 0 ≤ _), (by decide : 0 + 0 ≤ _)⟩)
  dsimp only [Pt.U, Pt.locs, Pt.cells, Pt.slots] at X_5 l_5 y_5 z_5 st_5 hQ_5
  subst l_5 y_5 z_5
  obtain ⟨rfl, N_5q, eh_5⟩ := hQ_5
  have N_5 := Fr.app N0 N_5q
  obtain ⟨T_6, X_6, e_6, st_6⟩ := getF X_5 hx hZ hown (host := "") (Or.inl (ow hw 69 rfl)) Via.refl eh_5 F_coder_a (g := (mkF mM 54 (lc9 a) [(.ref a), (.int (84 : Int32))])) rfl rfl (hb hby d_jdk_68m10_54)
  obtain ⟨fs, hr, hrun, hended, hW, hsame⟩ := X_6.leave (v := some (.int (84 : Int32))) (fun h => by rw [Bd.returns] at h; cases h)
  refine ⟨_, _, pre0 _ ?_, hrun, hended, _, _, rfl, ?_, ⟨_, rfl⟩, hW, hsame.mono (by decide) (by decide)⟩
  · show oS pP eE below s₁ (mkF mM 0 (lc5 a) []) _
    refine XS.aloadN X0.here hx rfl (hb hby d_jdk_68m10_0) rfl rfl ?_
    show oS pP eE below s₁ (mkF mM 1 (lc5 a) [(.ref a)]) _
    refine st_1 _ ?_
    show oS pP eE below T_1 (mkF mM 4 (lc5 a) [(.ref d)]) _
    refine X_1.arraylength hx (by rw [e_1]; exact Ar_2.1) (State.isArrayOf_alike hZ.alike Ar_2.2.1) (g := (mkF mM 4 (lc5 a) [(.ref d)])) rfl rfl (hb hby d_jdk_68m10_4) _ ?_
    rw [len_of Sa_2 Na_2]
    refine XS.istoreN X_1.here hx rfl (hb hby d_jdk_68m10_5) rfl (l' := (lc6 a)) rfl ?_
    refine XS.iloadN X_1.here hx rfl (hb hby d_jdk_68m10_6) rfl ?_
    refine XS.aloadN X_1.here hx rfl (hb hby d_jdk_68m10_7) rfl rfl ?_
    show oS pP eE below T_1 (mkF mM 8 (lc6 a) [(.ref a), (.int (42 : Int32))]) _
    refine st_3 _ ?_
    show oS pP eE below T_3 (mkF mM 11 (lc6 a) [(.int (0 : Int32)), (.int (42 : Int32))]) _
    refine XT.ishl X_3.here hx rfl (hb hby d_jdk_68m10_11) rfl ?_
    show oS pP eE below T_3 (mkF mM 12 (lc6 a) [(.int ((42 : Int32) <<< ((0 : Int32) &&& 31)))]) _
    rw [(by decide : ((42 : Int32) <<< ((0 : Int32) &&& 31)) = (42 : Int32))]
    refine XS.istoreN X_3.here hx rfl (hb hby d_jdk_68m10_12) rfl (l' := (lc7 a)) rfl ?_
    refine XS.iloadN X_3.here hx rfl (hb hby d_jdk_68m10_13) rfl ?_
    refine XS.iloadN X_3.here hx rfl (hb hby d_jdk_68m10_14) rfl ?_
    show oS pP eE below T_3 (mkF mM 15 (lc7 a) [(.int (41 : Int32)), (.int (42 : Int32))]) _
    refine XS.isub X_3.here hx rfl (hb hby d_jdk_68m10_15) rfl ?_
    show oS pP eE below T_3 (mkF mM 16 (lc7 a) [(.int ((42 : Int32) - (41 : Int32)))]) _
    rw [(by decide : ((42 : Int32) - (41 : Int32)) = (1 : Int32))]
    refine XS.istore X_3.here hx rfl (hb hby d_jdk_68m10_16) rfl (l' := (lc8 a)) rfl ?_
    refine XS.iloadN X_3.here hx rfl (hb hby d_jdk_68m10_18) rfl ?_
    refine XS.iload X_3.here hx rfl (hb hby d_jdk_68m10_19) rfl ?_
    show oS pP eE below T_3 (mkF mM 21 (lc8 a) [(.int (1 : Int32)), (.int (41 : Int32))]) _
    refine XS.iloadN X_3.here hx rfl (hb hby d_jdk_68m10_21) rfl ?_
    refine XS.iconst X_3.here hx rfl (hb hby d_jdk_68m10_22) ?_
    refine XS.aloadN X_3.here hx rfl (hb hby d_jdk_68m10_23) rfl rfl ?_
    show oS pP eE below T_3 (mkF mM 24 (lc8 a) [(.ref a), (.int (2 : Int32)), (.int (41 : Int32)), (.int (1 : Int32)), (.int (41 : Int32))]) _
    refine st_4 _ ?_
    show oS pP eE below T_4 (mkF mM 27 (lc8 a) [(.int (0 : Int32)), (.int (2 : Int32)), (.int (41 : Int32)), (.int (1 : Int32)), (.int (41 : Int32))]) _
    refine XT.ishl X_4.here hx rfl (hb hby d_jdk_68m10_27) rfl ?_
    show oS pP eE below T_4 (mkF mM 28 (lc8 a) [(.int ((2 : Int32) <<< ((0 : Int32) &&& 31))), (.int (41 : Int32)), (.int (1 : Int32)), (.int (41 : Int32))]) _
    rw [(by decide : ((2 : Int32) <<< ((0 : Int32) &&& 31)) = (2 : Int32))]
    show oS pP eE below T_4 (mkF mM 28 (lc8 a) [(.int (2 : Int32)), (.int (41 : Int32)), (.int (1 : Int32)), (.int (41 : Int32))]) _
    refine XS.iadd X_4.here hx rfl (hb hby d_jdk_68m10_28) rfl ?_
    show oS pP eE below T_4 (mkF mM 29 (lc8 a) [(.int ((41 : Int32) + (2 : Int32))), (.int (1 : Int32)), (.int (41 : Int32))]) _
    rw [(by decide : ((41 : Int32) + (2 : Int32)) = (43 : Int32))]
    show oS pP eE below T_4 (mkF mM 29 (lc8 a) [(.int (43 : Int32)), (.int (1 : Int32)), (.int (41 : Int32))]) _
    refine st_5 _ ?_
    show oS pP eE below T_5 (mkF mM 32 (lc8 a) [(.int (84 : Int32))]) _
    refine XS.istore X_5.here hx rfl (hb hby d_jdk_68m10_32) rfl (l' := (lc9 a)) rfl ?_
    refine XS.iload X_5.here hx rfl (hb hby d_jdk_68m10_34) rfl ?_
    show oS pP eE below T_5 (mkF mM 36 (lc9 a) [(.int (84 : Int32))]) _
    refine X_5.ldcI hx hown (mvT hZ (ow hw 112 rfl)) (g := (mkF mM 36 (lc9 a) [(.int (84 : Int32))])) rfl (hb hby d_jdk_68m10_36) ?_
    refine XS.icmpYes X_5.here hx rfl (pc0 := 38) (pc' := 51) rfl (hb hby d_jdk_68m10_38) rfl (by decide) (by decide) (by decide) ?_
    refine XS.iload X_5.here hx rfl (hb hby d_jdk_68m10_51) rfl ?_
    refine XS.aloadN X_5.here hx rfl (hb hby d_jdk_68m10_53) rfl rfl ?_
    show oS pP eE below T_5 (mkF mM 54 (lc9 a) [(.ref a), (.int (84 : Int32))]) _
    refine st_6 _ ?_
    show oS pP eE below T_6 (mkF mM 57 (lc9 a) [(.int (0 : Int32)), (.int (84 : Int32))]) _
    refine XT.ishr X_6.here hx rfl (hb hby d_jdk_68m10_57) rfl ?_
    show oS pP eE below T_6 (mkF mM 58 (lc9 a) [(.int ((84 : Int32) >>> ((0 : Int32) &&& 31)))]) _
    rw [(by decide : ((84 : Int32) >>> ((0 : Int32) &&& 31)) = (84 : Int32))]
    show oS pP eE below T_6 (mkF mM 58 (lc9 a) [(.int (84 : Int32))]) _
    exact retI X_6 hx Bd.returns (hb hby d_jdk_68m10_58) hr
  · show Q_nc42 Z a d k h0 n0 _ T_6.heap _
    rw [e_6]
    exact ⟨rfl, N_5, rfl⟩
theorem ef_cpo42 (mM : MethodId) (x0 : Addr) (x1 : Int32) : entryFrame mM #[(.ref x0), (.int x1)] 3 = mkF mM 0 #[.val (.ref x0), .val (.int x1), .unset] [] := by first | (simp [entryFrame, mkF, argsToLocals, Value.category]; done) | rfl
def Q_cpo42 (Z : State) (d : Addr) (k : ClassId) (h0 : Heap) (n0 : Nat) (v_ : Option Value) (h_ : Heap) (L_ : List Loc) : Prop := ∃ e : Addr, ∃ kk : ClassId, v_ = some (.ref e) ∧ Fr n0 L_ ∧ Keep h0 h_ [] ∧ h0.size ≤ e ∧ Arv Z h_ e kk .byte (84 : Int32) [(.int (83 : Int32)), (.int (69 : Int32)), (.int (84 : Int32)), (.int (32 : Int32)), (.int (83 : Int32)), (.int (84 : Int32)), (.int (65 : Int32)), (.int (84 : Int32)), (.int (69 : Int32)), (.int (77 : Int32)), (.int (69 : Int32)), (.int (78 : Int32)), (.int (84 : Int32)), (.int (32 : Int32)), (.int (102 : Int32)), (.int (111 : Int32)), (.int (114 : Int32)), (.int (101 : Int32)), (.int (105 : Int32)), (.int (103 : Int32)), (.int (110 : Int32)), (.int (95 : Int32)), (.int (107 : Int32)), (.int (101 : Int32)), (.int (121 : Int32)), (.int (95 : Int32)), (.int (99 : Int32)), (.int (104 : Int32)), (.int (101 : Int32)), (.int (99 : Int32)), (.int (107 : Int32)), (.int (115 : Int32)), (.int (32 : Int32)), (.int (61 : Int32)), (.int (32 : Int32)), (.int (48 : Int32)), (.int (32 : Int32)), (.int (70 : Int32)), (.int (79 : Int32)), (.int (82 : Int32)), (.int (32 : Int32)), (.int (0 : Int32)), (.int (0 : Int32)), (.int (0 : Int32)), (.int (0 : Int32)), (.int (0 : Int32)), (.int (0 : Int32)), (.int (0 : Int32)), (.int (0 : Int32)), (.int (0 : Int32)), (.int (0 : Int32)), (.int (0 : Int32)), (.int (0 : Int32)), (.int (0 : Int32)), (.int (0 : Int32)), (.int (0 : Int32)), (.int (0 : Int32)), (.int (0 : Int32)), (.int (0 : Int32)), (.int (0 : Int32)), (.int (0 : Int32)), (.int (0 : Int32)), (.int (0 : Int32)), (.int (0 : Int32)), (.int (0 : Int32)), (.int (0 : Int32)), (.int (0 : Int32)), (.int (0 : Int32)), (.int (0 : Int32)), (.int (0 : Int32)), (.int (0 : Int32)), (.int (0 : Int32)), (.int (0 : Int32)), (.int (0 : Int32)), (.int (0 : Int32)), (.int (0 : Int32)), (.int (0 : Int32)), (.int (0 : Int32)), (.int (0 : Int32)), (.int (0 : Int32)), (.int (0 : Int32)), (.int (0 : Int32)), (.int (0 : Int32)), (.int (0 : Int32))] (.int (0 : Int32))
set_option maxRecDepth 65536 in
set_option maxHeartbeats 40000000 in
theorem rm_cpo42 (l : Launch) (Z : State) (a0 : Array Value) (hw : ∀ d ∈ tables_1, d.before a0 Z = true) (ws : List Jvm.Cond) (d : Addr) (k : ClassId) (h0 : Heap) (n0 : Nat) (Z0 : n0 ≤ h0.size) (V_d : Arv Z h0 d k .byte (41 : Int32) [(.int (83 : Int32)), (.int (69 : Int32)), (.int (84 : Int32)), (.int (32 : Int32)), (.int (83 : Int32)), (.int (84 : Int32)), (.int (65 : Int32)), (.int (84 : Int32)), (.int (69 : Int32)), (.int (77 : Int32)), (.int (69 : Int32)), (.int (78 : Int32)), (.int (84 : Int32)), (.int (32 : Int32)), (.int (102 : Int32)), (.int (111 : Int32)), (.int (114 : Int32)), (.int (101 : Int32)), (.int (105 : Int32)), (.int (103 : Int32)), (.int (110 : Int32)), (.int (95 : Int32)), (.int (107 : Int32)), (.int (101 : Int32)), (.int (121 : Int32)), (.int (95 : Int32)), (.int (99 : Int32)), (.int (104 : Int32)), (.int (101 : Int32)), (.int (99 : Int32)), (.int (107 : Int32)), (.int (115 : Int32)), (.int (32 : Int32)), (.int (61 : Int32)), (.int (32 : Int32)), (.int (48 : Int32)), (.int (32 : Int32)), (.int (70 : Int32)), (.int (79 : Int32)), (.int (82 : Int32)), (.int (32 : Int32))] (.int (0 : Int32))) :
    MetFree l (⟨"java/util/Arrays", "copyOf", "([BI)[B"⟩ : MethodName) (head1 (Jvm.Cond.code (⟨"java/util/Arrays", "copyOf", "([BI)[B"⟩ : MethodName) jdk_65_method_121_code 3 (some (.array .byte)) :: ws) ({ frames := 1, cells := 1, slots := 84, locals := 18 } : Room)) (fun aa_ U_ => aa_ = #[(.ref d), (.int (84 : Int32))] ∧ Z.Warmed39 U_.vm ∧ U_.heap = h0) (fun _ _ _ _ _ => True) (fun _ U_ o_ U'_ => ∃ v_ L_, o_ = .returned v_ ∧ Q_cpo42 Z d k h0 n0 v_ U'_.heap L_ ∧ FrameEnd U_ o_ U'_ L_ ({ frames := 1, cells := 1, slots := 84, locals := 18 } : Room).cells ({ frames := 1, cells := 1, slots := 84, locals := 18 } : Room).slots) := by
  refine MetFree.of_bodySF (plainFor_of_name pn_6) hisR ?_
  intro pP eE sS mM argsA below meth cC s₁ Bd hml0 hP hK
  obtain ⟨rfl, hZ, hh⟩ := hP
  have hx := Bd.exec
  have hby := Bd.bytes
  have hml : cC.maxLocals = 3 := hml0
  have hown : sS.vm.findClass "java/util/Arrays" = some mM.cls := findClass_of_methodNamed Bd.named
  have hnm := (name_of_methodNamed Bd.named Bd.method).1
  have X0 : Stand pP l eE ({ frames := 1, cells := 1, slots := 84, locals := 18 } : Room) sS mM #[(.ref d), (.int (84 : Int32))] below meth cC s₁ [] 0 0 := Stand.of_body Bd
  have e0 : s₁.heap = h0 := by rw [← hh, Bd.state]; rfl
  have N0 := Fr.nil n0
  have pre0 : ∀ t_, Steps pP.tables eE below (s₁.setTop (mkF mM 0 #[.val (.ref d), .val (.int (84 : Int32)), .unset] [])) t_ → Steps pP.tables eE below (s₁.setTop (entryFrame mM #[(.ref d), (.int (84 : Int32))] 3)) t_ := fun t_ k_ => castTop (ef_cpo42 mM d (84 : Int32)) k_
  obtain ⟨cl_1, Ar_1, -, Sa_1, Na_1, -, -⟩ := id V_d
  obtain ⟨T_2, h_2, k_2, X_2, e_2, E_2, A_2, st_2⟩ := newP X0 hx hZ (ow hw 36 rfl) e0 (g := (mkF mM 15 #[.val (.ref d), .val (.int (84 : Int32)), .unset] [(.int (84 : Int32))])) rfl (hb hby d_jdk_65m121_15) rfl (by decide) (cap := 84) (by decide) (by decide) (by decide) (by decide)
  obtain ⟨b_2, g_2⟩ : ∃ z, z = h0.size := ⟨_, rfl⟩
  rw [← g_2] at A_2 st_2
  have g_b_2 : n0 ≤ b_2 := Nat.le_trans Z0 (Nat.le_of_eq g_2.symm)
  have sz_b_2 : h0.size ≤ b_2 := Nat.le_trans (Keep.refl h0 []).1 (Nat.le_of_eq g_2.symm)
  have Z_2 : n0 ≤ h_2.size := (Nat.le_trans Z0 E_2.1)
  have K_2 : Keep h0 h_2 [] := (Keep.refl h0 []).ext E_2
  have V_b_2 : Arv Z h_2 b_2 k_2 .byte (84 : Int32) [(.int (0 : Int32)), (.int (0 : Int32)), (.int (0 : Int32)), (.int (0 : Int32)), (.int (0 : Int32)), (.int (0 : Int32)), (.int (0 : Int32)), (.int (0 : Int32)), (.int (0 : Int32)), (.int (0 : Int32)), (.int (0 : Int32)), (.int (0 : Int32)), (.int (0 : Int32)), (.int (0 : Int32)), (.int (0 : Int32)), (.int (0 : Int32)), (.int (0 : Int32)), (.int (0 : Int32)), (.int (0 : Int32)), (.int (0 : Int32)), (.int (0 : Int32)), (.int (0 : Int32)), (.int (0 : Int32)), (.int (0 : Int32)), (.int (0 : Int32)), (.int (0 : Int32)), (.int (0 : Int32)), (.int (0 : Int32)), (.int (0 : Int32)), (.int (0 : Int32)), (.int (0 : Int32)), (.int (0 : Int32)), (.int (0 : Int32)), (.int (0 : Int32)), (.int (0 : Int32)), (.int (0 : Int32)), (.int (0 : Int32)), (.int (0 : Int32)), (.int (0 : Int32)), (.int (0 : Int32)), (.int (0 : Int32)), (.int (0 : Int32)), (.int (0 : Int32)), (.int (0 : Int32)), (.int (0 : Int32)), (.int (0 : Int32)), (.int (0 : Int32)), (.int (0 : Int32)), (.int (0 : Int32)), (.int (0 : Int32)), (.int (0 : Int32)), (.int (0 : Int32)), (.int (0 : Int32)), (.int (0 : Int32)), (.int (0 : Int32)), (.int (0 : Int32)), (.int (0 : Int32)), (.int (0 : Int32)), (.int (0 : Int32)), (.int (0 : Int32)), (.int (0 : Int32)), (.int (0 : Int32)), (.int (0 : Int32)), (.int (0 : Int32)), (.int (0 : Int32)), (.int (0 : Int32)), (.int (0 : Int32)), (.int (0 : Int32)), (.int (0 : Int32)), (.int (0 : Int32)), (.int (0 : Int32)), (.int (0 : Int32)), (.int (0 : Int32)), (.int (0 : Int32)), (.int (0 : Int32)), (.int (0 : Int32)), (.int (0 : Int32)), (.int (0 : Int32)), (.int (0 : Int32)), (.int (0 : Int32)), (.int (0 : Int32)), (.int (0 : Int32)), (.int (0 : Int32)), (.int (0 : Int32))] (.int (0 : Int32)) := (Arv.new A_2 (by decide)).pad (pad_rep [] (.int (0 : Int32)) 84)
  obtain ⟨cl_3, Ar_3, -, Sa_3, Na_3, -, -⟩ := id (V_d.ext E_2)
  obtain ⟨_, _, ⟨T_4, L_4, k_4, n_4⟩, -, X_4, ⟨Lc_4, hQ_4, l_4, y_4, z_4⟩, st_4⟩ := Jvm.LawKit.callS X_2 hx (y := MN7) hown (mvT hZ (ow hw 117 rfl)) (mvT hZ (ow hw 118 rfl)) (mvT hZ (ow hw 109 rfl)) (mvT hZ (ow hw 119 rfl)) (by decide) (backOf (W := 4) (rm_min_41_84 l Z a0 hw []  h_2 n0 Z_2 ) hZ (ow hw 119 rfl) (ow hw 109 rfl) (by decide) (by decide)) (g := (mkF mM 25 #[.val (.ref d), .val (.int (84 : Int32)), .val (.ref b_2)] [(.int (84 : Int32)), (.int (41 : Int32)), (.int (0 : Int32)), (.ref b_2), (.int (0 : Int32)), (.ref d)])) rfl (by rw [hml]; rfl) (argsL := [(.int (41 : Int32)), (.int (84 : Int32))]) (rest := [(.int (0 : Int32)), (.ref b_2), (.int (0 : Int32)), (.ref d)]) (lenOf pd_5 rfl) rfl (by show 2 * 0 + _ ≤ _; exact Nat.le_of_eq rfl) (hb hby d_jdk_65m121_25) (fun _ _ => ⟨rfl, e_2, (by decide : 1 + 0 ≤ _), (by decide : 84 + 0 ≤ _)⟩)
  dsimp only [Pt.U, Pt.locs, Pt.cells, Pt.slots] at X_4 l_4 y_4 z_4 st_4 hQ_4
  subst l_4 y_4 z_4
  obtain ⟨rfl, N_4q, eh_4⟩ := hQ_4
  have N_4 := Fr.app N0 N_4q
  obtain ⟨T_5, h_5, L_5, X_5, e_5, N_5, Kc_5, V_5, st_5⟩ := cpA X_4 hx hZ hown (ow hw 120 rfl) (ow hw 123 rfl) (ow hw 121 rfl) (ow hw 122 rfl) eh_4 (V_d.ext E_2) V_b_2 (Or.inl ⟨rfl, rfl⟩) (sp := (0 : Int32)) (dp := (0 : Int32)) (nn := (41 : Int32)) (us := [(.int (83 : Int32)), (.int (69 : Int32)), (.int (84 : Int32)), (.int (32 : Int32)), (.int (83 : Int32)), (.int (84 : Int32)), (.int (65 : Int32)), (.int (84 : Int32)), (.int (69 : Int32)), (.int (77 : Int32)), (.int (69 : Int32)), (.int (78 : Int32)), (.int (84 : Int32)), (.int (32 : Int32)), (.int (102 : Int32)), (.int (111 : Int32)), (.int (114 : Int32)), (.int (101 : Int32)), (.int (105 : Int32)), (.int (103 : Int32)), (.int (110 : Int32)), (.int (95 : Int32)), (.int (107 : Int32)), (.int (101 : Int32)), (.int (121 : Int32)), (.int (95 : Int32)), (.int (99 : Int32)), (.int (104 : Int32)), (.int (101 : Int32)), (.int (99 : Int32)), (.int (107 : Int32)), (.int (115 : Int32)), (.int (32 : Int32)), (.int (61 : Int32)), (.int (32 : Int32)), (.int (48 : Int32)), (.int (32 : Int32)), (.int (70 : Int32)), (.int (79 : Int32)), (.int (82 : Int32)), (.int (32 : Int32))]) (by decide) (by decide) (by decide) (by decide) (by decide) rfl (by decide) N_4 g_b_2 (g := (mkF mM 28 #[.val (.ref d), .val (.int (84 : Int32)), .val (.ref b_2)] [(.int (41 : Int32)), (.int (0 : Int32)), (.ref b_2), (.int (0 : Int32)), (.ref d)])) rfl (by rw [hml]; rfl) rfl (hb hby d_jdk_65m121_28) (by decide) (W := 0) (by show 2 * 0 + _ ≤ _; exact Nat.le_of_eq rfl) (by decide)
  have Z_5 : n0 ≤ h_5.size := (Nat.le_trans Z_2 Kc_5.1)
  have K_5 : Keep h0 h_5 [] := K_2.trans Kc_5 (allS (Or.inr sz_b_2) all0)
  have Va_5 : Arv Z h_5 b_2 k_2 .byte (84 : Int32) [(.int (83 : Int32)), (.int (69 : Int32)), (.int (84 : Int32)), (.int (32 : Int32)), (.int (83 : Int32)), (.int (84 : Int32)), (.int (65 : Int32)), (.int (84 : Int32)), (.int (69 : Int32)), (.int (77 : Int32)), (.int (69 : Int32)), (.int (78 : Int32)), (.int (84 : Int32)), (.int (32 : Int32)), (.int (102 : Int32)), (.int (111 : Int32)), (.int (114 : Int32)), (.int (101 : Int32)), (.int (105 : Int32)), (.int (103 : Int32)), (.int (110 : Int32)), (.int (95 : Int32)), (.int (107 : Int32)), (.int (101 : Int32)), (.int (121 : Int32)), (.int (95 : Int32)), (.int (99 : Int32)), (.int (104 : Int32)), (.int (101 : Int32)), (.int (99 : Int32)), (.int (107 : Int32)), (.int (115 : Int32)), (.int (32 : Int32)), (.int (61 : Int32)), (.int (32 : Int32)), (.int (48 : Int32)), (.int (32 : Int32)), (.int (70 : Int32)), (.int (79 : Int32)), (.int (82 : Int32)), (.int (32 : Int32)), (.int (0 : Int32)), (.int (0 : Int32)), (.int (0 : Int32)), (.int (0 : Int32)), (.int (0 : Int32)), (.int (0 : Int32)), (.int (0 : Int32)), (.int (0 : Int32)), (.int (0 : Int32)), (.int (0 : Int32)), (.int (0 : Int32)), (.int (0 : Int32)), (.int (0 : Int32)), (.int (0 : Int32)), (.int (0 : Int32)), (.int (0 : Int32)), (.int (0 : Int32)), (.int (0 : Int32)), (.int (0 : Int32)), (.int (0 : Int32)), (.int (0 : Int32)), (.int (0 : Int32)), (.int (0 : Int32)), (.int (0 : Int32)), (.int (0 : Int32)), (.int (0 : Int32)), (.int (0 : Int32)), (.int (0 : Int32)), (.int (0 : Int32)), (.int (0 : Int32)), (.int (0 : Int32)), (.int (0 : Int32)), (.int (0 : Int32)), (.int (0 : Int32)), (.int (0 : Int32)), (.int (0 : Int32)), (.int (0 : Int32)), (.int (0 : Int32)), (.int (0 : Int32)), (.int (0 : Int32)), (.int (0 : Int32)), (.int (0 : Int32)), (.int (0 : Int32))] (.int (0 : Int32)) := V_5
  obtain ⟨fs, hr, hrun, hended, hW, hsame⟩ := X_5.leave (v := some (.ref b_2)) (fun h => by rw [Bd.returns] at h; cases h)
  refine ⟨_, _, pre0 _ ?_, hrun, hended, _, _, rfl, ?_, ⟨_, rfl⟩, hW, hsame.mono (by decide) (by decide)⟩
  · show oS pP eE below s₁ (mkF mM 0 #[.val (.ref d), .val (.int (84 : Int32)), .unset] []) _
    refine XS.iloadN X0.here hx rfl (hb hby d_jdk_65m121_0) rfl ?_
    refine XS.aloadN X0.here hx rfl (hb hby d_jdk_65m121_1) rfl rfl ?_
    show oS pP eE below s₁ (mkF mM 2 #[.val (.ref d), .val (.int (84 : Int32)), .unset] [(.ref d), (.int (84 : Int32))]) _
    refine X0.arraylength hx (by rw [e0]; exact Ar_1.1) (State.isArrayOf_alike hZ.alike Ar_1.2.1) (g := (mkF mM 2 #[.val (.ref d), .val (.int (84 : Int32)), .unset] [(.ref d), (.int (84 : Int32))])) rfl rfl (hb hby d_jdk_65m121_2) _ ?_
    rw [len_of Sa_1 Na_1]
    refine XS.icmpYes X0.here hx rfl (pc0 := 3) (pc' := 14) rfl (hb hby d_jdk_65m121_3) rfl (by decide) (by decide) (by decide) ?_
    refine XS.iloadN X0.here hx rfl (hb hby d_jdk_65m121_14) rfl ?_
    show oS pP eE below s₁ (mkF mM 15 #[.val (.ref d), .val (.int (84 : Int32)), .unset] [(.int (84 : Int32))]) _
    refine st_2 _ ?_
    show oS pP eE below T_2 (mkF mM 17 #[.val (.ref d), .val (.int (84 : Int32)), .unset] [(.ref b_2)]) _
    refine XS.astoreN X_2.here hx rfl (hb hby d_jdk_65m121_17) rfl rfl (l' := #[.val (.ref d), .val (.int (84 : Int32)), .val (.ref b_2)]) rfl ?_
    refine XS.aloadN X_2.here hx rfl (hb hby d_jdk_65m121_18) rfl rfl ?_
    refine XS.iconst X_2.here hx rfl (hb hby d_jdk_65m121_19) ?_
    refine XS.aloadN X_2.here hx rfl (hb hby d_jdk_65m121_20) rfl rfl ?_
    show oS pP eE below T_2 (mkF mM 21 #[.val (.ref d), .val (.int (84 : Int32)), .val (.ref b_2)] [(.ref b_2), (.int (0 : Int32)), (.ref d)]) _
    refine XS.iconst X_2.here hx rfl (hb hby d_jdk_65m121_21) ?_
    refine XS.aloadN X_2.here hx rfl (hb hby d_jdk_65m121_22) rfl rfl ?_
    show oS pP eE below T_2 (mkF mM 23 #[.val (.ref d), .val (.int (84 : Int32)), .val (.ref b_2)] [(.ref d), (.int (0 : Int32)), (.ref b_2), (.int (0 : Int32)), (.ref d)]) _
    refine X_2.arraylength hx (by rw [e_2]; exact Ar_3.1) (State.isArrayOf_alike hZ.alike Ar_3.2.1) (g := (mkF mM 23 #[.val (.ref d), .val (.int (84 : Int32)), .val (.ref b_2)] [(.ref d), (.int (0 : Int32)), (.ref b_2), (.int (0 : Int32)), (.ref d)])) rfl rfl (hb hby d_jdk_65m121_23) _ ?_
    rw [len_of Sa_3 Na_3]
    refine XS.iloadN X_2.here hx rfl (hb hby d_jdk_65m121_24) rfl ?_
    show oS pP eE below T_2 (mkF mM 25 #[.val (.ref d), .val (.int (84 : Int32)), .val (.ref b_2)] [(.int (84 : Int32)), (.int (41 : Int32)), (.int (0 : Int32)), (.ref b_2), (.int (0 : Int32)), (.ref d)]) _
    refine st_4 _ ?_
    show oS pP eE below T_4 (mkF mM 28 #[.val (.ref d), .val (.int (84 : Int32)), .val (.ref b_2)] [(.int (41 : Int32)), (.int (0 : Int32)), (.ref b_2), (.int (0 : Int32)), (.ref d)]) _
    refine st_5 _ ?_
    show oS pP eE below T_5 (mkF mM 31 #[.val (.ref d), .val (.int (84 : Int32)), .val (.ref b_2)] []) _
    refine XS.aloadN X_5.here hx rfl (hb hby d_jdk_65m121_31) rfl rfl ?_
    show oS pP eE below T_5 (mkF mM 32 #[.val (.ref d), .val (.int (84 : Int32)), .val (.ref b_2)] [(.ref b_2)]) _
    exact retOut X_5 hx Bd.returns rfl (Or.inr (Or.inr (Or.inr (Or.inr ⟨rfl, rfl, rfl⟩)))) (hb hby d_jdk_65m121_32) hr
  · show Q_cpo42 Z d k h0 n0 _ T_5.heap _
    rw [e_5]
    exact ⟨b_2, k_2, rfl, N_5, K_5, sz_b_2, Va_5⟩
theorem ef_ens42 (mM : MethodId) (x0 : Addr) (x1 : Int32) : entryFrame mM #[(.ref x0), (.int x1)] 3 = mkF mM 0 #[.val (.ref x0), .val (.int x1), .unset] [] := by first | (simp [entryFrame, mkF, argsToLocals, Value.category]; done) | rfl
def Q_ens42 (Z : State) (a : Addr) (d : Addr) (k : ClassId) (h0 : Heap) (n0 : Nat) (v_ : Option Value) (h_ : Heap) (L_ : List Loc) : Prop := ∃ e : Addr, ∃ kk : ClassId, v_ = none ∧ Fr n0 L_ ∧ Keep h0 h_ [a] ∧ h0.size ≤ e ∧ Fld Z h_ a "java/lang/AbstractStringBuilder" "value" "[B" (.ref e) ∧ Fld Z h_ a "java/lang/AbstractStringBuilder" "coder" "B" (.int (0 : Int32)) ∧ Fld Z h_ a "java/lang/AbstractStringBuilder" "count" "I" (.int (41 : Int32)) ∧ Exa Z h_ a "java/lang/StringBuilder" ∧ Arv Z h_ e kk .byte (84 : Int32) [(.int (83 : Int32)), (.int (69 : Int32)), (.int (84 : Int32)), (.int (32 : Int32)), (.int (83 : Int32)), (.int (84 : Int32)), (.int (65 : Int32)), (.int (84 : Int32)), (.int (69 : Int32)), (.int (77 : Int32)), (.int (69 : Int32)), (.int (78 : Int32)), (.int (84 : Int32)), (.int (32 : Int32)), (.int (102 : Int32)), (.int (111 : Int32)), (.int (114 : Int32)), (.int (101 : Int32)), (.int (105 : Int32)), (.int (103 : Int32)), (.int (110 : Int32)), (.int (95 : Int32)), (.int (107 : Int32)), (.int (101 : Int32)), (.int (121 : Int32)), (.int (95 : Int32)), (.int (99 : Int32)), (.int (104 : Int32)), (.int (101 : Int32)), (.int (99 : Int32)), (.int (107 : Int32)), (.int (115 : Int32)), (.int (32 : Int32)), (.int (61 : Int32)), (.int (32 : Int32)), (.int (48 : Int32)), (.int (32 : Int32)), (.int (70 : Int32)), (.int (79 : Int32)), (.int (82 : Int32)), (.int (32 : Int32)), (.int (0 : Int32)), (.int (0 : Int32)), (.int (0 : Int32)), (.int (0 : Int32)), (.int (0 : Int32)), (.int (0 : Int32)), (.int (0 : Int32)), (.int (0 : Int32)), (.int (0 : Int32)), (.int (0 : Int32)), (.int (0 : Int32)), (.int (0 : Int32)), (.int (0 : Int32)), (.int (0 : Int32)), (.int (0 : Int32)), (.int (0 : Int32)), (.int (0 : Int32)), (.int (0 : Int32)), (.int (0 : Int32)), (.int (0 : Int32)), (.int (0 : Int32)), (.int (0 : Int32)), (.int (0 : Int32)), (.int (0 : Int32)), (.int (0 : Int32)), (.int (0 : Int32)), (.int (0 : Int32)), (.int (0 : Int32)), (.int (0 : Int32)), (.int (0 : Int32)), (.int (0 : Int32)), (.int (0 : Int32)), (.int (0 : Int32)), (.int (0 : Int32)), (.int (0 : Int32)), (.int (0 : Int32)), (.int (0 : Int32)), (.int (0 : Int32)), (.int (0 : Int32)), (.int (0 : Int32)), (.int (0 : Int32)), (.int (0 : Int32)), (.int (0 : Int32))] (.int (0 : Int32))
set_option maxRecDepth 65536 in
set_option maxHeartbeats 40000000 in
theorem rm_ens42 (l : Launch) (Z : State) (a0 : Array Value) (hw : ∀ d ∈ tables_1, d.before a0 Z = true) (ws : List Jvm.Cond) (a : Addr) (d : Addr) (k : ClassId) (h0 : Heap) (n0 : Nat) (Z0 : n0 ≤ h0.size) (F_value_a : Fld Z h0 a "java/lang/AbstractStringBuilder" "value" "[B" (.ref d)) (F_coder_a : Fld Z h0 a "java/lang/AbstractStringBuilder" "coder" "B" (.int (0 : Int32))) (F_count_a : Fld Z h0 a "java/lang/AbstractStringBuilder" "count" "I" (.int (41 : Int32))) (E_a : Exa Z h0 a "java/lang/StringBuilder") (V_d : Arv Z h0 d k .byte (41 : Int32) [(.int (83 : Int32)), (.int (69 : Int32)), (.int (84 : Int32)), (.int (32 : Int32)), (.int (83 : Int32)), (.int (84 : Int32)), (.int (65 : Int32)), (.int (84 : Int32)), (.int (69 : Int32)), (.int (77 : Int32)), (.int (69 : Int32)), (.int (78 : Int32)), (.int (84 : Int32)), (.int (32 : Int32)), (.int (102 : Int32)), (.int (111 : Int32)), (.int (114 : Int32)), (.int (101 : Int32)), (.int (105 : Int32)), (.int (103 : Int32)), (.int (110 : Int32)), (.int (95 : Int32)), (.int (107 : Int32)), (.int (101 : Int32)), (.int (121 : Int32)), (.int (95 : Int32)), (.int (99 : Int32)), (.int (104 : Int32)), (.int (101 : Int32)), (.int (99 : Int32)), (.int (107 : Int32)), (.int (115 : Int32)), (.int (32 : Int32)), (.int (61 : Int32)), (.int (32 : Int32)), (.int (48 : Int32)), (.int (32 : Int32)), (.int (70 : Int32)), (.int (79 : Int32)), (.int (82 : Int32)), (.int (32 : Int32))] (.int (0 : Int32))) (g_a : n0 ≤ a) :
    MetFree l (⟨"java/lang/AbstractStringBuilder", "ensureCapacityInternal", "(I)V"⟩ : MethodName) (head1 (Jvm.Cond.code (⟨"java/lang/AbstractStringBuilder", "ensureCapacityInternal", "(I)V"⟩ : MethodName) jdk_68_method_9_code 3 none :: ws) ({ frames := 3, cells := 1, slots := 84, locals := 48 } : Room)) (fun aa_ U_ => aa_ = #[(.ref a), (.int (42 : Int32))] ∧ Z.Warmed39 U_.vm ∧ U_.heap = h0) (fun _ _ _ _ _ => True) (fun _ U_ o_ U'_ => ∃ v_ L_, o_ = .returned v_ ∧ Q_ens42 Z a d k h0 n0 v_ U'_.heap L_ ∧ FrameEnd U_ o_ U'_ L_ ({ frames := 3, cells := 1, slots := 84, locals := 48 } : Room).cells ({ frames := 3, cells := 1, slots := 84, locals := 48 } : Room).slots) := by
  refine MetFree.of_bodySF (plainFor_of_name pn_3) hisR ?_
  intro pP eE sS mM argsA below meth cC s₁ Bd hml0 hP hK
  obtain ⟨rfl, hZ, hh⟩ := hP
  have hx := Bd.exec
  have hby := Bd.bytes
  have hml : cC.maxLocals = 3 := hml0
  have hown : sS.vm.findClass "java/lang/AbstractStringBuilder" = some mM.cls := findClass_of_methodNamed Bd.named
  have hnm := (name_of_methodNamed Bd.named Bd.method).1
  have X0 : Stand pP l eE ({ frames := 3, cells := 1, slots := 84, locals := 48 } : Room) sS mM #[(.ref a), (.int (42 : Int32))] below meth cC s₁ [] 0 0 := Stand.of_body Bd
  have e0 : s₁.heap = h0 := by rw [← hh, Bd.state]; rfl
  have N0 := Fr.nil n0
  have pre0 : ∀ t_, Steps pP.tables eE below (s₁.setTop (mkF mM 0 #[.val (.ref a), .val (.int (42 : Int32)), .unset] [])) t_ → Steps pP.tables eE below (s₁.setTop (entryFrame mM #[(.ref a), (.int (42 : Int32))] 3)) t_ := fun t_ k_ => castTop (ef_ens42 mM a (42 : Int32)) k_
  obtain ⟨T_1, X_1, e_1, st_1⟩ := getF X0 hx hZ hown (host := "") (Or.inl (ow hw 67 rfl)) Via.refl e0 F_value_a (g := (mkF mM 1 #[.val (.ref a), .val (.int (42 : Int32)), .unset] [(.ref a)])) rfl rfl (hb hby d_jdk_68m9_1)
  obtain ⟨cl_2, Ar_2, -, Sa_2, Na_2, -, -⟩ := id V_d
  obtain ⟨T_3, X_3, e_3, st_3⟩ := getF X_1 hx hZ hown (host := "") (Or.inl (ow hw 69 rfl)) Via.refl e_1 F_coder_a (g := (mkF mM 6 #[.val (.ref a), .val (.int (42 : Int32)), .unset] [(.ref a), (.int (41 : Int32))])) rfl rfl (hb hby d_jdk_68m9_6)
  obtain ⟨T_4, X_4, e_4, st_4⟩ := getF X_3 hx hZ hown (host := "") (Or.inl (ow hw 67 rfl)) Via.refl e_3 F_value_a (g := (mkF mM 19 #[.val (.ref a), .val (.int (42 : Int32)), .val (.int (41 : Int32))] [(.ref a), (.ref a)])) rfl rfl (hb hby d_jdk_68m9_19)
  obtain ⟨cq_5, kq_5, q_5a, q_5b, q_5c⟩ := isOf hZ e_4 E_a
  obtain ⟨_, _, ⟨T_5, L_5, k_5, n_5⟩, -, X_5, ⟨Lc_5, hQ_5, l_5, y_5, z_5⟩, st_5⟩ := X_4.virtualBack hx (y := MN8) (z := MN8) hown (mvT hZ (ow hw 98 rfl)) (own_decl (mvT hZ (ow hw 99 rfl)) (mvT hZ (ow hw 102 rfl))) (notFace_of_selects (args := #[]) (mvT hZ (ow hw 101 rfl))) (mvT hZ (ow hw 101 rfl)) (mvT hZ (ow hw 99 rfl)) (by decide) (backOf (W := 2) (rm_nc42 l Z a0 hw [] a d k h0 n0 Z0 F_value_a F_coder_a F_count_a E_a V_d) hZ (ow hw 102 rfl) (ow hw 63 rfl) (by decide) (by decide)) q_5a q_5c (g := (mkF mM 24 #[.val (.ref a), .val (.int (42 : Int32)), .val (.int (41 : Int32))] [(.int (42 : Int32)), (.ref a), (.ref d), (.ref a)])) rfl (by rw [hml]; rfl) (Steps.refl _) (argsL := [(.int (42 : Int32))]) (rest := [(.ref d), (.ref a)]) (lenOf pd_7 rfl) rfl (by show 2 * 0 + _ ≤ _; exact Nat.le_of_eq rfl) (hb hby d_jdk_68m9_24) (fun _ _ => ⟨rfl, e_4, (by decide : 0 + 0 ≤ _), (by decide : 0 + 0 ≤ _)⟩)
  dsimp only [Pt.U, Pt.locs, Pt.cells, Pt.slots] at X_5 l_5 y_5 z_5 st_5 hQ_5
  subst l_5 y_5 z_5
  obtain ⟨rfl, N_5q, eh_5⟩ := hQ_5
  have N_5 := Fr.app N0 N_5q
  obtain ⟨T_6, X_6, e_6, st_6⟩ := getF X_5 hx hZ hown (host := "") (Or.inl (ow hw 69 rfl)) Via.refl eh_5 F_coder_a (g := (mkF mM 28 #[.val (.ref a), .val (.int (42 : Int32)), .val (.int (41 : Int32))] [(.ref a), (.int (84 : Int32)), (.ref d), (.ref a)])) rfl rfl (hb hby d_jdk_68m9_28)
  obtain ⟨_, _, ⟨T_7, L_7, k_7, n_7⟩, -, X_7, ⟨Lc_7, hQ_7, l_7, y_7, z_7⟩, st_7⟩ := Jvm.LawKit.callS X_6 hx (y := MN9) hown (mvT hZ (ow hw 113 rfl)) (mvT hZ (ow hw 114 rfl)) (mvT hZ (ow hw 115 rfl)) (mvT hZ (ow hw 116 rfl)) (by decide) (backOf (W := 1) (rm_cpo42 l Z a0 hw [] d k h0 n0 Z0 V_d) hZ (ow hw 116 rfl) (ow hw 115 rfl) (by decide) (by decide)) (g := (mkF mM 32 #[.val (.ref a), .val (.int (42 : Int32)), .val (.int (41 : Int32))] [(.int (84 : Int32)), (.ref d), (.ref a)])) rfl (by rw [hml]; rfl) (argsL := [(.ref d), (.int (84 : Int32))]) (rest := [(.ref a)]) (lenOf pd_8 rfl) rfl (by show 2 * 0 + _ ≤ _; exact Nat.le_of_eq rfl) (hb hby d_jdk_68m9_32) (fun _ _ => ⟨rfl, e_6, (by decide : 0 + 1 ≤ _), (by decide : 0 + 84 ≤ _)⟩)
  dsimp only [Pt.U, Pt.locs, Pt.cells, Pt.slots] at X_7 l_7 y_7 z_7 st_7 hQ_7
  subst l_7 y_7 z_7
  obtain ⟨e__7, ⟨kk__7, ⟨rfl, N_7q, Kc_7, pfsz_e_7, pfV_e_7⟩⟩⟩ := hQ_7
  have Z_7 : n0 ≤ T_7.heap.size := (Nat.le_trans Z0 Kc_7.1)
  have K_7 : Keep h0 T_7.heap [a] := (Keep.refl h0 [a]).trans Kc_7 all0
  have sz_e__7 : h0.size ≤ e__7 := Nat.le_trans (Keep.refl h0 [a]).1 pfsz_e_7
  have g_e__7 : n0 ≤ e__7 := Nat.le_trans Z0 pfsz_e_7
  have N_7 := Fr.app N_5 N_7q
  obtain ⟨T_8, h_8, X_8, e_8, W_8, st_8⟩ := putF X_7 hx hZ hown (host := "") (Or.inl (ow hw 67 rfl)) Via.refl rfl (F_value_a.keep Kc_7 nin0) (E_a.keep Kc_7) (Or.inl (ow hw 68 rfl)) (ow hw 54 rfl) (ty := (.array .byte)) (by decide) rfl rfl (g := (mkF mM 35 #[.val (.ref a), .val (.int (42 : Int32)), .val (.int (41 : Int32))] [(.ref e__7), (.ref a)])) rfl rfl (hb hby d_jdk_68m9_35)
  have Fw_8 := (F_value_a.keep Kc_7 nin0).same W_8
  have Z_8 : n0 ≤ h_8.size := (Nat.le_trans Z_7 (Keep.of_wr W_8).1)
  have K_8 : Keep h0 h_8 [a] := K_7.wr W_8 (Or.inl (List.mem_of_getElem? (i := 0) rfl))
  have N_8 := Fr.snoc X_8 N_7 g_a
  obtain ⟨fs, hr, hrun, hended, hW, hsame⟩ := X_8.leave (v := none) (fun _ => rfl)
  refine ⟨_, _, pre0 _ ?_, hrun, hended, _, _, rfl, ?_, ⟨_, rfl⟩, hW, hsame.mono (by decide) (by decide)⟩
  · show oS pP eE below s₁ (mkF mM 0 #[.val (.ref a), .val (.int (42 : Int32)), .unset] []) _
    refine XS.aloadN X0.here hx rfl (hb hby d_jdk_68m9_0) rfl rfl ?_
    show oS pP eE below s₁ (mkF mM 1 #[.val (.ref a), .val (.int (42 : Int32)), .unset] [(.ref a)]) _
    refine st_1 _ ?_
    show oS pP eE below T_1 (mkF mM 4 #[.val (.ref a), .val (.int (42 : Int32)), .unset] [(.ref d)]) _
    refine X_1.arraylength hx (by rw [e_1]; exact Ar_2.1) (State.isArrayOf_alike hZ.alike Ar_2.2.1) (g := (mkF mM 4 #[.val (.ref a), .val (.int (42 : Int32)), .unset] [(.ref d)])) rfl rfl (hb hby d_jdk_68m9_4) _ ?_
    rw [len_of Sa_2 Na_2]
    refine XS.aloadN X_1.here hx rfl (hb hby d_jdk_68m9_5) rfl rfl ?_
    show oS pP eE below T_1 (mkF mM 6 #[.val (.ref a), .val (.int (42 : Int32)), .unset] [(.ref a), (.int (41 : Int32))]) _
    refine st_3 _ ?_
    show oS pP eE below T_3 (mkF mM 9 #[.val (.ref a), .val (.int (42 : Int32)), .unset] [(.int (0 : Int32)), (.int (41 : Int32))]) _
    refine XT.ishr X_3.here hx rfl (hb hby d_jdk_68m9_9) rfl ?_
    show oS pP eE below T_3 (mkF mM 10 #[.val (.ref a), .val (.int (42 : Int32)), .unset] [(.int ((41 : Int32) >>> ((0 : Int32) &&& 31)))]) _
    rw [(by decide : ((41 : Int32) >>> ((0 : Int32) &&& 31)) = (41 : Int32))]
    refine XS.istoreN X_3.here hx rfl (hb hby d_jdk_68m9_10) rfl (l' := #[.val (.ref a), .val (.int (42 : Int32)), .val (.int (41 : Int32))]) rfl ?_
    refine XS.iloadN X_3.here hx rfl (hb hby d_jdk_68m9_11) rfl ?_
    refine XS.iloadN X_3.here hx rfl (hb hby d_jdk_68m9_12) rfl ?_
    show oS pP eE below T_3 (mkF mM 13 #[.val (.ref a), .val (.int (42 : Int32)), .val (.int (41 : Int32))] [(.int (41 : Int32)), (.int (42 : Int32))]) _
    refine XS.isub X_3.here hx rfl (hb hby d_jdk_68m9_13) rfl ?_
    show oS pP eE below T_3 (mkF mM 14 #[.val (.ref a), .val (.int (42 : Int32)), .val (.int (41 : Int32))] [(.int ((42 : Int32) - (41 : Int32)))]) _
    rw [(by decide : ((42 : Int32) - (41 : Int32)) = (1 : Int32))]
    refine XS.ifNo X_3.here hx rfl (hb hby d_jdk_68m9_14) rfl (by decide) ?_
    refine XS.aloadN X_3.here hx rfl (hb hby d_jdk_68m9_17) rfl rfl ?_
    refine XS.aloadN X_3.here hx rfl (hb hby d_jdk_68m9_18) rfl rfl ?_
    show oS pP eE below T_3 (mkF mM 19 #[.val (.ref a), .val (.int (42 : Int32)), .val (.int (41 : Int32))] [(.ref a), (.ref a)]) _
    refine st_4 _ ?_
    show oS pP eE below T_4 (mkF mM 22 #[.val (.ref a), .val (.int (42 : Int32)), .val (.int (41 : Int32))] [(.ref d), (.ref a)]) _
    refine XS.aloadN X_4.here hx rfl (hb hby d_jdk_68m9_22) rfl rfl ?_
    refine XS.iloadN X_4.here hx rfl (hb hby d_jdk_68m9_23) rfl ?_
    show oS pP eE below T_4 (mkF mM 24 #[.val (.ref a), .val (.int (42 : Int32)), .val (.int (41 : Int32))] [(.int (42 : Int32)), (.ref a), (.ref d), (.ref a)]) _
    refine st_5.trans ?_
    show oS pP eE below T_5 (mkF mM 27 #[.val (.ref a), .val (.int (42 : Int32)), .val (.int (41 : Int32))] [(.int (84 : Int32)), (.ref d), (.ref a)]) _
    refine XS.aloadN X_5.here hx rfl (hb hby d_jdk_68m9_27) rfl rfl ?_
    show oS pP eE below T_5 (mkF mM 28 #[.val (.ref a), .val (.int (42 : Int32)), .val (.int (41 : Int32))] [(.ref a), (.int (84 : Int32)), (.ref d), (.ref a)]) _
    refine st_6 _ ?_
    show oS pP eE below T_6 (mkF mM 31 #[.val (.ref a), .val (.int (42 : Int32)), .val (.int (41 : Int32))] [(.int (0 : Int32)), (.int (84 : Int32)), (.ref d), (.ref a)]) _
    refine XT.ishl X_6.here hx rfl (hb hby d_jdk_68m9_31) rfl ?_
    show oS pP eE below T_6 (mkF mM 32 #[.val (.ref a), .val (.int (42 : Int32)), .val (.int (41 : Int32))] [(.int ((84 : Int32) <<< ((0 : Int32) &&& 31))), (.ref d), (.ref a)]) _
    rw [(by decide : ((84 : Int32) <<< ((0 : Int32) &&& 31)) = (84 : Int32))]
    show oS pP eE below T_6 (mkF mM 32 #[.val (.ref a), .val (.int (42 : Int32)), .val (.int (41 : Int32))] [(.int (84 : Int32)), (.ref d), (.ref a)]) _
    refine st_7 _ ?_
    show oS pP eE below T_7 (mkF mM 35 #[.val (.ref a), .val (.int (42 : Int32)), .val (.int (41 : Int32))] [(.ref e__7), (.ref a)]) _
    refine st_8 _ ?_
    show oS pP eE below T_8 (mkF mM 38 #[.val (.ref a), .val (.int (42 : Int32)), .val (.int (41 : Int32))] []) _
    exact X_8.returnOut hx Bd.returns (hb hby d_jdk_68m9_38) hr
  · show Q_ens42 Z a d k h0 n0 _ T_8.heap _
    rw [e_8]
    exact ⟨e__7, kk__7, rfl, N_8, K_8, sz_e__7, Fw_8, ((F_coder_a.keep Kc_7 nin0).other W_8 (Or.inr (slot_ne (Or.inl (ow hw 70 rfl)) (Or.inl (ow hw 68 rfl)) (by decide) (t := .byte) (t' := (.array .byte)) (by decide) (by decide)))), ((F_count_a.keep Kc_7 nin0).other W_8 (Or.inr (slot_ne (Or.inl (ow hw 92 rfl)) (Or.inl (ow hw 68 rfl)) (by decide) (t := .int) (t' := (.array .byte)) (by decide) (by decide)))), ((E_a.keep Kc_7).wr W_8), (pfV_e_7.other W_8 (Ne.symm (Nat.ne_of_lt (Nat.lt_of_lt_of_le E_a.lt pfsz_e_7))))⟩
theorem d_jdk_68m71_0 : decode jdk_68_method_71_code 0 = .ok (.getstatic 18, 3) := by decide +kernel
theorem d_jdk_68m71_3 : decode jdk_68_method_71_code 3 = .ok (.ifCond .eq 18, 3) := by decide +kernel
theorem d_jdk_68m71_6 : decode jdk_68_method_71_code 6 = .ok (.aload_n 0, 1) := by decide +kernel
theorem d_jdk_68m71_7 : decode jdk_68_method_71_code 7 = .ok (.getfield 22, 3) := by decide +kernel
theorem d_jdk_68m71_10 : decode jdk_68_method_71_code 10 = .ok (.aload_n 1, 1) := by decide +kernel
theorem d_jdk_68m71_11 : decode jdk_68_method_71_code 11 = .ok (.invokevirtual 40, 3) := by decide +kernel
theorem d_jdk_68m71_14 : decode jdk_68_method_71_code 14 = .ok (.if_icmp .eq 7, 3) := by decide +kernel
theorem d_jdk_68m71_21 : decode jdk_68_method_71_code 21 = .ok (.return_, 1) := by decide +kernel
theorem ef_infl (mM : MethodId) (x0 : Addr) (x1 : Addr) : entryFrame mM #[(.ref x0), (.ref x1)] 2 = mkF mM 0 #[.val (.ref x0), .val (.ref x1)] [] := by first | (simp [entryFrame, mkF, argsToLocals, Value.category]; done) | rfl
def Q_infl (Z : State) (a : Addr) (t : Addr) (cs : Int32) (h0 : Heap) (n0 : Nat) (v_ : Option Value) (h_ : Heap) (L_ : List Loc) : Prop := v_ = none ∧ Fr n0 L_ ∧ h_ = h0
set_option maxRecDepth 65536 in
set_option maxHeartbeats 40000000 in
theorem rm_infl (l : Launch) (Z : State) (a0 : Array Value) (hw : ∀ d ∈ tables_1, d.before a0 Z = true) (ws : List Jvm.Cond) (a : Addr) (t : Addr) (cs : Int32) (h0 : Heap) (n0 : Nat) (Z0 : n0 ≤ h0.size) (F_coder_a : Fld Z h0 a "java/lang/AbstractStringBuilder" "coder" "B" (.int (0 : Int32))) (F_coder_t : Fld Z h0 t "java/lang/String" "coder" "B" (.int (0 : Int32))) (E_t : Exa Z h0 t "java/lang/String") (S_String_COMPACT_STRINGS : Sta Z h0 "java/lang/String" "COMPACT_STRINGS" "Z" (.int cs)) (hcs : ¬ cs = 0) :
    MetFree l (⟨"java/lang/AbstractStringBuilder", "inflateIfNeededFor", "(Ljava/lang/String;)V"⟩ : MethodName) (head1 (Jvm.Cond.code (⟨"java/lang/AbstractStringBuilder", "inflateIfNeededFor", "(Ljava/lang/String;)V"⟩ : MethodName) jdk_68_method_71_code 2 none :: ws) ({ frames := 1, cells := 0, slots := 0, locals := 13 } : Room)) (fun aa_ U_ => aa_ = #[(.ref a), (.ref t)] ∧ Z.Warmed39 U_.vm ∧ U_.heap = h0) (fun _ _ _ _ _ => True) (fun _ U_ o_ U'_ => ∃ v_ L_, o_ = .returned v_ ∧ Q_infl Z a t cs h0 n0 v_ U'_.heap L_ ∧ FrameEnd U_ o_ U'_ L_ ({ frames := 1, cells := 0, slots := 0, locals := 13 } : Room).cells ({ frames := 1, cells := 0, slots := 0, locals := 13 } : Room).slots) := by
  refine MetFree.of_bodySF (plainFor_of_name pn_3) hisR ?_
  intro pP eE sS mM argsA below meth cC s₁ Bd hml0 hP hK
  obtain ⟨rfl, hZ, hh⟩ := hP
  have hx := Bd.exec
  have hby := Bd.bytes
  have hml : cC.maxLocals = 2 := hml0
  have hown : sS.vm.findClass "java/lang/AbstractStringBuilder" = some mM.cls := findClass_of_methodNamed Bd.named
  have hnm := (name_of_methodNamed Bd.named Bd.method).1
  have X0 : Stand pP l eE ({ frames := 1, cells := 0, slots := 0, locals := 13 } : Room) sS mM #[(.ref a), (.ref t)] below meth cC s₁ [] 0 0 := Stand.of_body Bd
  have e0 : s₁.heap = h0 := by rw [← hh, Bd.state]; rfl
  have N0 := Fr.nil n0
  have pre0 : ∀ t_, Steps pP.tables eE below (s₁.setTop (mkF mM 0 #[.val (.ref a), .val (.ref t)] [])) t_ → Steps pP.tables eE below (s₁.setTop (entryFrame mM #[(.ref a), (.ref t)] 2)) t_ := fun t_ k_ => castTop (ef_infl mM a t) k_
  obtain ⟨T_1, X_1, e_1, st_1⟩ := getS2 X0 hx hZ hown (host := "") (Or.inl (ow hw 66 rfl)) Via.refl e0 S_String_COMPACT_STRINGS (g := (mkF mM 0 #[.val (.ref a), .val (.ref t)] [])) rfl (hb hby d_jdk_68m71_0)
  obtain ⟨T_2, X_2, e_2, st_2⟩ := getF X_1 hx hZ hown (host := "") (Or.inl (ow hw 69 rfl)) Via.refl e_1 F_coder_a (g := (mkF mM 7 #[.val (.ref a), .val (.ref t)] [(.ref a)])) rfl rfl (hb hby d_jdk_68m71_7)
  obtain ⟨cq_3, kq_3, q_3a, q_3b, q_3c⟩ := isOf hZ e_2 E_t
  obtain ⟨_, _, ⟨T_3, L_3, k_3, n_3⟩, -, X_3, ⟨Lc_3, hQ_3, l_3, y_3, z_3⟩, st_3⟩ := X_2.virtualBack hx (y := MN3) (z := MN3) hown (mvT hZ (ow hw 134 rfl)) (mvT hZ (ow hw 87 rfl)) (notFace_of_selects (args := #[]) (mvT hZ (ow hw 89 rfl))) (mvT hZ (ow hw 89 rfl)) (mvT hZ (ow hw 88 rfl)) (by decide) (backOf (W := 1) (rm_coder l Z a0 hw [] t cs h0 n0 Z0 F_coder_t S_String_COMPACT_STRINGS hcs) hZ (ow hw 90 rfl) (ow hw 24 rfl) (by decide) (by decide)) q_3a q_3c (g := (mkF mM 11 #[.val (.ref a), .val (.ref t)] [(.ref t), (.int (0 : Int32))])) rfl (by rw [hml]; rfl) (Steps.refl _) (argsL := []) (rest := [(.int (0 : Int32))]) (lenOf pd_3 rfl) rfl (by show 2 * 0 + _ ≤ _; exact Nat.le_of_eq rfl) (hb hby d_jdk_68m71_11) (fun _ _ => ⟨rfl, e_2, (by decide : 0 + 0 ≤ _), (by decide : 0 + 0 ≤ _)⟩)
  dsimp only [Pt.U, Pt.locs, Pt.cells, Pt.slots] at X_3 l_3 y_3 z_3 st_3 hQ_3
  subst l_3 y_3 z_3
  obtain ⟨rfl, N_3q, eh_3⟩ := hQ_3
  have N_3 := Fr.app N0 N_3q
  obtain ⟨fs, hr, hrun, hended, hW, hsame⟩ := X_3.leave (v := none) (fun _ => rfl)
  refine ⟨_, _, pre0 _ ?_, hrun, hended, _, _, rfl, ?_, ⟨_, rfl⟩, hW, hsame.mono (by decide) (by decide)⟩
  · show oS pP eE below s₁ (mkF mM 0 #[.val (.ref a), .val (.ref t)] []) _
    refine st_1 _ ?_
    show oS pP eE below T_1 (mkF mM 3 #[.val (.ref a), .val (.ref t)] [(.int cs)]) _
    refine XS.ifNo X_1.here hx rfl (hb hby d_jdk_68m71_3) rfl (XT.i0_eq_f hcs) ?_
    refine XS.aloadN X_1.here hx rfl (hb hby d_jdk_68m71_6) rfl rfl ?_
    show oS pP eE below T_1 (mkF mM 7 #[.val (.ref a), .val (.ref t)] [(.ref a)]) _
    refine st_2 _ ?_
    show oS pP eE below T_2 (mkF mM 10 #[.val (.ref a), .val (.ref t)] [(.int (0 : Int32))]) _
    refine XS.aloadN X_2.here hx rfl (hb hby d_jdk_68m71_10) rfl rfl ?_
    show oS pP eE below T_2 (mkF mM 11 #[.val (.ref a), .val (.ref t)] [(.ref t), (.int (0 : Int32))]) _
    refine st_3.trans ?_
    show oS pP eE below T_3 (mkF mM 14 #[.val (.ref a), .val (.ref t)] [(.int (0 : Int32)), (.int (0 : Int32))]) _
    refine XS.icmpYes X_3.here hx rfl (pc0 := 14) (pc' := 21) rfl (hb hby d_jdk_68m71_14) rfl (by decide) (by decide) (by decide) ?_
    show oS pP eE below T_3 (mkF mM 21 #[.val (.ref a), .val (.ref t)] []) _
    exact X_3.returnOut hx Bd.returns (hb hby d_jdk_68m71_21) hr
  · show Q_infl Z a t cs h0 n0 _ T_3.heap _
    rw [eh_3]
    exact ⟨rfl, N_3, rfl⟩
theorem d_jdk_42m147_0 : decode jdk_42_method_147_code 0 = .ok (.aload_n 0, 1) := by decide +kernel
theorem d_jdk_42m147_1 : decode jdk_42_method_147_code 1 = .ok (.invokevirtual 335, 3) := by decide +kernel
theorem d_jdk_42m147_4 : decode jdk_42_method_147_code 4 = .ok (.iload_n 3, 1) := by decide +kernel
theorem d_jdk_42m147_5 : decode jdk_42_method_147_code 5 = .ok (.if_icmp .ne 23, 3) := by decide +kernel
theorem d_jdk_42m147_8 : decode jdk_42_method_147_code 8 = .ok (.aload_n 0, 1) := by decide +kernel
theorem d_jdk_42m147_9 : decode jdk_42_method_147_code 9 = .ok (.getfield 9, 3) := by decide +kernel
theorem d_jdk_42m147_12 : decode jdk_42_method_147_code 12 = .ok (.iconst 0, 1) := by decide +kernel
theorem d_jdk_42m147_13 : decode jdk_42_method_147_code 13 = .ok (.aload_n 1, 1) := by decide +kernel
theorem d_jdk_42m147_14 : decode jdk_42_method_147_code 14 = .ok (.iload_n 2, 1) := by decide +kernel
theorem d_jdk_42m147_15 : decode jdk_42_method_147_code 15 = .ok (.iload_n 3, 1) := by decide +kernel
theorem d_jdk_42m147_16 : decode jdk_42_method_147_code 16 = .ok (.ishl, 1) := by decide +kernel
theorem d_jdk_42m147_17 : decode jdk_42_method_147_code 17 = .ok (.aload_n 0, 1) := by decide +kernel
theorem d_jdk_42m147_18 : decode jdk_42_method_147_code 18 = .ok (.getfield 9, 3) := by decide +kernel
theorem d_jdk_42m147_21 : decode jdk_42_method_147_code 21 = .ok (.arraylength, 1) := by decide +kernel
theorem d_jdk_42m147_22 : decode jdk_42_method_147_code 22 = .ok (.invokestatic 212, 3) := by decide +kernel
theorem d_jdk_42m147_25 : decode jdk_42_method_147_code 25 = .ok (.goto 18, 3) := by decide +kernel
theorem d_jdk_42m147_43 : decode jdk_42_method_147_code 43 = .ok (.return_, 1) := by decide +kernel
theorem ef_gb41 (mM : MethodId) (x0 : Addr) (x1 : Addr) (x2 : Int32) (x3 : Int32) : entryFrame mM #[(.ref x0), (.ref x1), (.int x2), (.int x3)] 4 = mkF mM 0 #[.val (.ref x0), .val (.ref x1), .val (.int x2), .val (.int x3)] [] := by first | (simp [entryFrame, mkF, argsToLocals, Value.category]; done) | rfl
def Q_gb41 (Z : State) (t : Addr) (tv : Addr) (kt : ClassId) (d : Addr) (k : ClassId) (cs : Int32) (h0 : Heap) (n0 : Nat) (v_ : Option Value) (h_ : Heap) (L_ : List Loc) : Prop := v_ = none ∧ Fr n0 L_ ∧ Keep h0 h_ [d] ∧ Arv Z h_ d k .byte (41 : Int32) [(.int (83 : Int32)), (.int (69 : Int32)), (.int (84 : Int32)), (.int (32 : Int32)), (.int (83 : Int32)), (.int (84 : Int32)), (.int (65 : Int32)), (.int (84 : Int32)), (.int (69 : Int32)), (.int (77 : Int32)), (.int (69 : Int32)), (.int (78 : Int32)), (.int (84 : Int32)), (.int (32 : Int32)), (.int (102 : Int32)), (.int (111 : Int32)), (.int (114 : Int32)), (.int (101 : Int32)), (.int (105 : Int32)), (.int (103 : Int32)), (.int (110 : Int32)), (.int (95 : Int32)), (.int (107 : Int32)), (.int (101 : Int32)), (.int (121 : Int32)), (.int (95 : Int32)), (.int (99 : Int32)), (.int (104 : Int32)), (.int (101 : Int32)), (.int (99 : Int32)), (.int (107 : Int32)), (.int (115 : Int32)), (.int (32 : Int32)), (.int (61 : Int32)), (.int (32 : Int32)), (.int (48 : Int32)), (.int (32 : Int32)), (.int (70 : Int32)), (.int (79 : Int32)), (.int (82 : Int32)), (.int (32 : Int32))] (.int (0 : Int32))
set_option maxRecDepth 65536 in
set_option maxHeartbeats 40000000 in
theorem rm_gb41 (l : Launch) (Z : State) (a0 : Array Value) (hw : ∀ d ∈ tables_1, d.before a0 Z = true) (ws : List Jvm.Cond) (t : Addr) (tv : Addr) (kt : ClassId) (d : Addr) (k : ClassId) (cs : Int32) (h0 : Heap) (n0 : Nat) (Z0 : n0 ≤ h0.size) (F_value_t : Fld Z h0 t "java/lang/String" "value" "[B" (.ref tv)) (F_coder_t : Fld Z h0 t "java/lang/String" "coder" "B" (.int (0 : Int32))) (E_t : Exa Z h0 t "java/lang/String") (V_tv : Arv Z h0 tv kt .byte (41 : Int32) [(.int (83 : Int32)), (.int (69 : Int32)), (.int (84 : Int32)), (.int (32 : Int32)), (.int (83 : Int32)), (.int (84 : Int32)), (.int (65 : Int32)), (.int (84 : Int32)), (.int (69 : Int32)), (.int (77 : Int32)), (.int (69 : Int32)), (.int (78 : Int32)), (.int (84 : Int32)), (.int (32 : Int32)), (.int (102 : Int32)), (.int (111 : Int32)), (.int (114 : Int32)), (.int (101 : Int32)), (.int (105 : Int32)), (.int (103 : Int32)), (.int (110 : Int32)), (.int (95 : Int32)), (.int (107 : Int32)), (.int (101 : Int32)), (.int (121 : Int32)), (.int (95 : Int32)), (.int (99 : Int32)), (.int (104 : Int32)), (.int (101 : Int32)), (.int (99 : Int32)), (.int (107 : Int32)), (.int (115 : Int32)), (.int (32 : Int32)), (.int (61 : Int32)), (.int (32 : Int32)), (.int (48 : Int32)), (.int (32 : Int32)), (.int (70 : Int32)), (.int (79 : Int32)), (.int (82 : Int32)), (.int (32 : Int32))] (.int (0 : Int32))) (V_d : Arv Z h0 d k .byte (41 : Int32) [(.int (0 : Int32)), (.int (0 : Int32)), (.int (0 : Int32)), (.int (0 : Int32)), (.int (0 : Int32)), (.int (0 : Int32)), (.int (0 : Int32)), (.int (0 : Int32)), (.int (0 : Int32)), (.int (0 : Int32)), (.int (0 : Int32)), (.int (0 : Int32)), (.int (0 : Int32)), (.int (0 : Int32)), (.int (0 : Int32)), (.int (0 : Int32)), (.int (0 : Int32)), (.int (0 : Int32)), (.int (0 : Int32)), (.int (0 : Int32)), (.int (0 : Int32)), (.int (0 : Int32)), (.int (0 : Int32)), (.int (0 : Int32)), (.int (0 : Int32)), (.int (0 : Int32)), (.int (0 : Int32)), (.int (0 : Int32)), (.int (0 : Int32)), (.int (0 : Int32)), (.int (0 : Int32)), (.int (0 : Int32)), (.int (0 : Int32)), (.int (0 : Int32)), (.int (0 : Int32)), (.int (0 : Int32)), (.int (0 : Int32)), (.int (0 : Int32)), (.int (0 : Int32)), (.int (0 : Int32)), (.int (0 : Int32))] (.int (0 : Int32))) (g_d : n0 ≤ d) (S_String_COMPACT_STRINGS : Sta Z h0 "java/lang/String" "COMPACT_STRINGS" "Z" (.int cs)) (hcs : ¬ cs = 0) :
    MetFree l (⟨"java/lang/String", "getBytes", "([BIB)V"⟩ : MethodName) (head1 (Jvm.Cond.code (⟨"java/lang/String", "getBytes", "([BIB)V"⟩ : MethodName) jdk_42_method_147_code 4 none :: ws) ({ frames := 1, cells := 0, slots := 0, locals := 18 } : Room)) (fun aa_ U_ => aa_ = #[(.ref t), (.ref d), (.int (0 : Int32)), (.int (0 : Int32))] ∧ Z.Warmed39 U_.vm ∧ U_.heap = h0) (fun _ _ _ _ _ => True) (fun _ U_ o_ U'_ => ∃ v_ L_, o_ = .returned v_ ∧ Q_gb41 Z t tv kt d k cs h0 n0 v_ U'_.heap L_ ∧ FrameEnd U_ o_ U'_ L_ ({ frames := 1, cells := 0, slots := 0, locals := 18 } : Room).cells ({ frames := 1, cells := 0, slots := 0, locals := 18 } : Room).slots) := by
  refine MetFree.of_bodySF (plainFor_of_name pn_2) hisR ?_
  intro pP eE sS mM argsA below meth cC s₁ Bd hml0 hP hK
  obtain ⟨rfl, hZ, hh⟩ := hP
  have hx := Bd.exec
  have hby := Bd.bytes
  have hml : cC.maxLocals = 4 := hml0
  have hown : sS.vm.findClass "java/lang/String" = some mM.cls := findClass_of_methodNamed Bd.named
  have hnm := (name_of_methodNamed Bd.named Bd.method).1
  have X0 : Stand pP l eE ({ frames := 1, cells := 0, slots := 0, locals := 18 } : Room) sS mM #[(.ref t), (.ref d), (.int (0 : Int32)), (.int (0 : Int32))] below meth cC s₁ [] 0 0 := Stand.of_body Bd
  have e0 : s₁.heap = h0 := by rw [← hh, Bd.state]; rfl
  have N0 := Fr.nil n0
  have pre0 : ∀ t_, Steps pP.tables eE below (s₁.setTop (mkF mM 0 #[.val (.ref t), .val (.ref d), .val (.int (0 : Int32)), .val (.int (0 : Int32))] [])) t_ → Steps pP.tables eE below (s₁.setTop (entryFrame mM #[(.ref t), (.ref d), (.int (0 : Int32)), (.int (0 : Int32))] 4)) t_ := fun t_ k_ => castTop (ef_gb41 mM t d (0 : Int32) (0 : Int32)) k_
  obtain ⟨cq_1, kq_1, q_1a, q_1b, q_1c⟩ := isOf hZ e0 E_t
  obtain ⟨_, _, ⟨T_1, L_1, k_1, n_1⟩, -, X_1, ⟨Lc_1, hQ_1, l_1, y_1, z_1⟩, st_1⟩ := X0.virtualBack hx (y := MN3) (z := MN3) hown (mvT hZ (ow hw 86 rfl)) (mvT hZ (ow hw 87 rfl)) (notFace_of_selects (args := #[]) (mvT hZ (ow hw 89 rfl))) (mvT hZ (ow hw 89 rfl)) (mvT hZ (ow hw 88 rfl)) (by decide) (backOf (W := 0) (rm_coder l Z a0 hw [] t cs h0 n0 Z0 F_coder_t S_String_COMPACT_STRINGS hcs) hZ (ow hw 90 rfl) (ow hw 24 rfl) (by decide) (by decide)) q_1a q_1c (g := (mkF mM 1 #[.val (.ref t), .val (.ref d), .val (.int (0 : Int32)), .val (.int (0 : Int32))] [(.ref t)])) rfl (by rw [hml]; rfl) (Steps.refl _) (argsL := []) (rest := []) (lenOf pd_3 rfl) rfl (by show 2 * 0 + _ ≤ _; exact Nat.le_of_eq rfl) (hb hby d_jdk_42m147_1) (fun _ _ => ⟨rfl, e0, (by decide : 0 + 0 ≤ _), (by decide : 0 + 0 ≤ _)⟩)
  dsimp only [Pt.U, Pt.locs, Pt.cells, Pt.slots] at X_1 l_1 y_1 z_1 st_1 hQ_1
  subst l_1 y_1 z_1
  obtain ⟨rfl, N_1q, eh_1⟩ := hQ_1
  have N_1 := Fr.app N0 N_1q
  obtain ⟨T_2, X_2, e_2, st_2⟩ := getF X_1 hx hZ hown (host := "") (Or.inl (ow hw 44 rfl)) Via.refl eh_1 F_value_t (g := (mkF mM 9 #[.val (.ref t), .val (.ref d), .val (.int (0 : Int32)), .val (.int (0 : Int32))] [(.ref t)])) rfl rfl (hb hby d_jdk_42m147_9)
  obtain ⟨T_3, X_3, e_3, st_3⟩ := getF X_2 hx hZ hown (host := "") (Or.inl (ow hw 44 rfl)) Via.refl e_2 F_value_t (g := (mkF mM 18 #[.val (.ref t), .val (.ref d), .val (.int (0 : Int32)), .val (.int (0 : Int32))] [(.ref t), (.int (0 : Int32)), (.ref d), (.int (0 : Int32)), (.ref tv)])) rfl rfl (hb hby d_jdk_42m147_18)
  obtain ⟨cl_4, Ar_4, -, Sa_4, Na_4, -, -⟩ := id V_tv
  obtain ⟨T_5, h_5, L_5, X_5, e_5, N_5, Kc_5, V_5, st_5⟩ := cpA X_3 hx hZ hown (ow hw 140 rfl) (ow hw 123 rfl) (ow hw 121 rfl) (ow hw 122 rfl) e_3 V_tv V_d (Or.inl ⟨rfl, rfl⟩) (sp := (0 : Int32)) (dp := (0 : Int32)) (nn := (41 : Int32)) (us := [(.int (83 : Int32)), (.int (69 : Int32)), (.int (84 : Int32)), (.int (32 : Int32)), (.int (83 : Int32)), (.int (84 : Int32)), (.int (65 : Int32)), (.int (84 : Int32)), (.int (69 : Int32)), (.int (77 : Int32)), (.int (69 : Int32)), (.int (78 : Int32)), (.int (84 : Int32)), (.int (32 : Int32)), (.int (102 : Int32)), (.int (111 : Int32)), (.int (114 : Int32)), (.int (101 : Int32)), (.int (105 : Int32)), (.int (103 : Int32)), (.int (110 : Int32)), (.int (95 : Int32)), (.int (107 : Int32)), (.int (101 : Int32)), (.int (121 : Int32)), (.int (95 : Int32)), (.int (99 : Int32)), (.int (104 : Int32)), (.int (101 : Int32)), (.int (99 : Int32)), (.int (107 : Int32)), (.int (115 : Int32)), (.int (32 : Int32)), (.int (61 : Int32)), (.int (32 : Int32)), (.int (48 : Int32)), (.int (32 : Int32)), (.int (70 : Int32)), (.int (79 : Int32)), (.int (82 : Int32)), (.int (32 : Int32))]) (by decide) (by decide) (by decide) (by decide) (by decide) rfl (by decide) N_1 g_d (g := (mkF mM 22 #[.val (.ref t), .val (.ref d), .val (.int (0 : Int32)), .val (.int (0 : Int32))] [(.int (41 : Int32)), (.int (0 : Int32)), (.ref d), (.int (0 : Int32)), (.ref tv)])) rfl (by rw [hml]; rfl) rfl (hb hby d_jdk_42m147_22) (by decide) (W := 0) (by show 2 * 0 + _ ≤ _; exact Nat.le_of_eq rfl) (by decide)
  have Z_5 : n0 ≤ h_5.size := (Nat.le_trans Z0 Kc_5.1)
  have K_5 : Keep h0 h_5 [d] := (Keep.refl h0 [d]).trans Kc_5 (allS (Or.inl (List.mem_of_getElem? (i := 0) rfl)) all0)
  have Va_5 : Arv Z h_5 d k .byte (41 : Int32) [(.int (83 : Int32)), (.int (69 : Int32)), (.int (84 : Int32)), (.int (32 : Int32)), (.int (83 : Int32)), (.int (84 : Int32)), (.int (65 : Int32)), (.int (84 : Int32)), (.int (69 : Int32)), (.int (77 : Int32)), (.int (69 : Int32)), (.int (78 : Int32)), (.int (84 : Int32)), (.int (32 : Int32)), (.int (102 : Int32)), (.int (111 : Int32)), (.int (114 : Int32)), (.int (101 : Int32)), (.int (105 : Int32)), (.int (103 : Int32)), (.int (110 : Int32)), (.int (95 : Int32)), (.int (107 : Int32)), (.int (101 : Int32)), (.int (121 : Int32)), (.int (95 : Int32)), (.int (99 : Int32)), (.int (104 : Int32)), (.int (101 : Int32)), (.int (99 : Int32)), (.int (107 : Int32)), (.int (115 : Int32)), (.int (32 : Int32)), (.int (61 : Int32)), (.int (32 : Int32)), (.int (48 : Int32)), (.int (32 : Int32)), (.int (70 : Int32)), (.int (79 : Int32)), (.int (82 : Int32)), (.int (32 : Int32))] (.int (0 : Int32)) := V_5
  obtain ⟨fs, hr, hrun, hended, hW, hsame⟩ := X_5.leave (v := none) (fun _ => rfl)
  refine ⟨_, _, pre0 _ ?_, hrun, hended, _, _, rfl, ?_, ⟨_, rfl⟩, hW, hsame.mono (by decide) (by decide)⟩
  · show oS pP eE below s₁ (mkF mM 0 #[.val (.ref t), .val (.ref d), .val (.int (0 : Int32)), .val (.int (0 : Int32))] []) _
    refine XS.aloadN X0.here hx rfl (hb hby d_jdk_42m147_0) rfl rfl ?_
    show oS pP eE below s₁ (mkF mM 1 #[.val (.ref t), .val (.ref d), .val (.int (0 : Int32)), .val (.int (0 : Int32))] [(.ref t)]) _
    refine st_1.trans ?_
    show oS pP eE below T_1 (mkF mM 4 #[.val (.ref t), .val (.ref d), .val (.int (0 : Int32)), .val (.int (0 : Int32))] [(.int (0 : Int32))]) _
    refine XS.iloadN X_1.here hx rfl (hb hby d_jdk_42m147_4) rfl ?_
    refine XS.icmpNo X_1.here hx rfl (hb hby d_jdk_42m147_5) rfl (by decide) ?_
    refine XS.aloadN X_1.here hx rfl (hb hby d_jdk_42m147_8) rfl rfl ?_
    show oS pP eE below T_1 (mkF mM 9 #[.val (.ref t), .val (.ref d), .val (.int (0 : Int32)), .val (.int (0 : Int32))] [(.ref t)]) _
    refine st_2 _ ?_
    show oS pP eE below T_2 (mkF mM 12 #[.val (.ref t), .val (.ref d), .val (.int (0 : Int32)), .val (.int (0 : Int32))] [(.ref tv)]) _
    refine XS.iconst X_2.here hx rfl (hb hby d_jdk_42m147_12) ?_
    refine XS.aloadN X_2.here hx rfl (hb hby d_jdk_42m147_13) rfl rfl ?_
    refine XS.iloadN X_2.here hx rfl (hb hby d_jdk_42m147_14) rfl ?_
    refine XS.iloadN X_2.here hx rfl (hb hby d_jdk_42m147_15) rfl ?_
    show oS pP eE below T_2 (mkF mM 16 #[.val (.ref t), .val (.ref d), .val (.int (0 : Int32)), .val (.int (0 : Int32))] [(.int (0 : Int32)), (.int (0 : Int32)), (.ref d), (.int (0 : Int32)), (.ref tv)]) _
    refine XT.ishl X_2.here hx rfl (hb hby d_jdk_42m147_16) rfl ?_
    show oS pP eE below T_2 (mkF mM 17 #[.val (.ref t), .val (.ref d), .val (.int (0 : Int32)), .val (.int (0 : Int32))] [(.int ((0 : Int32) <<< ((0 : Int32) &&& 31))), (.ref d), (.int (0 : Int32)), (.ref tv)]) _
    rw [(by decide : ((0 : Int32) <<< ((0 : Int32) &&& 31)) = (0 : Int32))]
    refine XS.aloadN X_2.here hx rfl (hb hby d_jdk_42m147_17) rfl rfl ?_
    show oS pP eE below T_2 (mkF mM 18 #[.val (.ref t), .val (.ref d), .val (.int (0 : Int32)), .val (.int (0 : Int32))] [(.ref t), (.int (0 : Int32)), (.ref d), (.int (0 : Int32)), (.ref tv)]) _
    refine st_3 _ ?_
    show oS pP eE below T_3 (mkF mM 21 #[.val (.ref t), .val (.ref d), .val (.int (0 : Int32)), .val (.int (0 : Int32))] [(.ref tv), (.int (0 : Int32)), (.ref d), (.int (0 : Int32)), (.ref tv)]) _
    refine X_3.arraylength hx (by rw [e_3]; exact Ar_4.1) (State.isArrayOf_alike hZ.alike Ar_4.2.1) (g := (mkF mM 21 #[.val (.ref t), .val (.ref d), .val (.int (0 : Int32)), .val (.int (0 : Int32))] [(.ref tv), (.int (0 : Int32)), (.ref d), (.int (0 : Int32)), (.ref tv)])) rfl rfl (hb hby d_jdk_42m147_21) _ ?_
    rw [len_of Sa_4 Na_4]
    show oS pP eE below T_3 (mkF mM 22 #[.val (.ref t), .val (.ref d), .val (.int (0 : Int32)), .val (.int (0 : Int32))] [(.int (41 : Int32)), (.int (0 : Int32)), (.ref d), (.int (0 : Int32)), (.ref tv)]) _
    refine st_5 _ ?_
    show oS pP eE below T_5 (mkF mM 25 #[.val (.ref t), .val (.ref d), .val (.int (0 : Int32)), .val (.int (0 : Int32))] []) _
    refine XS.goto X_5.here hx rfl (pc0 := 25) (pc' := 43) rfl (hb hby d_jdk_42m147_25) (by decide) (by decide) ?_
    show oS pP eE below T_5 (mkF mM 43 #[.val (.ref t), .val (.ref d), .val (.int (0 : Int32)), .val (.int (0 : Int32))] []) _
    exact X_5.returnOut hx Bd.returns (hb hby d_jdk_42m147_43) hr
  · show Q_gb41 Z t tv kt d k cs h0 n0 _ T_5.heap _
    rw [e_5]
    exact ⟨rfl, N_5, K_5, Va_5⟩
theorem d_jdk_68m73_0 : decode jdk_68_method_73_code 0 = .ok (.aload_n 0, 1) := by decide +kernel
theorem d_jdk_68m73_1 : decode jdk_68_method_73_code 1 = .ok (.aload_n 2, 1) := by decide +kernel
theorem d_jdk_68m73_2 : decode jdk_68_method_73_code 2 = .ok (.invokevirtual 397, 3) := by decide +kernel
theorem pd_9 : parseMethodDescriptor "(Ljava/lang/String;)V" = some ⟨[(.object "java/lang/String")], none⟩ := by decide +kernel
abbrev MN10 : MethodName := ⟨"java/lang/AbstractStringBuilder", "inflateIfNeededFor", "(Ljava/lang/String;)V"⟩
theorem d_jdk_68m73_5 : decode jdk_68_method_73_code 5 = .ok (.aload_n 2, 1) := by decide +kernel
theorem d_jdk_68m73_6 : decode jdk_68_method_73_code 6 = .ok (.aload_n 0, 1) := by decide +kernel
theorem d_jdk_68m73_7 : decode jdk_68_method_73_code 7 = .ok (.getfield 15, 3) := by decide +kernel
theorem d_jdk_68m73_10 : decode jdk_68_method_73_code 10 = .ok (.iload_n 1, 1) := by decide +kernel
theorem d_jdk_68m73_11 : decode jdk_68_method_73_code 11 = .ok (.aload_n 0, 1) := by decide +kernel
theorem d_jdk_68m73_12 : decode jdk_68_method_73_code 12 = .ok (.getfield 22, 3) := by decide +kernel
theorem d_jdk_68m73_15 : decode jdk_68_method_73_code 15 = .ok (.invokevirtual 399, 3) := by decide +kernel
theorem pd_10 : parseMethodDescriptor "([BIB)V" = some ⟨[(.array .byte), .int, .byte], none⟩ := by decide +kernel
abbrev MN11 : MethodName := ⟨"java/lang/String", "getBytes", "([BIB)V"⟩
theorem d_jdk_68m73_18 : decode jdk_68_method_73_code 18 = .ok (.return_, 1) := by decide +kernel
theorem ef_put41 (mM : MethodId) (x0 : Addr) (x1 : Int32) (x2 : Addr) : entryFrame mM #[(.ref x0), (.int x1), (.ref x2)] 3 = mkF mM 0 #[.val (.ref x0), .val (.int x1), .val (.ref x2)] [] := by first | (simp [entryFrame, mkF, argsToLocals, Value.category]; done) | rfl
def Q_put41 (Z : State) (a : Addr) (t : Addr) (tv : Addr) (kt : ClassId) (d : Addr) (k : ClassId) (cs : Int32) (h0 : Heap) (n0 : Nat) (v_ : Option Value) (h_ : Heap) (L_ : List Loc) : Prop := v_ = none ∧ Fr n0 L_ ∧ Keep h0 h_ [d] ∧ Arv Z h_ d k .byte (41 : Int32) [(.int (83 : Int32)), (.int (69 : Int32)), (.int (84 : Int32)), (.int (32 : Int32)), (.int (83 : Int32)), (.int (84 : Int32)), (.int (65 : Int32)), (.int (84 : Int32)), (.int (69 : Int32)), (.int (77 : Int32)), (.int (69 : Int32)), (.int (78 : Int32)), (.int (84 : Int32)), (.int (32 : Int32)), (.int (102 : Int32)), (.int (111 : Int32)), (.int (114 : Int32)), (.int (101 : Int32)), (.int (105 : Int32)), (.int (103 : Int32)), (.int (110 : Int32)), (.int (95 : Int32)), (.int (107 : Int32)), (.int (101 : Int32)), (.int (121 : Int32)), (.int (95 : Int32)), (.int (99 : Int32)), (.int (104 : Int32)), (.int (101 : Int32)), (.int (99 : Int32)), (.int (107 : Int32)), (.int (115 : Int32)), (.int (32 : Int32)), (.int (61 : Int32)), (.int (32 : Int32)), (.int (48 : Int32)), (.int (32 : Int32)), (.int (70 : Int32)), (.int (79 : Int32)), (.int (82 : Int32)), (.int (32 : Int32))] (.int (0 : Int32))
set_option maxRecDepth 65536 in
set_option maxHeartbeats 40000000 in
theorem rm_put41 (l : Launch) (Z : State) (a0 : Array Value) (hw : ∀ d ∈ tables_1, d.before a0 Z = true) (ws : List Jvm.Cond) (a : Addr) (t : Addr) (tv : Addr) (kt : ClassId) (d : Addr) (k : ClassId) (cs : Int32) (h0 : Heap) (n0 : Nat) (Z0 : n0 ≤ h0.size) (F_value_a : Fld Z h0 a "java/lang/AbstractStringBuilder" "value" "[B" (.ref d)) (F_coder_a : Fld Z h0 a "java/lang/AbstractStringBuilder" "coder" "B" (.int (0 : Int32))) (F_count_a : Fld Z h0 a "java/lang/AbstractStringBuilder" "count" "I" (.int (0 : Int32))) (E_a : Exa Z h0 a "java/lang/StringBuilder") (F_value_t : Fld Z h0 t "java/lang/String" "value" "[B" (.ref tv)) (F_coder_t : Fld Z h0 t "java/lang/String" "coder" "B" (.int (0 : Int32))) (E_t : Exa Z h0 t "java/lang/String") (V_tv : Arv Z h0 tv kt .byte (41 : Int32) [(.int (83 : Int32)), (.int (69 : Int32)), (.int (84 : Int32)), (.int (32 : Int32)), (.int (83 : Int32)), (.int (84 : Int32)), (.int (65 : Int32)), (.int (84 : Int32)), (.int (69 : Int32)), (.int (77 : Int32)), (.int (69 : Int32)), (.int (78 : Int32)), (.int (84 : Int32)), (.int (32 : Int32)), (.int (102 : Int32)), (.int (111 : Int32)), (.int (114 : Int32)), (.int (101 : Int32)), (.int (105 : Int32)), (.int (103 : Int32)), (.int (110 : Int32)), (.int (95 : Int32)), (.int (107 : Int32)), (.int (101 : Int32)), (.int (121 : Int32)), (.int (95 : Int32)), (.int (99 : Int32)), (.int (104 : Int32)), (.int (101 : Int32)), (.int (99 : Int32)), (.int (107 : Int32)), (.int (115 : Int32)), (.int (32 : Int32)), (.int (61 : Int32)), (.int (32 : Int32)), (.int (48 : Int32)), (.int (32 : Int32)), (.int (70 : Int32)), (.int (79 : Int32)), (.int (82 : Int32)), (.int (32 : Int32))] (.int (0 : Int32))) (V_d : Arv Z h0 d k .byte (41 : Int32) [(.int (0 : Int32)), (.int (0 : Int32)), (.int (0 : Int32)), (.int (0 : Int32)), (.int (0 : Int32)), (.int (0 : Int32)), (.int (0 : Int32)), (.int (0 : Int32)), (.int (0 : Int32)), (.int (0 : Int32)), (.int (0 : Int32)), (.int (0 : Int32)), (.int (0 : Int32)), (.int (0 : Int32)), (.int (0 : Int32)), (.int (0 : Int32)), (.int (0 : Int32)), (.int (0 : Int32)), (.int (0 : Int32)), (.int (0 : Int32)), (.int (0 : Int32)), (.int (0 : Int32)), (.int (0 : Int32)), (.int (0 : Int32)), (.int (0 : Int32)), (.int (0 : Int32)), (.int (0 : Int32)), (.int (0 : Int32)), (.int (0 : Int32)), (.int (0 : Int32)), (.int (0 : Int32)), (.int (0 : Int32)), (.int (0 : Int32)), (.int (0 : Int32)), (.int (0 : Int32)), (.int (0 : Int32)), (.int (0 : Int32)), (.int (0 : Int32)), (.int (0 : Int32)), (.int (0 : Int32)), (.int (0 : Int32))] (.int (0 : Int32))) (g_d : n0 ≤ d) (S_String_COMPACT_STRINGS : Sta Z h0 "java/lang/String" "COMPACT_STRINGS" "Z" (.int cs)) (hcs : ¬ cs = 0) :
    MetFree l (⟨"java/lang/AbstractStringBuilder", "putStringAt", "(ILjava/lang/String;)V"⟩ : MethodName) (head1 (Jvm.Cond.code (⟨"java/lang/AbstractStringBuilder", "putStringAt", "(ILjava/lang/String;)V"⟩ : MethodName) jdk_68_method_73_code 3 none :: ws) ({ frames := 2, cells := 0, slots := 0, locals := 33 } : Room)) (fun aa_ U_ => aa_ = #[(.ref a), (.int (0 : Int32)), (.ref t)] ∧ Z.Warmed39 U_.vm ∧ U_.heap = h0) (fun _ _ _ _ _ => True) (fun _ U_ o_ U'_ => ∃ v_ L_, o_ = .returned v_ ∧ Q_put41 Z a t tv kt d k cs h0 n0 v_ U'_.heap L_ ∧ FrameEnd U_ o_ U'_ L_ ({ frames := 2, cells := 0, slots := 0, locals := 33 } : Room).cells ({ frames := 2, cells := 0, slots := 0, locals := 33 } : Room).slots) := by
  refine MetFree.of_bodySF (plainFor_of_name pn_3) hisR ?_
  intro pP eE sS mM argsA below meth cC s₁ Bd hml0 hP hK
  obtain ⟨rfl, hZ, hh⟩ := hP
  have hx := Bd.exec
  have hby := Bd.bytes
  have hml : cC.maxLocals = 3 := hml0
  have hown : sS.vm.findClass "java/lang/AbstractStringBuilder" = some mM.cls := findClass_of_methodNamed Bd.named
  have hnm := (name_of_methodNamed Bd.named Bd.method).1
  have X0 : Stand pP l eE ({ frames := 2, cells := 0, slots := 0, locals := 33 } : Room) sS mM #[(.ref a), (.int (0 : Int32)), (.ref t)] below meth cC s₁ [] 0 0 := Stand.of_body Bd
  have e0 : s₁.heap = h0 := by rw [← hh, Bd.state]; rfl
  have N0 := Fr.nil n0
  have pre0 : ∀ t_, Steps pP.tables eE below (s₁.setTop (mkF mM 0 #[.val (.ref a), .val (.int (0 : Int32)), .val (.ref t)] [])) t_ → Steps pP.tables eE below (s₁.setTop (entryFrame mM #[(.ref a), (.int (0 : Int32)), (.ref t)] 3)) t_ := fun t_ k_ => castTop (ef_put41 mM a (0 : Int32) t) k_
  obtain ⟨cq_1, kq_1, q_1a, q_1b, q_1c⟩ := isOf hZ e0 E_a
  obtain ⟨_, _, ⟨T_1, L_1, k_1, n_1⟩, -, X_1, ⟨Lc_1, hQ_1, l_1, y_1, z_1⟩, st_1⟩ := X0.virtualBack hx (y := MN10) (z := MN10) hown (mvT hZ (ow hw 129 rfl)) (own_decl (mvT hZ (ow hw 130 rfl)) (mvT hZ (ow hw 133 rfl))) (notFace_of_selects (args := #[]) (mvT hZ (ow hw 132 rfl))) (mvT hZ (ow hw 132 rfl)) (mvT hZ (ow hw 130 rfl)) (by decide) (backOf (W := 0) (rm_infl l Z a0 hw [] a t cs h0 n0 Z0 F_coder_a F_coder_t E_t S_String_COMPACT_STRINGS hcs) hZ (ow hw 133 rfl) (ow hw 63 rfl) (by decide) (by decide)) q_1a q_1c (g := (mkF mM 2 #[.val (.ref a), .val (.int (0 : Int32)), .val (.ref t)] [(.ref t), (.ref a)])) rfl (by rw [hml]; rfl) (Steps.refl _) (argsL := [(.ref t)]) (rest := []) (lenOf pd_9 rfl) rfl (by show 2 * 0 + _ ≤ _; exact Nat.le_of_eq rfl) (hb hby d_jdk_68m73_2) (fun _ _ => ⟨rfl, e0, (by decide : 0 + 0 ≤ _), (by decide : 0 + 0 ≤ _)⟩)
  dsimp only [Pt.U, Pt.locs, Pt.cells, Pt.slots] at X_1 l_1 y_1 z_1 st_1 hQ_1
  subst l_1 y_1 z_1
  obtain ⟨rfl, N_1q, eh_1⟩ := hQ_1
  have N_1 := Fr.app N0 N_1q
  obtain ⟨T_2, X_2, e_2, st_2⟩ := getF X_1 hx hZ hown (host := "") (Or.inl (ow hw 67 rfl)) Via.refl eh_1 F_value_a (g := (mkF mM 7 #[.val (.ref a), .val (.int (0 : Int32)), .val (.ref t)] [(.ref a), (.ref t)])) rfl rfl (hb hby d_jdk_68m73_7)
  obtain ⟨T_3, X_3, e_3, st_3⟩ := getF X_2 hx hZ hown (host := "") (Or.inl (ow hw 69 rfl)) Via.refl e_2 F_coder_a (g := (mkF mM 12 #[.val (.ref a), .val (.int (0 : Int32)), .val (.ref t)] [(.ref a), (.int (0 : Int32)), (.ref d), (.ref t)])) rfl rfl (hb hby d_jdk_68m73_12)
  obtain ⟨cq_4, kq_4, q_4a, q_4b, q_4c⟩ := isOf hZ e_3 E_t
  obtain ⟨_, _, ⟨T_4, L_4, k_4, n_4⟩, -, X_4, ⟨Lc_4, hQ_4, l_4, y_4, z_4⟩, st_4⟩ := X_3.virtualBack hx (y := MN11) (z := MN11) hown (mvT hZ (ow hw 135 rfl)) (mvT hZ (ow hw 136 rfl)) (notFace_of_selects (args := #[]) (mvT hZ (ow hw 138 rfl))) (mvT hZ (ow hw 138 rfl)) (mvT hZ (ow hw 137 rfl)) (by decide) (backOf (W := 0) (rm_gb41 l Z a0 hw [] t tv kt d k cs h0 n0 Z0 F_value_t F_coder_t E_t V_tv V_d g_d S_String_COMPACT_STRINGS hcs) hZ (ow hw 139 rfl) (ow hw 24 rfl) (by decide) (by decide)) q_4a q_4c (g := (mkF mM 15 #[.val (.ref a), .val (.int (0 : Int32)), .val (.ref t)] [(.int (0 : Int32)), (.int (0 : Int32)), (.ref d), (.ref t)])) rfl (by rw [hml]; rfl) (Steps.refl _) (argsL := [(.ref d), (.int (0 : Int32)), (.int (0 : Int32))]) (rest := []) (lenOf pd_10 rfl) rfl (by show 2 * 0 + _ ≤ _; exact Nat.le_of_eq rfl) (hb hby d_jdk_68m73_15) (fun _ _ => ⟨rfl, e_3, (by decide : 0 + 0 ≤ _), (by decide : 0 + 0 ≤ _)⟩)
  dsimp only [Pt.U, Pt.locs, Pt.cells, Pt.slots] at X_4 l_4 y_4 z_4 st_4 hQ_4
  subst l_4 y_4 z_4
  obtain ⟨rfl, N_4q, Kc_4, pfV_d_4⟩ := hQ_4
  have Z_4 : n0 ≤ T_4.heap.size := (Nat.le_trans Z0 Kc_4.1)
  have K_4 : Keep h0 T_4.heap [d] := (Keep.refl h0 [d]).trans Kc_4 (allS (Or.inl (List.mem_of_getElem? (i := 0) rfl)) all0)
  have N_4 := Fr.app N_1 N_4q
  obtain ⟨fs, hr, hrun, hended, hW, hsame⟩ := X_4.leave (v := none) (fun _ => rfl)
  refine ⟨_, _, pre0 _ ?_, hrun, hended, _, _, rfl, ?_, ⟨_, rfl⟩, hW, hsame.mono (by decide) (by decide)⟩
  · show oS pP eE below s₁ (mkF mM 0 #[.val (.ref a), .val (.int (0 : Int32)), .val (.ref t)] []) _
    refine XS.aloadN X0.here hx rfl (hb hby d_jdk_68m73_0) rfl rfl ?_
    refine XS.aloadN X0.here hx rfl (hb hby d_jdk_68m73_1) rfl rfl ?_
    show oS pP eE below s₁ (mkF mM 2 #[.val (.ref a), .val (.int (0 : Int32)), .val (.ref t)] [(.ref t), (.ref a)]) _
    refine st_1.trans ?_
    show oS pP eE below T_1 (mkF mM 5 #[.val (.ref a), .val (.int (0 : Int32)), .val (.ref t)] []) _
    refine XS.aloadN X_1.here hx rfl (hb hby d_jdk_68m73_5) rfl rfl ?_
    refine XS.aloadN X_1.here hx rfl (hb hby d_jdk_68m73_6) rfl rfl ?_
    show oS pP eE below T_1 (mkF mM 7 #[.val (.ref a), .val (.int (0 : Int32)), .val (.ref t)] [(.ref a), (.ref t)]) _
    refine st_2 _ ?_
    show oS pP eE below T_2 (mkF mM 10 #[.val (.ref a), .val (.int (0 : Int32)), .val (.ref t)] [(.ref d), (.ref t)]) _
    refine XS.iloadN X_2.here hx rfl (hb hby d_jdk_68m73_10) rfl ?_
    refine XS.aloadN X_2.here hx rfl (hb hby d_jdk_68m73_11) rfl rfl ?_
    show oS pP eE below T_2 (mkF mM 12 #[.val (.ref a), .val (.int (0 : Int32)), .val (.ref t)] [(.ref a), (.int (0 : Int32)), (.ref d), (.ref t)]) _
    refine st_3 _ ?_
    show oS pP eE below T_3 (mkF mM 15 #[.val (.ref a), .val (.int (0 : Int32)), .val (.ref t)] [(.int (0 : Int32)), (.int (0 : Int32)), (.ref d), (.ref t)]) _
    refine st_4.trans ?_
    show oS pP eE below T_4 (mkF mM 18 #[.val (.ref a), .val (.int (0 : Int32)), .val (.ref t)] []) _
    exact X_4.returnOut hx Bd.returns (hb hby d_jdk_68m73_18) hr
  · show Q_put41 Z a t tv kt d k cs h0 n0 _ T_4.heap _
    exact ⟨rfl, N_4, K_4, pfV_d_4⟩
theorem d_jdk_68m22_0 : decode jdk_68_method_22_code 0 = .ok (.aload_n 1, 1) := by decide +kernel
theorem d_jdk_68m22_1 : decode jdk_68_method_22_code 1 = .ok (.ifnonnull 8, 3) := by decide +kernel
theorem d_jdk_68m22_9 : decode jdk_68_method_22_code 9 = .ok (.aload_n 1, 1) := by decide +kernel
theorem d_jdk_68m22_10 : decode jdk_68_method_22_code 10 = .ok (.invokevirtual 32, 3) := by decide +kernel
theorem pd_11 : parseMethodDescriptor "()I" = some ⟨[], some .int⟩ := by decide +kernel
abbrev MN12 : MethodName := ⟨"java/lang/String", "length", "()I"⟩
theorem d_jdk_68m22_13 : decode jdk_68_method_22_code 13 = .ok (.istore_n 2, 1) := by decide +kernel
theorem d_jdk_68m22_14 : decode jdk_68_method_22_code 14 = .ok (.aload_n 0, 1) := by decide +kernel
theorem d_jdk_68m22_15 : decode jdk_68_method_22_code 15 = .ok (.aload_n 0, 1) := by decide +kernel
theorem d_jdk_68m22_16 : decode jdk_68_method_22_code 16 = .ok (.getfield 79, 3) := by decide +kernel
theorem d_jdk_68m22_19 : decode jdk_68_method_22_code 19 = .ok (.iload_n 2, 1) := by decide +kernel
theorem d_jdk_68m22_20 : decode jdk_68_method_22_code 20 = .ok (.iadd, 1) := by decide +kernel
theorem d_jdk_68m22_21 : decode jdk_68_method_22_code 21 = .ok (.invokevirtual 100, 3) := by decide +kernel
abbrev MN13 : MethodName := ⟨"java/lang/AbstractStringBuilder", "ensureCapacityInternal", "(I)V"⟩
theorem d_jdk_68m22_24 : decode jdk_68_method_22_code 24 = .ok (.aload_n 0, 1) := by decide +kernel
theorem d_jdk_68m22_25 : decode jdk_68_method_22_code 25 = .ok (.aload_n 0, 1) := by decide +kernel
theorem d_jdk_68m22_26 : decode jdk_68_method_22_code 26 = .ok (.getfield 79, 3) := by decide +kernel
theorem d_jdk_68m22_29 : decode jdk_68_method_22_code 29 = .ok (.aload_n 1, 1) := by decide +kernel
theorem d_jdk_68m22_30 : decode jdk_68_method_22_code 30 = .ok (.invokevirtual 208, 3) := by decide +kernel
theorem pd_12 : parseMethodDescriptor "(ILjava/lang/String;)V" = some ⟨[.int, (.object "java/lang/String")], none⟩ := by decide +kernel
abbrev MN14 : MethodName := ⟨"java/lang/AbstractStringBuilder", "putStringAt", "(ILjava/lang/String;)V"⟩
theorem d_jdk_68m22_33 : decode jdk_68_method_22_code 33 = .ok (.aload_n 0, 1) := by decide +kernel
theorem d_jdk_68m22_34 : decode jdk_68_method_22_code 34 = .ok (.dup, 1) := by decide +kernel
theorem d_jdk_68m22_35 : decode jdk_68_method_22_code 35 = .ok (.getfield 79, 3) := by decide +kernel
theorem d_jdk_68m22_38 : decode jdk_68_method_22_code 38 = .ok (.iload_n 2, 1) := by decide +kernel
theorem d_jdk_68m22_39 : decode jdk_68_method_22_code 39 = .ok (.iadd, 1) := by decide +kernel
theorem d_jdk_68m22_40 : decode jdk_68_method_22_code 40 = .ok (.putfield 79, 3) := by decide +kernel
theorem d_jdk_68m22_43 : decode jdk_68_method_22_code 43 = .ok (.aload_n 0, 1) := by decide +kernel
theorem d_jdk_68m22_44 : decode jdk_68_method_22_code 44 = .ok (.areturn, 1) := by decide +kernel
theorem ef_aap41 (mM : MethodId) (x0 : Addr) (x1 : Addr) : entryFrame mM #[(.ref x0), (.ref x1)] 3 = mkF mM 0 #[.val (.ref x0), .val (.ref x1), .unset] [] := by first | (simp [entryFrame, mkF, argsToLocals, Value.category]; done) | rfl
def Q_aap41 (Z : State) (a : Addr) (t : Addr) (tv : Addr) (kt : ClassId) (d : Addr) (k : ClassId) (cs : Int32) (h0 : Heap) (n0 : Nat) (v_ : Option Value) (h_ : Heap) (L_ : List Loc) : Prop := ∃ e : Addr, ∃ kk : ClassId, v_ = some (.ref a) ∧ Fr n0 L_ ∧ Keep h0 h_ [a] ∧ h0.size ≤ e ∧ Fld Z h_ a "java/lang/AbstractStringBuilder" "value" "[B" (.ref e) ∧ Fld Z h_ a "java/lang/AbstractStringBuilder" "coder" "B" (.int (0 : Int32)) ∧ Fld Z h_ a "java/lang/AbstractStringBuilder" "count" "I" (.int (41 : Int32)) ∧ Exa Z h_ a "java/lang/StringBuilder" ∧ Arv Z h_ e kk .byte (41 : Int32) [(.int (83 : Int32)), (.int (69 : Int32)), (.int (84 : Int32)), (.int (32 : Int32)), (.int (83 : Int32)), (.int (84 : Int32)), (.int (65 : Int32)), (.int (84 : Int32)), (.int (69 : Int32)), (.int (77 : Int32)), (.int (69 : Int32)), (.int (78 : Int32)), (.int (84 : Int32)), (.int (32 : Int32)), (.int (102 : Int32)), (.int (111 : Int32)), (.int (114 : Int32)), (.int (101 : Int32)), (.int (105 : Int32)), (.int (103 : Int32)), (.int (110 : Int32)), (.int (95 : Int32)), (.int (107 : Int32)), (.int (101 : Int32)), (.int (121 : Int32)), (.int (95 : Int32)), (.int (99 : Int32)), (.int (104 : Int32)), (.int (101 : Int32)), (.int (99 : Int32)), (.int (107 : Int32)), (.int (115 : Int32)), (.int (32 : Int32)), (.int (61 : Int32)), (.int (32 : Int32)), (.int (48 : Int32)), (.int (32 : Int32)), (.int (70 : Int32)), (.int (79 : Int32)), (.int (82 : Int32)), (.int (32 : Int32))] (.int (0 : Int32))
set_option maxRecDepth 65536 in
set_option maxHeartbeats 40000000 in
theorem rm_aap41 (l : Launch) (Z : State) (a0 : Array Value) (hw : ∀ d ∈ tables_1, d.before a0 Z = true) (ws : List Jvm.Cond) (a : Addr) (t : Addr) (tv : Addr) (kt : ClassId) (d : Addr) (k : ClassId) (cs : Int32) (h0 : Heap) (n0 : Nat) (Z0 : n0 ≤ h0.size) (F_value_a : Fld Z h0 a "java/lang/AbstractStringBuilder" "value" "[B" (.ref d)) (F_coder_a : Fld Z h0 a "java/lang/AbstractStringBuilder" "coder" "B" (.int (0 : Int32))) (F_count_a : Fld Z h0 a "java/lang/AbstractStringBuilder" "count" "I" (.int (0 : Int32))) (E_a : Exa Z h0 a "java/lang/StringBuilder") (V_d : Arv Z h0 d k .byte (16 : Int32) [] (.int (0 : Int32))) (g_a : n0 ≤ a) (F_value_t : Fld Z h0 t "java/lang/String" "value" "[B" (.ref tv)) (F_coder_t : Fld Z h0 t "java/lang/String" "coder" "B" (.int (0 : Int32))) (E_t : Exa Z h0 t "java/lang/String") (V_tv : Arv Z h0 tv kt .byte (41 : Int32) [(.int (83 : Int32)), (.int (69 : Int32)), (.int (84 : Int32)), (.int (32 : Int32)), (.int (83 : Int32)), (.int (84 : Int32)), (.int (65 : Int32)), (.int (84 : Int32)), (.int (69 : Int32)), (.int (77 : Int32)), (.int (69 : Int32)), (.int (78 : Int32)), (.int (84 : Int32)), (.int (32 : Int32)), (.int (102 : Int32)), (.int (111 : Int32)), (.int (114 : Int32)), (.int (101 : Int32)), (.int (105 : Int32)), (.int (103 : Int32)), (.int (110 : Int32)), (.int (95 : Int32)), (.int (107 : Int32)), (.int (101 : Int32)), (.int (121 : Int32)), (.int (95 : Int32)), (.int (99 : Int32)), (.int (104 : Int32)), (.int (101 : Int32)), (.int (99 : Int32)), (.int (107 : Int32)), (.int (115 : Int32)), (.int (32 : Int32)), (.int (61 : Int32)), (.int (32 : Int32)), (.int (48 : Int32)), (.int (32 : Int32)), (.int (70 : Int32)), (.int (79 : Int32)), (.int (82 : Int32)), (.int (32 : Int32))] (.int (0 : Int32))) (S_String_COMPACT_STRINGS : Sta Z h0 "java/lang/String" "COMPACT_STRINGS" "Z" (.int cs)) (hcs : ¬ cs = 0) (nat : a ≠ t) (natv : a ≠ tv) :
    MetFree l (⟨"java/lang/AbstractStringBuilder", "append", "(Ljava/lang/String;)Ljava/lang/AbstractStringBuilder;"⟩ : MethodName) (head1 (Jvm.Cond.code (⟨"java/lang/AbstractStringBuilder", "append", "(Ljava/lang/String;)Ljava/lang/AbstractStringBuilder;"⟩ : MethodName) jdk_68_method_22_code 3 (some (.object "java/lang/AbstractStringBuilder")) :: ws) ({ frames := 4, cells := 1, slots := 41, locals := 62 } : Room)) (fun aa_ U_ => aa_ = #[(.ref a), (.ref t)] ∧ Z.Warmed39 U_.vm ∧ U_.heap = h0) (fun _ _ _ _ _ => True) (fun _ U_ o_ U'_ => ∃ v_ L_, o_ = .returned v_ ∧ Q_aap41 Z a t tv kt d k cs h0 n0 v_ U'_.heap L_ ∧ FrameEnd U_ o_ U'_ L_ ({ frames := 4, cells := 1, slots := 41, locals := 62 } : Room).cells ({ frames := 4, cells := 1, slots := 41, locals := 62 } : Room).slots) := by
  refine MetFree.of_bodySF (plainFor_of_name pn_3) hisR ?_
  intro pP eE sS mM argsA below meth cC s₁ Bd hml0 hP hK
  obtain ⟨rfl, hZ, hh⟩ := hP
  have hx := Bd.exec
  have hby := Bd.bytes
  have hml : cC.maxLocals = 3 := hml0
  have hown : sS.vm.findClass "java/lang/AbstractStringBuilder" = some mM.cls := findClass_of_methodNamed Bd.named
  have hnm := (name_of_methodNamed Bd.named Bd.method).1
  have X0 : Stand pP l eE ({ frames := 4, cells := 1, slots := 41, locals := 62 } : Room) sS mM #[(.ref a), (.ref t)] below meth cC s₁ [] 0 0 := Stand.of_body Bd
  have e0 : s₁.heap = h0 := by rw [← hh, Bd.state]; rfl
  have N0 := Fr.nil n0
  have pre0 : ∀ t_, Steps pP.tables eE below (s₁.setTop (mkF mM 0 #[.val (.ref a), .val (.ref t), .unset] [])) t_ → Steps pP.tables eE below (s₁.setTop (entryFrame mM #[(.ref a), (.ref t)] 3)) t_ := fun t_ k_ => castTop (ef_aap41 mM a t) k_
  obtain ⟨cq_1, kq_1, q_1a, q_1b, q_1c⟩ := isOf hZ e0 E_t
  obtain ⟨_, _, ⟨T_1, L_1, k_1, n_1⟩, -, X_1, ⟨Lc_1, hQ_1, l_1, y_1, z_1⟩, st_1⟩ := X0.virtualBack hx (y := MN12) (z := MN12) hown (mvT hZ (ow hw 81 rfl)) (mvT hZ (ow hw 82 rfl)) (notFace_of_selects (args := #[]) (mvT hZ (ow hw 84 rfl))) (mvT hZ (ow hw 84 rfl)) (mvT hZ (ow hw 83 rfl)) (by decide) (backOf (W := 0) (rm_len41 l Z a0 hw [] t tv kt cs h0 n0 Z0 F_value_t F_coder_t E_t V_tv S_String_COMPACT_STRINGS hcs) hZ (ow hw 85 rfl) (ow hw 24 rfl) (by decide) (by decide)) q_1a q_1c (g := (mkF mM 10 #[.val (.ref a), .val (.ref t), .unset] [(.ref t)])) rfl (by rw [hml]; rfl) (Steps.refl _) (argsL := []) (rest := []) (lenOf pd_11 rfl) rfl (by show 2 * 0 + _ ≤ _; exact Nat.le_of_eq rfl) (hb hby d_jdk_68m22_10) (fun _ _ => ⟨rfl, e0, (by decide : 0 + 0 ≤ _), (by decide : 0 + 0 ≤ _)⟩)
  dsimp only [Pt.U, Pt.locs, Pt.cells, Pt.slots] at X_1 l_1 y_1 z_1 st_1 hQ_1
  subst l_1 y_1 z_1
  obtain ⟨rfl, N_1q, eh_1⟩ := hQ_1
  have N_1 := Fr.app N0 N_1q
  obtain ⟨T_2, X_2, e_2, st_2⟩ := getF X_1 hx hZ hown (host := "") (Or.inl (ow hw 91 rfl)) Via.refl eh_1 F_count_a (g := (mkF mM 16 #[.val (.ref a), .val (.ref t), .val (.int (41 : Int32))] [(.ref a), (.ref a)])) rfl rfl (hb hby d_jdk_68m22_16)
  obtain ⟨cq_3, kq_3, q_3a, q_3b, q_3c⟩ := isOf hZ e_2 E_a
  obtain ⟨_, _, ⟨T_3, L_3, k_3, n_3⟩, -, X_3, ⟨Lc_3, hQ_3, l_3, y_3, z_3⟩, st_3⟩ := X_2.virtualBack hx (y := MN13) (z := MN13) hown (mvT hZ (ow hw 93 rfl)) (own_decl (mvT hZ (ow hw 94 rfl)) (mvT hZ (ow hw 97 rfl))) (notFace_of_selects (args := #[]) (mvT hZ (ow hw 96 rfl))) (mvT hZ (ow hw 96 rfl)) (mvT hZ (ow hw 94 rfl)) (by decide) (backOf (W := 0) (rm_ens41 l Z a0 hw [] a d k h0 n0 Z0 F_value_a F_coder_a F_count_a E_a V_d g_a) hZ (ow hw 97 rfl) (ow hw 63 rfl) (by decide) (by decide)) q_3a q_3c (g := (mkF mM 21 #[.val (.ref a), .val (.ref t), .val (.int (41 : Int32))] [(.int (41 : Int32)), (.ref a)])) rfl (by rw [hml]; rfl) (Steps.refl _) (argsL := [(.int (41 : Int32))]) (rest := []) (lenOf pd_4 rfl) rfl (by show 2 * 0 + _ ≤ _; exact Nat.le_of_eq rfl) (hb hby d_jdk_68m22_21) (fun _ _ => ⟨rfl, e_2, (by decide : 0 + 1 ≤ _), (by decide : 0 + 41 ≤ _)⟩)
  dsimp only [Pt.U, Pt.locs, Pt.cells, Pt.slots] at X_3 l_3 y_3 z_3 st_3 hQ_3
  subst l_3 y_3 z_3
  obtain ⟨e__3, ⟨kk__3, ⟨rfl, N_3q, Kc_3, pfsz_e_3, pfF_value_a_3, pfF_coder_a_3, pfF_count_a_3, pfE_a_3, pfV_e_3⟩⟩⟩ := hQ_3
  have Z_3 : n0 ≤ T_3.heap.size := (Nat.le_trans Z0 Kc_3.1)
  have K_3 : Keep h0 T_3.heap [a] := (Keep.refl h0 [a]).trans Kc_3 (allS (Or.inl (List.mem_of_getElem? (i := 0) rfl)) all0)
  have sz_e__3 : h0.size ≤ e__3 := Nat.le_trans (Keep.refl h0 [a]).1 pfsz_e_3
  have g_e__3 : n0 ≤ e__3 := Nat.le_trans Z0 pfsz_e_3
  have N_3 := Fr.app N_1 N_3q
  obtain ⟨T_4, X_4, e_4, st_4⟩ := getF X_3 hx hZ hown (host := "") (Or.inl (ow hw 91 rfl)) Via.refl rfl pfF_count_a_3 (g := (mkF mM 26 #[.val (.ref a), .val (.ref t), .val (.int (41 : Int32))] [(.ref a), (.ref a)])) rfl rfl (hb hby d_jdk_68m22_26)
  obtain ⟨cq_5, kq_5, q_5a, q_5b, q_5c⟩ := isOf hZ e_4 pfE_a_3
  obtain ⟨_, _, ⟨T_5, L_5, k_5, n_5⟩, -, X_5, ⟨Lc_5, hQ_5, l_5, y_5, z_5⟩, st_5⟩ := X_4.virtualBack hx (y := MN14) (z := MN14) hown (mvT hZ (ow hw 124 rfl)) (own_decl (mvT hZ (ow hw 125 rfl)) (mvT hZ (ow hw 128 rfl))) (notFace_of_selects (args := #[]) (mvT hZ (ow hw 127 rfl))) (mvT hZ (ow hw 127 rfl)) (mvT hZ (ow hw 125 rfl)) (by decide) (backOf (W := 0) (rm_put41 l Z a0 hw [] a t tv kt e__3 kk__3 cs T_3.heap n0 Z_3 pfF_value_a_3 pfF_coder_a_3 pfF_count_a_3 pfE_a_3 (F_value_t.keep Kc_3 (ninS (Ne.symm nat) nin0)) (F_coder_t.keep Kc_3 (ninS (Ne.symm nat) nin0)) (E_t.keep Kc_3) (V_tv.keep Kc_3 (ninS (Ne.symm natv) nin0)) pfV_e_3 g_e__3 (own_sta_keep S_String_COMPACT_STRINGS Kc_3 (allS (own_exa_ns E_a) all0)) hcs) hZ (ow hw 128 rfl) (ow hw 63 rfl) (by decide) (by decide)) q_5a q_5c (g := (mkF mM 30 #[.val (.ref a), .val (.ref t), .val (.int (41 : Int32))] [(.ref t), (.int (0 : Int32)), (.ref a)])) rfl (by rw [hml]; rfl) (Steps.refl _) (argsL := [(.int (0 : Int32)), (.ref t)]) (rest := []) (lenOf pd_12 rfl) rfl (by show 2 * 0 + _ ≤ _; exact Nat.le_of_eq rfl) (hb hby d_jdk_68m22_30) (fun _ _ => ⟨rfl, e_4, (by decide : 1 + 0 ≤ _), (by decide : 41 + 0 ≤ _)⟩)
  dsimp only [Pt.U, Pt.locs, Pt.cells, Pt.slots] at X_5 l_5 y_5 z_5 st_5 hQ_5
  subst l_5 y_5 z_5
  obtain ⟨rfl, N_5q, Kc_5, pfV_d_5⟩ := hQ_5
  have Z_5 : n0 ≤ T_5.heap.size := (Nat.le_trans Z_3 Kc_5.1)
  have K_5 : Keep h0 T_5.heap [a] := K_3.trans Kc_5 (allS (Or.inr sz_e__3) all0)
  have N_5 := Fr.app N_3 N_5q
  obtain ⟨T_6, X_6, e_6, st_6⟩ := getF X_5 hx hZ hown (host := "") (Or.inl (ow hw 91 rfl)) Via.refl rfl (pfF_count_a_3.keep Kc_5 (ninS (Nat.ne_of_lt (Nat.lt_of_lt_of_le E_a.lt pfsz_e_3)) nin0)) (g := (mkF mM 35 #[.val (.ref a), .val (.ref t), .val (.int (41 : Int32))] [(.ref a), (.ref a)])) rfl rfl (hb hby d_jdk_68m22_35)
  obtain ⟨T_7, h_7, X_7, e_7, W_7, st_7⟩ := putF X_6 hx hZ hown (host := "") (Or.inl (ow hw 91 rfl)) Via.refl e_6 (pfF_count_a_3.keep Kc_5 (ninS (Nat.ne_of_lt (Nat.lt_of_lt_of_le E_a.lt pfsz_e_3)) nin0)) (pfE_a_3.keep Kc_5) (Or.inl (ow hw 92 rfl)) (ow hw 54 rfl) (ty := .int) (by decide) rfl rfl (g := (mkF mM 40 #[.val (.ref a), .val (.ref t), .val (.int (41 : Int32))] [(.int (41 : Int32)), (.ref a)])) rfl rfl (hb hby d_jdk_68m22_40)
  have Fw_7 := (pfF_count_a_3.keep Kc_5 (ninS (Nat.ne_of_lt (Nat.lt_of_lt_of_le E_a.lt pfsz_e_3)) nin0)).same W_7
  have Z_7 : n0 ≤ h_7.size := (Nat.le_trans Z_5 (Keep.of_wr W_7).1)
  have K_7 : Keep h0 h_7 [a] := K_5.wr W_7 (Or.inl (List.mem_of_getElem? (i := 0) rfl))
  have N_7 := Fr.snoc X_7 N_5 g_a
  obtain ⟨fs, hr, hrun, hended, hW, hsame⟩ := X_7.leave (v := some (.ref a)) (fun h => by rw [Bd.returns] at h; cases h)
  refine ⟨_, _, pre0 _ ?_, hrun, hended, _, _, rfl, ?_, ⟨_, rfl⟩, hW, hsame.mono (by decide) (by decide)⟩
  · show oS pP eE below s₁ (mkF mM 0 #[.val (.ref a), .val (.ref t), .unset] []) _
    refine XS.aloadN X0.here hx rfl (hb hby d_jdk_68m22_0) rfl rfl ?_
    show oS pP eE below s₁ (mkF mM 1 #[.val (.ref a), .val (.ref t), .unset] [(.ref t)]) _
    refine XT.ifnonnullYes X0.here hx rfl (pc0 := 1) (pc' := 9) rfl (hb hby d_jdk_68m22_1) rfl (by decide) (by decide) ?_
    refine XS.aloadN X0.here hx rfl (hb hby d_jdk_68m22_9) rfl rfl ?_
    show oS pP eE below s₁ (mkF mM 10 #[.val (.ref a), .val (.ref t), .unset] [(.ref t)]) _
    refine st_1.trans ?_
    show oS pP eE below T_1 (mkF mM 13 #[.val (.ref a), .val (.ref t), .unset] [(.int (41 : Int32))]) _
    refine XS.istoreN X_1.here hx rfl (hb hby d_jdk_68m22_13) rfl (l' := #[.val (.ref a), .val (.ref t), .val (.int (41 : Int32))]) rfl ?_
    refine XS.aloadN X_1.here hx rfl (hb hby d_jdk_68m22_14) rfl rfl ?_
    refine XS.aloadN X_1.here hx rfl (hb hby d_jdk_68m22_15) rfl rfl ?_
    show oS pP eE below T_1 (mkF mM 16 #[.val (.ref a), .val (.ref t), .val (.int (41 : Int32))] [(.ref a), (.ref a)]) _
    refine st_2 _ ?_
    show oS pP eE below T_2 (mkF mM 19 #[.val (.ref a), .val (.ref t), .val (.int (41 : Int32))] [(.int (0 : Int32)), (.ref a)]) _
    refine XS.iloadN X_2.here hx rfl (hb hby d_jdk_68m22_19) rfl ?_
    show oS pP eE below T_2 (mkF mM 20 #[.val (.ref a), .val (.ref t), .val (.int (41 : Int32))] [(.int (41 : Int32)), (.int (0 : Int32)), (.ref a)]) _
    refine XS.iadd X_2.here hx rfl (hb hby d_jdk_68m22_20) rfl ?_
    show oS pP eE below T_2 (mkF mM 21 #[.val (.ref a), .val (.ref t), .val (.int (41 : Int32))] [(.int ((0 : Int32) + (41 : Int32))), (.ref a)]) _
    rw [(by decide : ((0 : Int32) + (41 : Int32)) = (41 : Int32))]
    show oS pP eE below T_2 (mkF mM 21 #[.val (.ref a), .val (.ref t), .val (.int (41 : Int32))] [(.int (41 : Int32)), (.ref a)]) _
    refine st_3.trans ?_
    show oS pP eE below T_3 (mkF mM 24 #[.val (.ref a), .val (.ref t), .val (.int (41 : Int32))] []) _
    refine XS.aloadN X_3.here hx rfl (hb hby d_jdk_68m22_24) rfl rfl ?_
    refine XS.aloadN X_3.here hx rfl (hb hby d_jdk_68m22_25) rfl rfl ?_
    show oS pP eE below T_3 (mkF mM 26 #[.val (.ref a), .val (.ref t), .val (.int (41 : Int32))] [(.ref a), (.ref a)]) _
    refine st_4 _ ?_
    show oS pP eE below T_4 (mkF mM 29 #[.val (.ref a), .val (.ref t), .val (.int (41 : Int32))] [(.int (0 : Int32)), (.ref a)]) _
    refine XS.aloadN X_4.here hx rfl (hb hby d_jdk_68m22_29) rfl rfl ?_
    show oS pP eE below T_4 (mkF mM 30 #[.val (.ref a), .val (.ref t), .val (.int (41 : Int32))] [(.ref t), (.int (0 : Int32)), (.ref a)]) _
    refine st_5.trans ?_
    show oS pP eE below T_5 (mkF mM 33 #[.val (.ref a), .val (.ref t), .val (.int (41 : Int32))] []) _
    refine XS.aloadN X_5.here hx rfl (hb hby d_jdk_68m22_33) rfl rfl ?_
    refine XS.dup X_5.here hx rfl (hb hby d_jdk_68m22_34) rfl rfl ?_
    show oS pP eE below T_5 (mkF mM 35 #[.val (.ref a), .val (.ref t), .val (.int (41 : Int32))] [(.ref a), (.ref a)]) _
    refine st_6 _ ?_
    show oS pP eE below T_6 (mkF mM 38 #[.val (.ref a), .val (.ref t), .val (.int (41 : Int32))] [(.int (0 : Int32)), (.ref a)]) _
    refine XS.iloadN X_6.here hx rfl (hb hby d_jdk_68m22_38) rfl ?_
    show oS pP eE below T_6 (mkF mM 39 #[.val (.ref a), .val (.ref t), .val (.int (41 : Int32))] [(.int (41 : Int32)), (.int (0 : Int32)), (.ref a)]) _
    refine XS.iadd X_6.here hx rfl (hb hby d_jdk_68m22_39) rfl ?_
    show oS pP eE below T_6 (mkF mM 40 #[.val (.ref a), .val (.ref t), .val (.int (41 : Int32))] [(.int ((0 : Int32) + (41 : Int32))), (.ref a)]) _
    rw [(by decide : ((0 : Int32) + (41 : Int32)) = (41 : Int32))]
    show oS pP eE below T_6 (mkF mM 40 #[.val (.ref a), .val (.ref t), .val (.int (41 : Int32))] [(.int (41 : Int32)), (.ref a)]) _
    refine st_7 _ ?_
    show oS pP eE below T_7 (mkF mM 43 #[.val (.ref a), .val (.ref t), .val (.int (41 : Int32))] []) _
    refine XS.aloadN X_7.here hx rfl (hb hby d_jdk_68m22_43) rfl rfl ?_
    show oS pP eE below T_7 (mkF mM 44 #[.val (.ref a), .val (.ref t), .val (.int (41 : Int32))] [(.ref a)]) _
    exact retOut X_7 hx Bd.returns rfl (Or.inr (Or.inr (Or.inr (Or.inr ⟨rfl, rfl, rfl⟩)))) (hb hby d_jdk_68m22_44) hr
  · show Q_aap41 Z a t tv kt d k cs h0 n0 _ T_7.heap _
    rw [e_7]
    exact ⟨e__3, kk__3, rfl, N_7, K_7, sz_e__3, ((pfF_value_a_3.keep Kc_5 (ninS (Nat.ne_of_lt (Nat.lt_of_lt_of_le E_a.lt pfsz_e_3)) nin0)).other W_7 (Or.inr (slot_ne (Or.inl (ow hw 68 rfl)) (Or.inl (ow hw 92 rfl)) (by decide) (t := (.array .byte)) (t' := .int) (by decide) (by decide)))), ((pfF_coder_a_3.keep Kc_5 (ninS (Nat.ne_of_lt (Nat.lt_of_lt_of_le E_a.lt pfsz_e_3)) nin0)).other W_7 (Or.inr (slot_ne (Or.inl (ow hw 70 rfl)) (Or.inl (ow hw 92 rfl)) (by decide) (t := .byte) (t' := .int) (by decide) (by decide)))), Fw_7, ((pfE_a_3.keep Kc_5).wr W_7), (pfV_d_5.other W_7 (Ne.symm (Nat.ne_of_lt (Nat.lt_of_lt_of_le E_a.lt pfsz_e_3))))⟩
theorem d_jdk_67m7_0 : decode jdk_67_method_7_code 0 = .ok (.aload_n 0, 1) := by decide +kernel
theorem d_jdk_67m7_1 : decode jdk_67_method_7_code 1 = .ok (.aload_n 1, 1) := by decide +kernel
theorem d_jdk_67m7_2 : decode jdk_67_method_7_code 2 = .ok (.invokespecial 29, 3) := by decide +kernel
theorem pd_13 : parseMethodDescriptor "(Ljava/lang/String;)Ljava/lang/AbstractStringBuilder;" = some ⟨[(.object "java/lang/String")], some (.object "java/lang/AbstractStringBuilder")⟩ := by decide +kernel
abbrev MN15 : MethodName := ⟨"java/lang/AbstractStringBuilder", "append", "(Ljava/lang/String;)Ljava/lang/AbstractStringBuilder;"⟩
theorem d_jdk_67m7_5 : decode jdk_67_method_7_code 5 = .ok (.pop, 1) := by decide +kernel
theorem d_jdk_67m7_6 : decode jdk_67_method_7_code 6 = .ok (.aload_n 0, 1) := by decide +kernel
theorem d_jdk_67m7_7 : decode jdk_67_method_7_code 7 = .ok (.areturn, 1) := by decide +kernel
theorem ef_sap41 (mM : MethodId) (x0 : Addr) (x1 : Addr) : entryFrame mM #[(.ref x0), (.ref x1)] 2 = mkF mM 0 #[.val (.ref x0), .val (.ref x1)] [] := by first | (simp [entryFrame, mkF, argsToLocals, Value.category]; done) | rfl
def Q_sap41 (Z : State) (a : Addr) (t : Addr) (tv : Addr) (kt : ClassId) (d : Addr) (k : ClassId) (cs : Int32) (h0 : Heap) (n0 : Nat) (v_ : Option Value) (h_ : Heap) (L_ : List Loc) : Prop := ∃ e : Addr, ∃ kk : ClassId, v_ = some (.ref a) ∧ Fr n0 L_ ∧ Keep h0 h_ [a] ∧ h0.size ≤ e ∧ Fld Z h_ a "java/lang/AbstractStringBuilder" "value" "[B" (.ref e) ∧ Fld Z h_ a "java/lang/AbstractStringBuilder" "coder" "B" (.int (0 : Int32)) ∧ Fld Z h_ a "java/lang/AbstractStringBuilder" "count" "I" (.int (41 : Int32)) ∧ Exa Z h_ a "java/lang/StringBuilder" ∧ Arv Z h_ e kk .byte (41 : Int32) [(.int (83 : Int32)), (.int (69 : Int32)), (.int (84 : Int32)), (.int (32 : Int32)), (.int (83 : Int32)), (.int (84 : Int32)), (.int (65 : Int32)), (.int (84 : Int32)), (.int (69 : Int32)), (.int (77 : Int32)), (.int (69 : Int32)), (.int (78 : Int32)), (.int (84 : Int32)), (.int (32 : Int32)), (.int (102 : Int32)), (.int (111 : Int32)), (.int (114 : Int32)), (.int (101 : Int32)), (.int (105 : Int32)), (.int (103 : Int32)), (.int (110 : Int32)), (.int (95 : Int32)), (.int (107 : Int32)), (.int (101 : Int32)), (.int (121 : Int32)), (.int (95 : Int32)), (.int (99 : Int32)), (.int (104 : Int32)), (.int (101 : Int32)), (.int (99 : Int32)), (.int (107 : Int32)), (.int (115 : Int32)), (.int (32 : Int32)), (.int (61 : Int32)), (.int (32 : Int32)), (.int (48 : Int32)), (.int (32 : Int32)), (.int (70 : Int32)), (.int (79 : Int32)), (.int (82 : Int32)), (.int (32 : Int32))] (.int (0 : Int32))
set_option maxRecDepth 65536 in
set_option maxHeartbeats 40000000 in
theorem rm_sap41 (l : Launch) (Z : State) (a0 : Array Value) (hw : ∀ d ∈ tables_1, d.before a0 Z = true) (ws : List Jvm.Cond) (a : Addr) (t : Addr) (tv : Addr) (kt : ClassId) (d : Addr) (k : ClassId) (cs : Int32) (h0 : Heap) (n0 : Nat) (Z0 : n0 ≤ h0.size) (F_value_a : Fld Z h0 a "java/lang/AbstractStringBuilder" "value" "[B" (.ref d)) (F_coder_a : Fld Z h0 a "java/lang/AbstractStringBuilder" "coder" "B" (.int (0 : Int32))) (F_count_a : Fld Z h0 a "java/lang/AbstractStringBuilder" "count" "I" (.int (0 : Int32))) (E_a : Exa Z h0 a "java/lang/StringBuilder") (V_d : Arv Z h0 d k .byte (16 : Int32) [] (.int (0 : Int32))) (g_a : n0 ≤ a) (F_value_t : Fld Z h0 t "java/lang/String" "value" "[B" (.ref tv)) (F_coder_t : Fld Z h0 t "java/lang/String" "coder" "B" (.int (0 : Int32))) (E_t : Exa Z h0 t "java/lang/String") (V_tv : Arv Z h0 tv kt .byte (41 : Int32) [(.int (83 : Int32)), (.int (69 : Int32)), (.int (84 : Int32)), (.int (32 : Int32)), (.int (83 : Int32)), (.int (84 : Int32)), (.int (65 : Int32)), (.int (84 : Int32)), (.int (69 : Int32)), (.int (77 : Int32)), (.int (69 : Int32)), (.int (78 : Int32)), (.int (84 : Int32)), (.int (32 : Int32)), (.int (102 : Int32)), (.int (111 : Int32)), (.int (114 : Int32)), (.int (101 : Int32)), (.int (105 : Int32)), (.int (103 : Int32)), (.int (110 : Int32)), (.int (95 : Int32)), (.int (107 : Int32)), (.int (101 : Int32)), (.int (121 : Int32)), (.int (95 : Int32)), (.int (99 : Int32)), (.int (104 : Int32)), (.int (101 : Int32)), (.int (99 : Int32)), (.int (107 : Int32)), (.int (115 : Int32)), (.int (32 : Int32)), (.int (61 : Int32)), (.int (32 : Int32)), (.int (48 : Int32)), (.int (32 : Int32)), (.int (70 : Int32)), (.int (79 : Int32)), (.int (82 : Int32)), (.int (32 : Int32))] (.int (0 : Int32))) (S_String_COMPACT_STRINGS : Sta Z h0 "java/lang/String" "COMPACT_STRINGS" "Z" (.int cs)) (hcs : ¬ cs = 0) (nat : a ≠ t) (natv : a ≠ tv) :
    MetFree l (⟨"java/lang/StringBuilder", "append", "(Ljava/lang/String;)Ljava/lang/StringBuilder;"⟩ : MethodName) (head1 (Jvm.Cond.code (⟨"java/lang/StringBuilder", "append", "(Ljava/lang/String;)Ljava/lang/StringBuilder;"⟩ : MethodName) jdk_67_method_7_code 2 (some (.object "java/lang/StringBuilder")) :: ws) ({ frames := 5, cells := 1, slots := 41, locals := 76 } : Room)) (fun aa_ U_ => aa_ = #[(.ref a), (.ref t)] ∧ Z.Warmed39 U_.vm ∧ U_.heap = h0) (fun _ _ _ _ _ => True) (fun _ U_ o_ U'_ => ∃ v_ L_, o_ = .returned v_ ∧ Q_sap41 Z a t tv kt d k cs h0 n0 v_ U'_.heap L_ ∧ FrameEnd U_ o_ U'_ L_ ({ frames := 5, cells := 1, slots := 41, locals := 76 } : Room).cells ({ frames := 5, cells := 1, slots := 41, locals := 76 } : Room).slots) := by
  refine MetFree.of_bodySF (plainFor_of_name pn_4) hisR ?_
  intro pP eE sS mM argsA below meth cC s₁ Bd hml0 hP hK
  obtain ⟨rfl, hZ, hh⟩ := hP
  have hx := Bd.exec
  have hby := Bd.bytes
  have hml : cC.maxLocals = 2 := hml0
  have hown : sS.vm.findClass "java/lang/StringBuilder" = some mM.cls := findClass_of_methodNamed Bd.named
  have hnm := (name_of_methodNamed Bd.named Bd.method).1
  have X0 : Stand pP l eE ({ frames := 5, cells := 1, slots := 41, locals := 76 } : Room) sS mM #[(.ref a), (.ref t)] below meth cC s₁ [] 0 0 := Stand.of_body Bd
  have e0 : s₁.heap = h0 := by rw [← hh, Bd.state]; rfl
  have N0 := Fr.nil n0
  have pre0 : ∀ t_, Steps pP.tables eE below (s₁.setTop (mkF mM 0 #[.val (.ref a), .val (.ref t)] [])) t_ → Steps pP.tables eE below (s₁.setTop (entryFrame mM #[(.ref a), (.ref t)] 2)) t_ := fun t_ k_ => castTop (ef_sap41 mM a t) k_
  obtain ⟨_, _, ⟨T_1, L_1, k_1, n_1⟩, -, X_1, ⟨Lc_1, hQ_1, l_1, y_1, z_1⟩, st_1⟩ := superBack X0 hx hZ (y := MN15) hown (ow hw 76 rfl) (own_same (y := MN15) (z := MN13) (ow hw 77 rfl) (ow hw 96 rfl) rfl (by decide)) (ow hw 77 rfl) (ow hw 78 rfl) (by decide) (backOf (W := 0) (rm_aap41 l Z a0 hw [] a t tv kt d k cs h0 n0 Z0 F_value_a F_coder_a F_count_a E_a V_d g_a F_value_t F_coder_t E_t V_tv S_String_COMPACT_STRINGS hcs nat natv) hZ (ow hw 80 rfl) (ow hw 63 rfl) (by decide) (by decide)) e0 (Ins.self E_a) (g := (mkF mM 2 #[.val (.ref a), .val (.ref t)] [(.ref t), (.ref a)])) rfl (by rw [hml]; rfl) (ow hw 80 rfl) (argsL := [(.ref t)]) (rest := []) (lenOf pd_13 rfl) rfl (by show 2 * 0 + _ ≤ _; exact Nat.le_of_eq rfl) (hb hby d_jdk_67m7_2) (fun _ _ => ⟨rfl, e0, (by decide : 0 + 1 ≤ _), (by decide : 0 + 41 ≤ _)⟩)
  dsimp only [Pt.U, Pt.locs, Pt.cells, Pt.slots] at X_1 l_1 y_1 z_1 st_1 hQ_1
  subst l_1 y_1 z_1
  obtain ⟨e__1, ⟨kk__1, ⟨rfl, N_1q, Kc_1, pfsz_e_1, pfF_value_a_1, pfF_coder_a_1, pfF_count_a_1, pfE_a_1, pfV_e_1⟩⟩⟩ := hQ_1
  have Z_1 : n0 ≤ T_1.heap.size := (Nat.le_trans Z0 Kc_1.1)
  have K_1 : Keep h0 T_1.heap [a] := (Keep.refl h0 [a]).trans Kc_1 (allS (Or.inl (List.mem_of_getElem? (i := 0) rfl)) all0)
  have sz_e__1 : h0.size ≤ e__1 := Nat.le_trans (Keep.refl h0 [a]).1 pfsz_e_1
  have g_e__1 : n0 ≤ e__1 := Nat.le_trans Z0 pfsz_e_1
  have N_1 := Fr.app N0 N_1q
  obtain ⟨fs, hr, hrun, hended, hW, hsame⟩ := X_1.leave (v := some (.ref a)) (fun h => by rw [Bd.returns] at h; cases h)
  refine ⟨_, _, pre0 _ ?_, hrun, hended, _, _, rfl, ?_, ⟨_, rfl⟩, hW, hsame.mono (by decide) (by decide)⟩
  · show oS pP eE below s₁ (mkF mM 0 #[.val (.ref a), .val (.ref t)] []) _
    refine XS.aloadN X0.here hx rfl (hb hby d_jdk_67m7_0) rfl rfl ?_
    refine XS.aloadN X0.here hx rfl (hb hby d_jdk_67m7_1) rfl rfl ?_
    show oS pP eE below s₁ (mkF mM 2 #[.val (.ref a), .val (.ref t)] [(.ref t), (.ref a)]) _
    refine st_1.trans ?_
    show oS pP eE below T_1 (mkF mM 5 #[.val (.ref a), .val (.ref t)] [(.ref a)]) _
    refine XT.pop X_1.here hx rfl (hb hby d_jdk_67m7_5) rfl rfl ?_
    refine XS.aloadN X_1.here hx rfl (hb hby d_jdk_67m7_6) rfl rfl ?_
    show oS pP eE below T_1 (mkF mM 7 #[.val (.ref a), .val (.ref t)] [(.ref a)]) _
    exact retOut X_1 hx Bd.returns rfl (Or.inr (Or.inr (Or.inr (Or.inr ⟨rfl, rfl, rfl⟩)))) (hb hby d_jdk_67m7_7) hr
  · show Q_sap41 Z a t tv kt d k cs h0 n0 _ T_1.heap _
    exact ⟨e__1, kk__1, rfl, N_1, K_1, sz_e__1, pfF_value_a_1, pfF_coder_a_1, pfF_count_a_1, pfE_a_1, pfV_e_1⟩
theorem ef_gb42 (mM : MethodId) (x0 : Addr) (x1 : Addr) (x2 : Int32) (x3 : Int32) : entryFrame mM #[(.ref x0), (.ref x1), (.int x2), (.int x3)] 4 = mkF mM 0 #[.val (.ref x0), .val (.ref x1), .val (.int x2), .val (.int x3)] [] := by first | (simp [entryFrame, mkF, argsToLocals, Value.category]; done) | rfl
def Q_gb42 (Z : State) (t : Addr) (tv : Addr) (kt : ClassId) (d : Addr) (k : ClassId) (cs : Int32) (x0 : Int32) (h0 : Heap) (n0 : Nat) (v_ : Option Value) (h_ : Heap) (L_ : List Loc) : Prop := v_ = none ∧ Fr n0 L_ ∧ Keep h0 h_ [d] ∧ Arv Z h_ d k .byte (84 : Int32) [(.int (83 : Int32)), (.int (69 : Int32)), (.int (84 : Int32)), (.int (32 : Int32)), (.int (83 : Int32)), (.int (84 : Int32)), (.int (65 : Int32)), (.int (84 : Int32)), (.int (69 : Int32)), (.int (77 : Int32)), (.int (69 : Int32)), (.int (78 : Int32)), (.int (84 : Int32)), (.int (32 : Int32)), (.int (102 : Int32)), (.int (111 : Int32)), (.int (114 : Int32)), (.int (101 : Int32)), (.int (105 : Int32)), (.int (103 : Int32)), (.int (110 : Int32)), (.int (95 : Int32)), (.int (107 : Int32)), (.int (101 : Int32)), (.int (121 : Int32)), (.int (95 : Int32)), (.int (99 : Int32)), (.int (104 : Int32)), (.int (101 : Int32)), (.int (99 : Int32)), (.int (107 : Int32)), (.int (115 : Int32)), (.int (32 : Int32)), (.int (61 : Int32)), (.int (32 : Int32)), (.int (48 : Int32)), (.int (32 : Int32)), (.int (70 : Int32)), (.int (79 : Int32)), (.int (82 : Int32)), (.int (32 : Int32)), (.int x0), (.int (0 : Int32)), (.int (0 : Int32)), (.int (0 : Int32)), (.int (0 : Int32)), (.int (0 : Int32)), (.int (0 : Int32)), (.int (0 : Int32)), (.int (0 : Int32)), (.int (0 : Int32)), (.int (0 : Int32)), (.int (0 : Int32)), (.int (0 : Int32)), (.int (0 : Int32)), (.int (0 : Int32)), (.int (0 : Int32)), (.int (0 : Int32)), (.int (0 : Int32)), (.int (0 : Int32)), (.int (0 : Int32)), (.int (0 : Int32)), (.int (0 : Int32)), (.int (0 : Int32)), (.int (0 : Int32)), (.int (0 : Int32)), (.int (0 : Int32)), (.int (0 : Int32)), (.int (0 : Int32)), (.int (0 : Int32)), (.int (0 : Int32)), (.int (0 : Int32)), (.int (0 : Int32)), (.int (0 : Int32)), (.int (0 : Int32)), (.int (0 : Int32)), (.int (0 : Int32)), (.int (0 : Int32)), (.int (0 : Int32)), (.int (0 : Int32)), (.int (0 : Int32)), (.int (0 : Int32)), (.int (0 : Int32)), (.int (0 : Int32))] (.int (0 : Int32))
set_option maxRecDepth 65536 in
set_option maxHeartbeats 40000000 in
theorem rm_gb42 (l : Launch) (Z : State) (a0 : Array Value) (hw : ∀ d ∈ tables_1, d.before a0 Z = true) (ws : List Jvm.Cond) (t : Addr) (tv : Addr) (kt : ClassId) (d : Addr) (k : ClassId) (cs : Int32) (x0 : Int32) (h0 : Heap) (n0 : Nat) (Z0 : n0 ≤ h0.size) (F_value_t : Fld Z h0 t "java/lang/String" "value" "[B" (.ref tv)) (F_coder_t : Fld Z h0 t "java/lang/String" "coder" "B" (.int (0 : Int32))) (E_t : Exa Z h0 t "java/lang/String") (V_tv : Arv Z h0 tv kt .byte (1 : Int32) [(.int x0)] (.int (0 : Int32))) (V_d : Arv Z h0 d k .byte (84 : Int32) [(.int (83 : Int32)), (.int (69 : Int32)), (.int (84 : Int32)), (.int (32 : Int32)), (.int (83 : Int32)), (.int (84 : Int32)), (.int (65 : Int32)), (.int (84 : Int32)), (.int (69 : Int32)), (.int (77 : Int32)), (.int (69 : Int32)), (.int (78 : Int32)), (.int (84 : Int32)), (.int (32 : Int32)), (.int (102 : Int32)), (.int (111 : Int32)), (.int (114 : Int32)), (.int (101 : Int32)), (.int (105 : Int32)), (.int (103 : Int32)), (.int (110 : Int32)), (.int (95 : Int32)), (.int (107 : Int32)), (.int (101 : Int32)), (.int (121 : Int32)), (.int (95 : Int32)), (.int (99 : Int32)), (.int (104 : Int32)), (.int (101 : Int32)), (.int (99 : Int32)), (.int (107 : Int32)), (.int (115 : Int32)), (.int (32 : Int32)), (.int (61 : Int32)), (.int (32 : Int32)), (.int (48 : Int32)), (.int (32 : Int32)), (.int (70 : Int32)), (.int (79 : Int32)), (.int (82 : Int32)), (.int (32 : Int32)), (.int (0 : Int32)), (.int (0 : Int32)), (.int (0 : Int32)), (.int (0 : Int32)), (.int (0 : Int32)), (.int (0 : Int32)), (.int (0 : Int32)), (.int (0 : Int32)), (.int (0 : Int32)), (.int (0 : Int32)), (.int (0 : Int32)), (.int (0 : Int32)), (.int (0 : Int32)), (.int (0 : Int32)), (.int (0 : Int32)), (.int (0 : Int32)), (.int (0 : Int32)), (.int (0 : Int32)), (.int (0 : Int32)), (.int (0 : Int32)), (.int (0 : Int32)), (.int (0 : Int32)), (.int (0 : Int32)), (.int (0 : Int32)), (.int (0 : Int32)), (.int (0 : Int32)), (.int (0 : Int32)), (.int (0 : Int32)), (.int (0 : Int32)), (.int (0 : Int32)), (.int (0 : Int32)), (.int (0 : Int32)), (.int (0 : Int32)), (.int (0 : Int32)), (.int (0 : Int32)), (.int (0 : Int32)), (.int (0 : Int32)), (.int (0 : Int32)), (.int (0 : Int32)), (.int (0 : Int32)), (.int (0 : Int32)), (.int (0 : Int32)), (.int (0 : Int32))] (.int (0 : Int32))) (g_d : n0 ≤ d) (S_String_COMPACT_STRINGS : Sta Z h0 "java/lang/String" "COMPACT_STRINGS" "Z" (.int cs)) (hcs : ¬ cs = 0) :
    MetFree l (⟨"java/lang/String", "getBytes", "([BIB)V"⟩ : MethodName) (head1 (Jvm.Cond.code (⟨"java/lang/String", "getBytes", "([BIB)V"⟩ : MethodName) jdk_42_method_147_code 4 none :: ws) ({ frames := 1, cells := 0, slots := 0, locals := 18 } : Room)) (fun aa_ U_ => aa_ = #[(.ref t), (.ref d), (.int (41 : Int32)), (.int (0 : Int32))] ∧ Z.Warmed39 U_.vm ∧ U_.heap = h0) (fun _ _ _ _ _ => True) (fun _ U_ o_ U'_ => ∃ v_ L_, o_ = .returned v_ ∧ Q_gb42 Z t tv kt d k cs x0 h0 n0 v_ U'_.heap L_ ∧ FrameEnd U_ o_ U'_ L_ ({ frames := 1, cells := 0, slots := 0, locals := 18 } : Room).cells ({ frames := 1, cells := 0, slots := 0, locals := 18 } : Room).slots) := by
  refine MetFree.of_bodySF (plainFor_of_name pn_2) hisR ?_
  intro pP eE sS mM argsA below meth cC s₁ Bd hml0 hP hK
  obtain ⟨rfl, hZ, hh⟩ := hP
  have hx := Bd.exec
  have hby := Bd.bytes
  have hml : cC.maxLocals = 4 := hml0
  have hown : sS.vm.findClass "java/lang/String" = some mM.cls := findClass_of_methodNamed Bd.named
  have hnm := (name_of_methodNamed Bd.named Bd.method).1
  have X0 : Stand pP l eE ({ frames := 1, cells := 0, slots := 0, locals := 18 } : Room) sS mM #[(.ref t), (.ref d), (.int (41 : Int32)), (.int (0 : Int32))] below meth cC s₁ [] 0 0 := Stand.of_body Bd
  have e0 : s₁.heap = h0 := by rw [← hh, Bd.state]; rfl
  have N0 := Fr.nil n0
  have pre0 : ∀ t_, Steps pP.tables eE below (s₁.setTop (mkF mM 0 #[.val (.ref t), .val (.ref d), .val (.int (41 : Int32)), .val (.int (0 : Int32))] [])) t_ → Steps pP.tables eE below (s₁.setTop (entryFrame mM #[(.ref t), (.ref d), (.int (41 : Int32)), (.int (0 : Int32))] 4)) t_ := fun t_ k_ => castTop (ef_gb42 mM t d (41 : Int32) (0 : Int32)) k_
  obtain ⟨cq_1, kq_1, q_1a, q_1b, q_1c⟩ := isOf hZ e0 E_t
  obtain ⟨_, _, ⟨T_1, L_1, k_1, n_1⟩, -, X_1, ⟨Lc_1, hQ_1, l_1, y_1, z_1⟩, st_1⟩ := X0.virtualBack hx (y := MN3) (z := MN3) hown (mvT hZ (ow hw 86 rfl)) (mvT hZ (ow hw 87 rfl)) (notFace_of_selects (args := #[]) (mvT hZ (ow hw 89 rfl))) (mvT hZ (ow hw 89 rfl)) (mvT hZ (ow hw 88 rfl)) (by decide) (backOf (W := 0) (rm_coder l Z a0 hw [] t cs h0 n0 Z0 F_coder_t S_String_COMPACT_STRINGS hcs) hZ (ow hw 90 rfl) (ow hw 24 rfl) (by decide) (by decide)) q_1a q_1c (g := (mkF mM 1 #[.val (.ref t), .val (.ref d), .val (.int (41 : Int32)), .val (.int (0 : Int32))] [(.ref t)])) rfl (by rw [hml]; rfl) (Steps.refl _) (argsL := []) (rest := []) (lenOf pd_3 rfl) rfl (by show 2 * 0 + _ ≤ _; exact Nat.le_of_eq rfl) (hb hby d_jdk_42m147_1) (fun _ _ => ⟨rfl, e0, (by decide : 0 + 0 ≤ _), (by decide : 0 + 0 ≤ _)⟩)
  dsimp only [Pt.U, Pt.locs, Pt.cells, Pt.slots] at X_1 l_1 y_1 z_1 st_1 hQ_1
  subst l_1 y_1 z_1
  obtain ⟨rfl, N_1q, eh_1⟩ := hQ_1
  have N_1 := Fr.app N0 N_1q
  obtain ⟨T_2, X_2, e_2, st_2⟩ := getF X_1 hx hZ hown (host := "") (Or.inl (ow hw 44 rfl)) Via.refl eh_1 F_value_t (g := (mkF mM 9 #[.val (.ref t), .val (.ref d), .val (.int (41 : Int32)), .val (.int (0 : Int32))] [(.ref t)])) rfl rfl (hb hby d_jdk_42m147_9)
  obtain ⟨T_3, X_3, e_3, st_3⟩ := getF X_2 hx hZ hown (host := "") (Or.inl (ow hw 44 rfl)) Via.refl e_2 F_value_t (g := (mkF mM 18 #[.val (.ref t), .val (.ref d), .val (.int (41 : Int32)), .val (.int (0 : Int32))] [(.ref t), (.int (41 : Int32)), (.ref d), (.int (0 : Int32)), (.ref tv)])) rfl rfl (hb hby d_jdk_42m147_18)
  obtain ⟨cl_4, Ar_4, -, Sa_4, Na_4, -, -⟩ := id V_tv
  obtain ⟨T_5, h_5, L_5, X_5, e_5, N_5, Kc_5, V_5, st_5⟩ := cpA X_3 hx hZ hown (ow hw 140 rfl) (ow hw 123 rfl) (ow hw 121 rfl) (ow hw 122 rfl) e_3 V_tv V_d (Or.inl ⟨rfl, rfl⟩) (sp := (0 : Int32)) (dp := (41 : Int32)) (nn := (1 : Int32)) (us := [(.int x0)]) (by decide) (by decide) (by decide) (by decide) (by decide) rfl (by decide) N_1 g_d (g := (mkF mM 22 #[.val (.ref t), .val (.ref d), .val (.int (41 : Int32)), .val (.int (0 : Int32))] [(.int (1 : Int32)), (.int (41 : Int32)), (.ref d), (.int (0 : Int32)), (.ref tv)])) rfl (by rw [hml]; rfl) rfl (hb hby d_jdk_42m147_22) (by decide) (W := 0) (by show 2 * 0 + _ ≤ _; exact Nat.le_of_eq rfl) (by decide)
  have Z_5 : n0 ≤ h_5.size := (Nat.le_trans Z0 Kc_5.1)
  have K_5 : Keep h0 h_5 [d] := (Keep.refl h0 [d]).trans Kc_5 (allS (Or.inl (List.mem_of_getElem? (i := 0) rfl)) all0)
  have Va_5 : Arv Z h_5 d k .byte (84 : Int32) [(.int (83 : Int32)), (.int (69 : Int32)), (.int (84 : Int32)), (.int (32 : Int32)), (.int (83 : Int32)), (.int (84 : Int32)), (.int (65 : Int32)), (.int (84 : Int32)), (.int (69 : Int32)), (.int (77 : Int32)), (.int (69 : Int32)), (.int (78 : Int32)), (.int (84 : Int32)), (.int (32 : Int32)), (.int (102 : Int32)), (.int (111 : Int32)), (.int (114 : Int32)), (.int (101 : Int32)), (.int (105 : Int32)), (.int (103 : Int32)), (.int (110 : Int32)), (.int (95 : Int32)), (.int (107 : Int32)), (.int (101 : Int32)), (.int (121 : Int32)), (.int (95 : Int32)), (.int (99 : Int32)), (.int (104 : Int32)), (.int (101 : Int32)), (.int (99 : Int32)), (.int (107 : Int32)), (.int (115 : Int32)), (.int (32 : Int32)), (.int (61 : Int32)), (.int (32 : Int32)), (.int (48 : Int32)), (.int (32 : Int32)), (.int (70 : Int32)), (.int (79 : Int32)), (.int (82 : Int32)), (.int (32 : Int32)), (.int x0), (.int (0 : Int32)), (.int (0 : Int32)), (.int (0 : Int32)), (.int (0 : Int32)), (.int (0 : Int32)), (.int (0 : Int32)), (.int (0 : Int32)), (.int (0 : Int32)), (.int (0 : Int32)), (.int (0 : Int32)), (.int (0 : Int32)), (.int (0 : Int32)), (.int (0 : Int32)), (.int (0 : Int32)), (.int (0 : Int32)), (.int (0 : Int32)), (.int (0 : Int32)), (.int (0 : Int32)), (.int (0 : Int32)), (.int (0 : Int32)), (.int (0 : Int32)), (.int (0 : Int32)), (.int (0 : Int32)), (.int (0 : Int32)), (.int (0 : Int32)), (.int (0 : Int32)), (.int (0 : Int32)), (.int (0 : Int32)), (.int (0 : Int32)), (.int (0 : Int32)), (.int (0 : Int32)), (.int (0 : Int32)), (.int (0 : Int32)), (.int (0 : Int32)), (.int (0 : Int32)), (.int (0 : Int32)), (.int (0 : Int32)), (.int (0 : Int32)), (.int (0 : Int32)), (.int (0 : Int32)), (.int (0 : Int32)), (.int (0 : Int32))] (.int (0 : Int32)) := V_5
  obtain ⟨fs, hr, hrun, hended, hW, hsame⟩ := X_5.leave (v := none) (fun _ => rfl)
  refine ⟨_, _, pre0 _ ?_, hrun, hended, _, _, rfl, ?_, ⟨_, rfl⟩, hW, hsame.mono (by decide) (by decide)⟩
  · show oS pP eE below s₁ (mkF mM 0 #[.val (.ref t), .val (.ref d), .val (.int (41 : Int32)), .val (.int (0 : Int32))] []) _
    refine XS.aloadN X0.here hx rfl (hb hby d_jdk_42m147_0) rfl rfl ?_
    show oS pP eE below s₁ (mkF mM 1 #[.val (.ref t), .val (.ref d), .val (.int (41 : Int32)), .val (.int (0 : Int32))] [(.ref t)]) _
    refine st_1.trans ?_
    show oS pP eE below T_1 (mkF mM 4 #[.val (.ref t), .val (.ref d), .val (.int (41 : Int32)), .val (.int (0 : Int32))] [(.int (0 : Int32))]) _
    refine XS.iloadN X_1.here hx rfl (hb hby d_jdk_42m147_4) rfl ?_
    refine XS.icmpNo X_1.here hx rfl (hb hby d_jdk_42m147_5) rfl (by decide) ?_
    refine XS.aloadN X_1.here hx rfl (hb hby d_jdk_42m147_8) rfl rfl ?_
    show oS pP eE below T_1 (mkF mM 9 #[.val (.ref t), .val (.ref d), .val (.int (41 : Int32)), .val (.int (0 : Int32))] [(.ref t)]) _
    refine st_2 _ ?_
    show oS pP eE below T_2 (mkF mM 12 #[.val (.ref t), .val (.ref d), .val (.int (41 : Int32)), .val (.int (0 : Int32))] [(.ref tv)]) _
    refine XS.iconst X_2.here hx rfl (hb hby d_jdk_42m147_12) ?_
    refine XS.aloadN X_2.here hx rfl (hb hby d_jdk_42m147_13) rfl rfl ?_
    refine XS.iloadN X_2.here hx rfl (hb hby d_jdk_42m147_14) rfl ?_
    refine XS.iloadN X_2.here hx rfl (hb hby d_jdk_42m147_15) rfl ?_
    show oS pP eE below T_2 (mkF mM 16 #[.val (.ref t), .val (.ref d), .val (.int (41 : Int32)), .val (.int (0 : Int32))] [(.int (0 : Int32)), (.int (41 : Int32)), (.ref d), (.int (0 : Int32)), (.ref tv)]) _
    refine XT.ishl X_2.here hx rfl (hb hby d_jdk_42m147_16) rfl ?_
    show oS pP eE below T_2 (mkF mM 17 #[.val (.ref t), .val (.ref d), .val (.int (41 : Int32)), .val (.int (0 : Int32))] [(.int ((41 : Int32) <<< ((0 : Int32) &&& 31))), (.ref d), (.int (0 : Int32)), (.ref tv)]) _
    rw [(by decide : ((41 : Int32) <<< ((0 : Int32) &&& 31)) = (41 : Int32))]
    refine XS.aloadN X_2.here hx rfl (hb hby d_jdk_42m147_17) rfl rfl ?_
    show oS pP eE below T_2 (mkF mM 18 #[.val (.ref t), .val (.ref d), .val (.int (41 : Int32)), .val (.int (0 : Int32))] [(.ref t), (.int (41 : Int32)), (.ref d), (.int (0 : Int32)), (.ref tv)]) _
    refine st_3 _ ?_
    show oS pP eE below T_3 (mkF mM 21 #[.val (.ref t), .val (.ref d), .val (.int (41 : Int32)), .val (.int (0 : Int32))] [(.ref tv), (.int (41 : Int32)), (.ref d), (.int (0 : Int32)), (.ref tv)]) _
    refine X_3.arraylength hx (by rw [e_3]; exact Ar_4.1) (State.isArrayOf_alike hZ.alike Ar_4.2.1) (g := (mkF mM 21 #[.val (.ref t), .val (.ref d), .val (.int (41 : Int32)), .val (.int (0 : Int32))] [(.ref tv), (.int (41 : Int32)), (.ref d), (.int (0 : Int32)), (.ref tv)])) rfl rfl (hb hby d_jdk_42m147_21) _ ?_
    rw [len_of Sa_4 Na_4]
    show oS pP eE below T_3 (mkF mM 22 #[.val (.ref t), .val (.ref d), .val (.int (41 : Int32)), .val (.int (0 : Int32))] [(.int (1 : Int32)), (.int (41 : Int32)), (.ref d), (.int (0 : Int32)), (.ref tv)]) _
    refine st_5 _ ?_
    show oS pP eE below T_5 (mkF mM 25 #[.val (.ref t), .val (.ref d), .val (.int (41 : Int32)), .val (.int (0 : Int32))] []) _
    refine XS.goto X_5.here hx rfl (pc0 := 25) (pc' := 43) rfl (hb hby d_jdk_42m147_25) (by decide) (by decide) ?_
    show oS pP eE below T_5 (mkF mM 43 #[.val (.ref t), .val (.ref d), .val (.int (41 : Int32)), .val (.int (0 : Int32))] []) _
    exact X_5.returnOut hx Bd.returns (hb hby d_jdk_42m147_43) hr
  · show Q_gb42 Z t tv kt d k cs x0 h0 n0 _ T_5.heap _
    rw [e_5]
    exact ⟨rfl, N_5, K_5, Va_5⟩
theorem ef_put42 (mM : MethodId) (x0 : Addr) (x1 : Int32) (x2 : Addr) : entryFrame mM #[(.ref x0), (.int x1), (.ref x2)] 3 = mkF mM 0 #[.val (.ref x0), .val (.int x1), .val (.ref x2)] [] := by first | (simp [entryFrame, mkF, argsToLocals, Value.category]; done) | rfl
def Q_put42 (Z : State) (a : Addr) (t : Addr) (tv : Addr) (kt : ClassId) (d : Addr) (k : ClassId) (cs : Int32) (x0 : Int32) (h0 : Heap) (n0 : Nat) (v_ : Option Value) (h_ : Heap) (L_ : List Loc) : Prop := v_ = none ∧ Fr n0 L_ ∧ Keep h0 h_ [d] ∧ Arv Z h_ d k .byte (84 : Int32) [(.int (83 : Int32)), (.int (69 : Int32)), (.int (84 : Int32)), (.int (32 : Int32)), (.int (83 : Int32)), (.int (84 : Int32)), (.int (65 : Int32)), (.int (84 : Int32)), (.int (69 : Int32)), (.int (77 : Int32)), (.int (69 : Int32)), (.int (78 : Int32)), (.int (84 : Int32)), (.int (32 : Int32)), (.int (102 : Int32)), (.int (111 : Int32)), (.int (114 : Int32)), (.int (101 : Int32)), (.int (105 : Int32)), (.int (103 : Int32)), (.int (110 : Int32)), (.int (95 : Int32)), (.int (107 : Int32)), (.int (101 : Int32)), (.int (121 : Int32)), (.int (95 : Int32)), (.int (99 : Int32)), (.int (104 : Int32)), (.int (101 : Int32)), (.int (99 : Int32)), (.int (107 : Int32)), (.int (115 : Int32)), (.int (32 : Int32)), (.int (61 : Int32)), (.int (32 : Int32)), (.int (48 : Int32)), (.int (32 : Int32)), (.int (70 : Int32)), (.int (79 : Int32)), (.int (82 : Int32)), (.int (32 : Int32)), (.int x0), (.int (0 : Int32)), (.int (0 : Int32)), (.int (0 : Int32)), (.int (0 : Int32)), (.int (0 : Int32)), (.int (0 : Int32)), (.int (0 : Int32)), (.int (0 : Int32)), (.int (0 : Int32)), (.int (0 : Int32)), (.int (0 : Int32)), (.int (0 : Int32)), (.int (0 : Int32)), (.int (0 : Int32)), (.int (0 : Int32)), (.int (0 : Int32)), (.int (0 : Int32)), (.int (0 : Int32)), (.int (0 : Int32)), (.int (0 : Int32)), (.int (0 : Int32)), (.int (0 : Int32)), (.int (0 : Int32)), (.int (0 : Int32)), (.int (0 : Int32)), (.int (0 : Int32)), (.int (0 : Int32)), (.int (0 : Int32)), (.int (0 : Int32)), (.int (0 : Int32)), (.int (0 : Int32)), (.int (0 : Int32)), (.int (0 : Int32)), (.int (0 : Int32)), (.int (0 : Int32)), (.int (0 : Int32)), (.int (0 : Int32)), (.int (0 : Int32)), (.int (0 : Int32)), (.int (0 : Int32)), (.int (0 : Int32)), (.int (0 : Int32))] (.int (0 : Int32))
set_option maxRecDepth 65536 in
set_option maxHeartbeats 40000000 in
theorem rm_put42 (l : Launch) (Z : State) (a0 : Array Value) (hw : ∀ d ∈ tables_1, d.before a0 Z = true) (ws : List Jvm.Cond) (a : Addr) (t : Addr) (tv : Addr) (kt : ClassId) (d : Addr) (k : ClassId) (cs : Int32) (x0 : Int32) (h0 : Heap) (n0 : Nat) (Z0 : n0 ≤ h0.size) (F_value_a : Fld Z h0 a "java/lang/AbstractStringBuilder" "value" "[B" (.ref d)) (F_coder_a : Fld Z h0 a "java/lang/AbstractStringBuilder" "coder" "B" (.int (0 : Int32))) (F_count_a : Fld Z h0 a "java/lang/AbstractStringBuilder" "count" "I" (.int (41 : Int32))) (E_a : Exa Z h0 a "java/lang/StringBuilder") (F_value_t : Fld Z h0 t "java/lang/String" "value" "[B" (.ref tv)) (F_coder_t : Fld Z h0 t "java/lang/String" "coder" "B" (.int (0 : Int32))) (E_t : Exa Z h0 t "java/lang/String") (V_tv : Arv Z h0 tv kt .byte (1 : Int32) [(.int x0)] (.int (0 : Int32))) (V_d : Arv Z h0 d k .byte (84 : Int32) [(.int (83 : Int32)), (.int (69 : Int32)), (.int (84 : Int32)), (.int (32 : Int32)), (.int (83 : Int32)), (.int (84 : Int32)), (.int (65 : Int32)), (.int (84 : Int32)), (.int (69 : Int32)), (.int (77 : Int32)), (.int (69 : Int32)), (.int (78 : Int32)), (.int (84 : Int32)), (.int (32 : Int32)), (.int (102 : Int32)), (.int (111 : Int32)), (.int (114 : Int32)), (.int (101 : Int32)), (.int (105 : Int32)), (.int (103 : Int32)), (.int (110 : Int32)), (.int (95 : Int32)), (.int (107 : Int32)), (.int (101 : Int32)), (.int (121 : Int32)), (.int (95 : Int32)), (.int (99 : Int32)), (.int (104 : Int32)), (.int (101 : Int32)), (.int (99 : Int32)), (.int (107 : Int32)), (.int (115 : Int32)), (.int (32 : Int32)), (.int (61 : Int32)), (.int (32 : Int32)), (.int (48 : Int32)), (.int (32 : Int32)), (.int (70 : Int32)), (.int (79 : Int32)), (.int (82 : Int32)), (.int (32 : Int32)), (.int (0 : Int32)), (.int (0 : Int32)), (.int (0 : Int32)), (.int (0 : Int32)), (.int (0 : Int32)), (.int (0 : Int32)), (.int (0 : Int32)), (.int (0 : Int32)), (.int (0 : Int32)), (.int (0 : Int32)), (.int (0 : Int32)), (.int (0 : Int32)), (.int (0 : Int32)), (.int (0 : Int32)), (.int (0 : Int32)), (.int (0 : Int32)), (.int (0 : Int32)), (.int (0 : Int32)), (.int (0 : Int32)), (.int (0 : Int32)), (.int (0 : Int32)), (.int (0 : Int32)), (.int (0 : Int32)), (.int (0 : Int32)), (.int (0 : Int32)), (.int (0 : Int32)), (.int (0 : Int32)), (.int (0 : Int32)), (.int (0 : Int32)), (.int (0 : Int32)), (.int (0 : Int32)), (.int (0 : Int32)), (.int (0 : Int32)), (.int (0 : Int32)), (.int (0 : Int32)), (.int (0 : Int32)), (.int (0 : Int32)), (.int (0 : Int32)), (.int (0 : Int32)), (.int (0 : Int32)), (.int (0 : Int32)), (.int (0 : Int32)), (.int (0 : Int32))] (.int (0 : Int32))) (g_d : n0 ≤ d) (S_String_COMPACT_STRINGS : Sta Z h0 "java/lang/String" "COMPACT_STRINGS" "Z" (.int cs)) (hcs : ¬ cs = 0) :
    MetFree l (⟨"java/lang/AbstractStringBuilder", "putStringAt", "(ILjava/lang/String;)V"⟩ : MethodName) (head1 (Jvm.Cond.code (⟨"java/lang/AbstractStringBuilder", "putStringAt", "(ILjava/lang/String;)V"⟩ : MethodName) jdk_68_method_73_code 3 none :: ws) ({ frames := 2, cells := 0, slots := 0, locals := 33 } : Room)) (fun aa_ U_ => aa_ = #[(.ref a), (.int (41 : Int32)), (.ref t)] ∧ Z.Warmed39 U_.vm ∧ U_.heap = h0) (fun _ _ _ _ _ => True) (fun _ U_ o_ U'_ => ∃ v_ L_, o_ = .returned v_ ∧ Q_put42 Z a t tv kt d k cs x0 h0 n0 v_ U'_.heap L_ ∧ FrameEnd U_ o_ U'_ L_ ({ frames := 2, cells := 0, slots := 0, locals := 33 } : Room).cells ({ frames := 2, cells := 0, slots := 0, locals := 33 } : Room).slots) := by
  refine MetFree.of_bodySF (plainFor_of_name pn_3) hisR ?_
  intro pP eE sS mM argsA below meth cC s₁ Bd hml0 hP hK
  obtain ⟨rfl, hZ, hh⟩ := hP
  have hx := Bd.exec
  have hby := Bd.bytes
  have hml : cC.maxLocals = 3 := hml0
  have hown : sS.vm.findClass "java/lang/AbstractStringBuilder" = some mM.cls := findClass_of_methodNamed Bd.named
  have hnm := (name_of_methodNamed Bd.named Bd.method).1
  have X0 : Stand pP l eE ({ frames := 2, cells := 0, slots := 0, locals := 33 } : Room) sS mM #[(.ref a), (.int (41 : Int32)), (.ref t)] below meth cC s₁ [] 0 0 := Stand.of_body Bd
  have e0 : s₁.heap = h0 := by rw [← hh, Bd.state]; rfl
  have N0 := Fr.nil n0
  have pre0 : ∀ t_, Steps pP.tables eE below (s₁.setTop (mkF mM 0 #[.val (.ref a), .val (.int (41 : Int32)), .val (.ref t)] [])) t_ → Steps pP.tables eE below (s₁.setTop (entryFrame mM #[(.ref a), (.int (41 : Int32)), (.ref t)] 3)) t_ := fun t_ k_ => castTop (ef_put42 mM a (41 : Int32) t) k_
  obtain ⟨cq_1, kq_1, q_1a, q_1b, q_1c⟩ := isOf hZ e0 E_a
  obtain ⟨_, _, ⟨T_1, L_1, k_1, n_1⟩, -, X_1, ⟨Lc_1, hQ_1, l_1, y_1, z_1⟩, st_1⟩ := X0.virtualBack hx (y := MN10) (z := MN10) hown (mvT hZ (ow hw 129 rfl)) (own_decl (mvT hZ (ow hw 130 rfl)) (mvT hZ (ow hw 133 rfl))) (notFace_of_selects (args := #[]) (mvT hZ (ow hw 132 rfl))) (mvT hZ (ow hw 132 rfl)) (mvT hZ (ow hw 130 rfl)) (by decide) (backOf (W := 0) (rm_infl l Z a0 hw [] a t cs h0 n0 Z0 F_coder_a F_coder_t E_t S_String_COMPACT_STRINGS hcs) hZ (ow hw 133 rfl) (ow hw 63 rfl) (by decide) (by decide)) q_1a q_1c (g := (mkF mM 2 #[.val (.ref a), .val (.int (41 : Int32)), .val (.ref t)] [(.ref t), (.ref a)])) rfl (by rw [hml]; rfl) (Steps.refl _) (argsL := [(.ref t)]) (rest := []) (lenOf pd_9 rfl) rfl (by show 2 * 0 + _ ≤ _; exact Nat.le_of_eq rfl) (hb hby d_jdk_68m73_2) (fun _ _ => ⟨rfl, e0, (by decide : 0 + 0 ≤ _), (by decide : 0 + 0 ≤ _)⟩)
  dsimp only [Pt.U, Pt.locs, Pt.cells, Pt.slots] at X_1 l_1 y_1 z_1 st_1 hQ_1
  subst l_1 y_1 z_1
  obtain ⟨rfl, N_1q, eh_1⟩ := hQ_1
  have N_1 := Fr.app N0 N_1q
  obtain ⟨T_2, X_2, e_2, st_2⟩ := getF X_1 hx hZ hown (host := "") (Or.inl (ow hw 67 rfl)) Via.refl eh_1 F_value_a (g := (mkF mM 7 #[.val (.ref a), .val (.int (41 : Int32)), .val (.ref t)] [(.ref a), (.ref t)])) rfl rfl (hb hby d_jdk_68m73_7)
  obtain ⟨T_3, X_3, e_3, st_3⟩ := getF X_2 hx hZ hown (host := "") (Or.inl (ow hw 69 rfl)) Via.refl e_2 F_coder_a (g := (mkF mM 12 #[.val (.ref a), .val (.int (41 : Int32)), .val (.ref t)] [(.ref a), (.int (41 : Int32)), (.ref d), (.ref t)])) rfl rfl (hb hby d_jdk_68m73_12)
  obtain ⟨cq_4, kq_4, q_4a, q_4b, q_4c⟩ := isOf hZ e_3 E_t
  obtain ⟨_, _, ⟨T_4, L_4, k_4, n_4⟩, -, X_4, ⟨Lc_4, hQ_4, l_4, y_4, z_4⟩, st_4⟩ := X_3.virtualBack hx (y := MN11) (z := MN11) hown (mvT hZ (ow hw 135 rfl)) (mvT hZ (ow hw 136 rfl)) (notFace_of_selects (args := #[]) (mvT hZ (ow hw 138 rfl))) (mvT hZ (ow hw 138 rfl)) (mvT hZ (ow hw 137 rfl)) (by decide) (backOf (W := 0) (rm_gb42 l Z a0 hw [] t tv kt d k cs x0 h0 n0 Z0 F_value_t F_coder_t E_t V_tv V_d g_d S_String_COMPACT_STRINGS hcs) hZ (ow hw 139 rfl) (ow hw 24 rfl) (by decide) (by decide)) q_4a q_4c (g := (mkF mM 15 #[.val (.ref a), .val (.int (41 : Int32)), .val (.ref t)] [(.int (0 : Int32)), (.int (41 : Int32)), (.ref d), (.ref t)])) rfl (by rw [hml]; rfl) (Steps.refl _) (argsL := [(.ref d), (.int (41 : Int32)), (.int (0 : Int32))]) (rest := []) (lenOf pd_10 rfl) rfl (by show 2 * 0 + _ ≤ _; exact Nat.le_of_eq rfl) (hb hby d_jdk_68m73_15) (fun _ _ => ⟨rfl, e_3, (by decide : 0 + 0 ≤ _), (by decide : 0 + 0 ≤ _)⟩)
  dsimp only [Pt.U, Pt.locs, Pt.cells, Pt.slots] at X_4 l_4 y_4 z_4 st_4 hQ_4
  subst l_4 y_4 z_4
  obtain ⟨rfl, N_4q, Kc_4, pfV_d_4⟩ := hQ_4
  have Z_4 : n0 ≤ T_4.heap.size := (Nat.le_trans Z0 Kc_4.1)
  have K_4 : Keep h0 T_4.heap [d] := (Keep.refl h0 [d]).trans Kc_4 (allS (Or.inl (List.mem_of_getElem? (i := 0) rfl)) all0)
  have N_4 := Fr.app N_1 N_4q
  obtain ⟨fs, hr, hrun, hended, hW, hsame⟩ := X_4.leave (v := none) (fun _ => rfl)
  refine ⟨_, _, pre0 _ ?_, hrun, hended, _, _, rfl, ?_, ⟨_, rfl⟩, hW, hsame.mono (by decide) (by decide)⟩
  · show oS pP eE below s₁ (mkF mM 0 #[.val (.ref a), .val (.int (41 : Int32)), .val (.ref t)] []) _
    refine XS.aloadN X0.here hx rfl (hb hby d_jdk_68m73_0) rfl rfl ?_
    refine XS.aloadN X0.here hx rfl (hb hby d_jdk_68m73_1) rfl rfl ?_
    show oS pP eE below s₁ (mkF mM 2 #[.val (.ref a), .val (.int (41 : Int32)), .val (.ref t)] [(.ref t), (.ref a)]) _
    refine st_1.trans ?_
    show oS pP eE below T_1 (mkF mM 5 #[.val (.ref a), .val (.int (41 : Int32)), .val (.ref t)] []) _
    refine XS.aloadN X_1.here hx rfl (hb hby d_jdk_68m73_5) rfl rfl ?_
    refine XS.aloadN X_1.here hx rfl (hb hby d_jdk_68m73_6) rfl rfl ?_
    show oS pP eE below T_1 (mkF mM 7 #[.val (.ref a), .val (.int (41 : Int32)), .val (.ref t)] [(.ref a), (.ref t)]) _
    refine st_2 _ ?_
    show oS pP eE below T_2 (mkF mM 10 #[.val (.ref a), .val (.int (41 : Int32)), .val (.ref t)] [(.ref d), (.ref t)]) _
    refine XS.iloadN X_2.here hx rfl (hb hby d_jdk_68m73_10) rfl ?_
    refine XS.aloadN X_2.here hx rfl (hb hby d_jdk_68m73_11) rfl rfl ?_
    show oS pP eE below T_2 (mkF mM 12 #[.val (.ref a), .val (.int (41 : Int32)), .val (.ref t)] [(.ref a), (.int (41 : Int32)), (.ref d), (.ref t)]) _
    refine st_3 _ ?_
    show oS pP eE below T_3 (mkF mM 15 #[.val (.ref a), .val (.int (41 : Int32)), .val (.ref t)] [(.int (0 : Int32)), (.int (41 : Int32)), (.ref d), (.ref t)]) _
    refine st_4.trans ?_
    show oS pP eE below T_4 (mkF mM 18 #[.val (.ref a), .val (.int (41 : Int32)), .val (.ref t)] []) _
    exact X_4.returnOut hx Bd.returns (hb hby d_jdk_68m73_18) hr
  · show Q_put42 Z a t tv kt d k cs x0 h0 n0 _ T_4.heap _
    exact ⟨rfl, N_4, K_4, pfV_d_4⟩
theorem ef_aap42 (mM : MethodId) (x0 : Addr) (x1 : Addr) : entryFrame mM #[(.ref x0), (.ref x1)] 3 = mkF mM 0 #[.val (.ref x0), .val (.ref x1), .unset] [] := by first | (simp [entryFrame, mkF, argsToLocals, Value.category]; done) | rfl
def Q_aap42 (Z : State) (a : Addr) (t : Addr) (tv : Addr) (kt : ClassId) (d : Addr) (k : ClassId) (cs : Int32) (x0 : Int32) (h0 : Heap) (n0 : Nat) (v_ : Option Value) (h_ : Heap) (L_ : List Loc) : Prop := ∃ e : Addr, ∃ kk : ClassId, v_ = some (.ref a) ∧ Fr n0 L_ ∧ Keep h0 h_ [a] ∧ h0.size ≤ e ∧ Fld Z h_ a "java/lang/AbstractStringBuilder" "value" "[B" (.ref e) ∧ Fld Z h_ a "java/lang/AbstractStringBuilder" "coder" "B" (.int (0 : Int32)) ∧ Fld Z h_ a "java/lang/AbstractStringBuilder" "count" "I" (.int (42 : Int32)) ∧ Exa Z h_ a "java/lang/StringBuilder" ∧ Arv Z h_ e kk .byte (84 : Int32) [(.int (83 : Int32)), (.int (69 : Int32)), (.int (84 : Int32)), (.int (32 : Int32)), (.int (83 : Int32)), (.int (84 : Int32)), (.int (65 : Int32)), (.int (84 : Int32)), (.int (69 : Int32)), (.int (77 : Int32)), (.int (69 : Int32)), (.int (78 : Int32)), (.int (84 : Int32)), (.int (32 : Int32)), (.int (102 : Int32)), (.int (111 : Int32)), (.int (114 : Int32)), (.int (101 : Int32)), (.int (105 : Int32)), (.int (103 : Int32)), (.int (110 : Int32)), (.int (95 : Int32)), (.int (107 : Int32)), (.int (101 : Int32)), (.int (121 : Int32)), (.int (95 : Int32)), (.int (99 : Int32)), (.int (104 : Int32)), (.int (101 : Int32)), (.int (99 : Int32)), (.int (107 : Int32)), (.int (115 : Int32)), (.int (32 : Int32)), (.int (61 : Int32)), (.int (32 : Int32)), (.int (48 : Int32)), (.int (32 : Int32)), (.int (70 : Int32)), (.int (79 : Int32)), (.int (82 : Int32)), (.int (32 : Int32)), (.int x0), (.int (0 : Int32)), (.int (0 : Int32)), (.int (0 : Int32)), (.int (0 : Int32)), (.int (0 : Int32)), (.int (0 : Int32)), (.int (0 : Int32)), (.int (0 : Int32)), (.int (0 : Int32)), (.int (0 : Int32)), (.int (0 : Int32)), (.int (0 : Int32)), (.int (0 : Int32)), (.int (0 : Int32)), (.int (0 : Int32)), (.int (0 : Int32)), (.int (0 : Int32)), (.int (0 : Int32)), (.int (0 : Int32)), (.int (0 : Int32)), (.int (0 : Int32)), (.int (0 : Int32)), (.int (0 : Int32)), (.int (0 : Int32)), (.int (0 : Int32)), (.int (0 : Int32)), (.int (0 : Int32)), (.int (0 : Int32)), (.int (0 : Int32)), (.int (0 : Int32)), (.int (0 : Int32)), (.int (0 : Int32)), (.int (0 : Int32)), (.int (0 : Int32)), (.int (0 : Int32)), (.int (0 : Int32)), (.int (0 : Int32)), (.int (0 : Int32)), (.int (0 : Int32)), (.int (0 : Int32)), (.int (0 : Int32)), (.int (0 : Int32))] (.int (0 : Int32))
set_option maxRecDepth 65536 in
set_option maxHeartbeats 40000000 in
theorem rm_aap42 (l : Launch) (Z : State) (a0 : Array Value) (hw : ∀ d ∈ tables_1, d.before a0 Z = true) (ws : List Jvm.Cond) (a : Addr) (t : Addr) (tv : Addr) (kt : ClassId) (d : Addr) (k : ClassId) (cs : Int32) (x0 : Int32) (h0 : Heap) (n0 : Nat) (Z0 : n0 ≤ h0.size) (F_value_a : Fld Z h0 a "java/lang/AbstractStringBuilder" "value" "[B" (.ref d)) (F_coder_a : Fld Z h0 a "java/lang/AbstractStringBuilder" "coder" "B" (.int (0 : Int32))) (F_count_a : Fld Z h0 a "java/lang/AbstractStringBuilder" "count" "I" (.int (41 : Int32))) (E_a : Exa Z h0 a "java/lang/StringBuilder") (V_d : Arv Z h0 d k .byte (41 : Int32) [(.int (83 : Int32)), (.int (69 : Int32)), (.int (84 : Int32)), (.int (32 : Int32)), (.int (83 : Int32)), (.int (84 : Int32)), (.int (65 : Int32)), (.int (84 : Int32)), (.int (69 : Int32)), (.int (77 : Int32)), (.int (69 : Int32)), (.int (78 : Int32)), (.int (84 : Int32)), (.int (32 : Int32)), (.int (102 : Int32)), (.int (111 : Int32)), (.int (114 : Int32)), (.int (101 : Int32)), (.int (105 : Int32)), (.int (103 : Int32)), (.int (110 : Int32)), (.int (95 : Int32)), (.int (107 : Int32)), (.int (101 : Int32)), (.int (121 : Int32)), (.int (95 : Int32)), (.int (99 : Int32)), (.int (104 : Int32)), (.int (101 : Int32)), (.int (99 : Int32)), (.int (107 : Int32)), (.int (115 : Int32)), (.int (32 : Int32)), (.int (61 : Int32)), (.int (32 : Int32)), (.int (48 : Int32)), (.int (32 : Int32)), (.int (70 : Int32)), (.int (79 : Int32)), (.int (82 : Int32)), (.int (32 : Int32))] (.int (0 : Int32))) (g_a : n0 ≤ a) (F_value_t : Fld Z h0 t "java/lang/String" "value" "[B" (.ref tv)) (F_coder_t : Fld Z h0 t "java/lang/String" "coder" "B" (.int (0 : Int32))) (E_t : Exa Z h0 t "java/lang/String") (V_tv : Arv Z h0 tv kt .byte (1 : Int32) [(.int x0)] (.int (0 : Int32))) (S_String_COMPACT_STRINGS : Sta Z h0 "java/lang/String" "COMPACT_STRINGS" "Z" (.int cs)) (hcs : ¬ cs = 0) (nat : a ≠ t) (natv : a ≠ tv) :
    MetFree l (⟨"java/lang/AbstractStringBuilder", "append", "(Ljava/lang/String;)Ljava/lang/AbstractStringBuilder;"⟩ : MethodName) (head1 (Jvm.Cond.code (⟨"java/lang/AbstractStringBuilder", "append", "(Ljava/lang/String;)Ljava/lang/AbstractStringBuilder;"⟩ : MethodName) jdk_68_method_22_code 3 (some (.object "java/lang/AbstractStringBuilder")) :: ws) ({ frames := 4, cells := 1, slots := 84, locals := 62 } : Room)) (fun aa_ U_ => aa_ = #[(.ref a), (.ref t)] ∧ Z.Warmed39 U_.vm ∧ U_.heap = h0) (fun _ _ _ _ _ => True) (fun _ U_ o_ U'_ => ∃ v_ L_, o_ = .returned v_ ∧ Q_aap42 Z a t tv kt d k cs x0 h0 n0 v_ U'_.heap L_ ∧ FrameEnd U_ o_ U'_ L_ ({ frames := 4, cells := 1, slots := 84, locals := 62 } : Room).cells ({ frames := 4, cells := 1, slots := 84, locals := 62 } : Room).slots) := by
  refine MetFree.of_bodySF (plainFor_of_name pn_3) hisR ?_
  intro pP eE sS mM argsA below meth cC s₁ Bd hml0 hP hK
  obtain ⟨rfl, hZ, hh⟩ := hP
  have hx := Bd.exec
  have hby := Bd.bytes
  have hml : cC.maxLocals = 3 := hml0
  have hown : sS.vm.findClass "java/lang/AbstractStringBuilder" = some mM.cls := findClass_of_methodNamed Bd.named
  have hnm := (name_of_methodNamed Bd.named Bd.method).1
  have X0 : Stand pP l eE ({ frames := 4, cells := 1, slots := 84, locals := 62 } : Room) sS mM #[(.ref a), (.ref t)] below meth cC s₁ [] 0 0 := Stand.of_body Bd
  have e0 : s₁.heap = h0 := by rw [← hh, Bd.state]; rfl
  have N0 := Fr.nil n0
  have pre0 : ∀ t_, Steps pP.tables eE below (s₁.setTop (mkF mM 0 #[.val (.ref a), .val (.ref t), .unset] [])) t_ → Steps pP.tables eE below (s₁.setTop (entryFrame mM #[(.ref a), (.ref t)] 3)) t_ := fun t_ k_ => castTop (ef_aap42 mM a t) k_
  obtain ⟨cq_1, kq_1, q_1a, q_1b, q_1c⟩ := isOf hZ e0 E_t
  obtain ⟨_, _, ⟨T_1, L_1, k_1, n_1⟩, -, X_1, ⟨Lc_1, hQ_1, l_1, y_1, z_1⟩, st_1⟩ := X0.virtualBack hx (y := MN12) (z := MN12) hown (mvT hZ (ow hw 81 rfl)) (mvT hZ (ow hw 82 rfl)) (notFace_of_selects (args := #[]) (mvT hZ (ow hw 84 rfl))) (mvT hZ (ow hw 84 rfl)) (mvT hZ (ow hw 83 rfl)) (by decide) (backOf (W := 0) (rm_len1 l Z a0 hw [] t tv kt cs x0 h0 n0 Z0 F_value_t F_coder_t E_t V_tv S_String_COMPACT_STRINGS hcs) hZ (ow hw 85 rfl) (ow hw 24 rfl) (by decide) (by decide)) q_1a q_1c (g := (mkF mM 10 #[.val (.ref a), .val (.ref t), .unset] [(.ref t)])) rfl (by rw [hml]; rfl) (Steps.refl _) (argsL := []) (rest := []) (lenOf pd_11 rfl) rfl (by show 2 * 0 + _ ≤ _; exact Nat.le_of_eq rfl) (hb hby d_jdk_68m22_10) (fun _ _ => ⟨rfl, e0, (by decide : 0 + 0 ≤ _), (by decide : 0 + 0 ≤ _)⟩)
  dsimp only [Pt.U, Pt.locs, Pt.cells, Pt.slots] at X_1 l_1 y_1 z_1 st_1 hQ_1
  subst l_1 y_1 z_1
  obtain ⟨rfl, N_1q, eh_1⟩ := hQ_1
  have N_1 := Fr.app N0 N_1q
  obtain ⟨T_2, X_2, e_2, st_2⟩ := getF X_1 hx hZ hown (host := "") (Or.inl (ow hw 91 rfl)) Via.refl eh_1 F_count_a (g := (mkF mM 16 #[.val (.ref a), .val (.ref t), .val (.int (1 : Int32))] [(.ref a), (.ref a)])) rfl rfl (hb hby d_jdk_68m22_16)
  obtain ⟨cq_3, kq_3, q_3a, q_3b, q_3c⟩ := isOf hZ e_2 E_a
  obtain ⟨_, _, ⟨T_3, L_3, k_3, n_3⟩, -, X_3, ⟨Lc_3, hQ_3, l_3, y_3, z_3⟩, st_3⟩ := X_2.virtualBack hx (y := MN13) (z := MN13) hown (mvT hZ (ow hw 93 rfl)) (own_decl (mvT hZ (ow hw 94 rfl)) (mvT hZ (ow hw 97 rfl))) (notFace_of_selects (args := #[]) (mvT hZ (ow hw 96 rfl))) (mvT hZ (ow hw 96 rfl)) (mvT hZ (ow hw 94 rfl)) (by decide) (backOf (W := 0) (rm_ens42 l Z a0 hw [] a d k h0 n0 Z0 F_value_a F_coder_a F_count_a E_a V_d g_a) hZ (ow hw 97 rfl) (ow hw 63 rfl) (by decide) (by decide)) q_3a q_3c (g := (mkF mM 21 #[.val (.ref a), .val (.ref t), .val (.int (1 : Int32))] [(.int (42 : Int32)), (.ref a)])) rfl (by rw [hml]; rfl) (Steps.refl _) (argsL := [(.int (42 : Int32))]) (rest := []) (lenOf pd_4 rfl) rfl (by show 2 * 0 + _ ≤ _; exact Nat.le_of_eq rfl) (hb hby d_jdk_68m22_21) (fun _ _ => ⟨rfl, e_2, (by decide : 0 + 1 ≤ _), (by decide : 0 + 84 ≤ _)⟩)
  dsimp only [Pt.U, Pt.locs, Pt.cells, Pt.slots] at X_3 l_3 y_3 z_3 st_3 hQ_3
  subst l_3 y_3 z_3
  obtain ⟨e__3, ⟨kk__3, ⟨rfl, N_3q, Kc_3, pfsz_e_3, pfF_value_a_3, pfF_coder_a_3, pfF_count_a_3, pfE_a_3, pfV_e_3⟩⟩⟩ := hQ_3
  have Z_3 : n0 ≤ T_3.heap.size := (Nat.le_trans Z0 Kc_3.1)
  have K_3 : Keep h0 T_3.heap [a] := (Keep.refl h0 [a]).trans Kc_3 (allS (Or.inl (List.mem_of_getElem? (i := 0) rfl)) all0)
  have sz_e__3 : h0.size ≤ e__3 := Nat.le_trans (Keep.refl h0 [a]).1 pfsz_e_3
  have g_e__3 : n0 ≤ e__3 := Nat.le_trans Z0 pfsz_e_3
  have N_3 := Fr.app N_1 N_3q
  obtain ⟨T_4, X_4, e_4, st_4⟩ := getF X_3 hx hZ hown (host := "") (Or.inl (ow hw 91 rfl)) Via.refl rfl pfF_count_a_3 (g := (mkF mM 26 #[.val (.ref a), .val (.ref t), .val (.int (1 : Int32))] [(.ref a), (.ref a)])) rfl rfl (hb hby d_jdk_68m22_26)
  obtain ⟨cq_5, kq_5, q_5a, q_5b, q_5c⟩ := isOf hZ e_4 pfE_a_3
  obtain ⟨_, _, ⟨T_5, L_5, k_5, n_5⟩, -, X_5, ⟨Lc_5, hQ_5, l_5, y_5, z_5⟩, st_5⟩ := X_4.virtualBack hx (y := MN14) (z := MN14) hown (mvT hZ (ow hw 124 rfl)) (own_decl (mvT hZ (ow hw 125 rfl)) (mvT hZ (ow hw 128 rfl))) (notFace_of_selects (args := #[]) (mvT hZ (ow hw 127 rfl))) (mvT hZ (ow hw 127 rfl)) (mvT hZ (ow hw 125 rfl)) (by decide) (backOf (W := 0) (rm_put42 l Z a0 hw [] a t tv kt e__3 kk__3 cs x0 T_3.heap n0 Z_3 pfF_value_a_3 pfF_coder_a_3 pfF_count_a_3 pfE_a_3 (F_value_t.keep Kc_3 (ninS (Ne.symm nat) nin0)) (F_coder_t.keep Kc_3 (ninS (Ne.symm nat) nin0)) (E_t.keep Kc_3) (V_tv.keep Kc_3 (ninS (Ne.symm natv) nin0)) pfV_e_3 g_e__3 (own_sta_keep S_String_COMPACT_STRINGS Kc_3 (allS (own_exa_ns E_a) all0)) hcs) hZ (ow hw 128 rfl) (ow hw 63 rfl) (by decide) (by decide)) q_5a q_5c (g := (mkF mM 30 #[.val (.ref a), .val (.ref t), .val (.int (1 : Int32))] [(.ref t), (.int (41 : Int32)), (.ref a)])) rfl (by rw [hml]; rfl) (Steps.refl _) (argsL := [(.int (41 : Int32)), (.ref t)]) (rest := []) (lenOf pd_12 rfl) rfl (by show 2 * 0 + _ ≤ _; exact Nat.le_of_eq rfl) (hb hby d_jdk_68m22_30) (fun _ _ => ⟨rfl, e_4, (by decide : 1 + 0 ≤ _), (by decide : 84 + 0 ≤ _)⟩)
  dsimp only [Pt.U, Pt.locs, Pt.cells, Pt.slots] at X_5 l_5 y_5 z_5 st_5 hQ_5
  subst l_5 y_5 z_5
  obtain ⟨rfl, N_5q, Kc_5, pfV_d_5⟩ := hQ_5
  have Z_5 : n0 ≤ T_5.heap.size := (Nat.le_trans Z_3 Kc_5.1)
  have K_5 : Keep h0 T_5.heap [a] := K_3.trans Kc_5 (allS (Or.inr sz_e__3) all0)
  have N_5 := Fr.app N_3 N_5q
  obtain ⟨T_6, X_6, e_6, st_6⟩ := getF X_5 hx hZ hown (host := "") (Or.inl (ow hw 91 rfl)) Via.refl rfl (pfF_count_a_3.keep Kc_5 (ninS (Nat.ne_of_lt (Nat.lt_of_lt_of_le E_a.lt pfsz_e_3)) nin0)) (g := (mkF mM 35 #[.val (.ref a), .val (.ref t), .val (.int (1 : Int32))] [(.ref a), (.ref a)])) rfl rfl (hb hby d_jdk_68m22_35)
  obtain ⟨T_7, h_7, X_7, e_7, W_7, st_7⟩ := putF X_6 hx hZ hown (host := "") (Or.inl (ow hw 91 rfl)) Via.refl e_6 (pfF_count_a_3.keep Kc_5 (ninS (Nat.ne_of_lt (Nat.lt_of_lt_of_le E_a.lt pfsz_e_3)) nin0)) (pfE_a_3.keep Kc_5) (Or.inl (ow hw 92 rfl)) (ow hw 54 rfl) (ty := .int) (by decide) rfl rfl (g := (mkF mM 40 #[.val (.ref a), .val (.ref t), .val (.int (1 : Int32))] [(.int (42 : Int32)), (.ref a)])) rfl rfl (hb hby d_jdk_68m22_40)
  have Fw_7 := (pfF_count_a_3.keep Kc_5 (ninS (Nat.ne_of_lt (Nat.lt_of_lt_of_le E_a.lt pfsz_e_3)) nin0)).same W_7
  have Z_7 : n0 ≤ h_7.size := (Nat.le_trans Z_5 (Keep.of_wr W_7).1)
  have K_7 : Keep h0 h_7 [a] := K_5.wr W_7 (Or.inl (List.mem_of_getElem? (i := 0) rfl))
  have N_7 := Fr.snoc X_7 N_5 g_a
  obtain ⟨fs, hr, hrun, hended, hW, hsame⟩ := X_7.leave (v := some (.ref a)) (fun h => by rw [Bd.returns] at h; cases h)
  refine ⟨_, _, pre0 _ ?_, hrun, hended, _, _, rfl, ?_, ⟨_, rfl⟩, hW, hsame.mono (by decide) (by decide)⟩
  · show oS pP eE below s₁ (mkF mM 0 #[.val (.ref a), .val (.ref t), .unset] []) _
    refine XS.aloadN X0.here hx rfl (hb hby d_jdk_68m22_0) rfl rfl ?_
    show oS pP eE below s₁ (mkF mM 1 #[.val (.ref a), .val (.ref t), .unset] [(.ref t)]) _
    refine XT.ifnonnullYes X0.here hx rfl (pc0 := 1) (pc' := 9) rfl (hb hby d_jdk_68m22_1) rfl (by decide) (by decide) ?_
    refine XS.aloadN X0.here hx rfl (hb hby d_jdk_68m22_9) rfl rfl ?_
    show oS pP eE below s₁ (mkF mM 10 #[.val (.ref a), .val (.ref t), .unset] [(.ref t)]) _
    refine st_1.trans ?_
    show oS pP eE below T_1 (mkF mM 13 #[.val (.ref a), .val (.ref t), .unset] [(.int (1 : Int32))]) _
    refine XS.istoreN X_1.here hx rfl (hb hby d_jdk_68m22_13) rfl (l' := #[.val (.ref a), .val (.ref t), .val (.int (1 : Int32))]) rfl ?_
    refine XS.aloadN X_1.here hx rfl (hb hby d_jdk_68m22_14) rfl rfl ?_
    refine XS.aloadN X_1.here hx rfl (hb hby d_jdk_68m22_15) rfl rfl ?_
    show oS pP eE below T_1 (mkF mM 16 #[.val (.ref a), .val (.ref t), .val (.int (1 : Int32))] [(.ref a), (.ref a)]) _
    refine st_2 _ ?_
    show oS pP eE below T_2 (mkF mM 19 #[.val (.ref a), .val (.ref t), .val (.int (1 : Int32))] [(.int (41 : Int32)), (.ref a)]) _
    refine XS.iloadN X_2.here hx rfl (hb hby d_jdk_68m22_19) rfl ?_
    show oS pP eE below T_2 (mkF mM 20 #[.val (.ref a), .val (.ref t), .val (.int (1 : Int32))] [(.int (1 : Int32)), (.int (41 : Int32)), (.ref a)]) _
    refine XS.iadd X_2.here hx rfl (hb hby d_jdk_68m22_20) rfl ?_
    show oS pP eE below T_2 (mkF mM 21 #[.val (.ref a), .val (.ref t), .val (.int (1 : Int32))] [(.int ((41 : Int32) + (1 : Int32))), (.ref a)]) _
    rw [(by decide : ((41 : Int32) + (1 : Int32)) = (42 : Int32))]
    show oS pP eE below T_2 (mkF mM 21 #[.val (.ref a), .val (.ref t), .val (.int (1 : Int32))] [(.int (42 : Int32)), (.ref a)]) _
    refine st_3.trans ?_
    show oS pP eE below T_3 (mkF mM 24 #[.val (.ref a), .val (.ref t), .val (.int (1 : Int32))] []) _
    refine XS.aloadN X_3.here hx rfl (hb hby d_jdk_68m22_24) rfl rfl ?_
    refine XS.aloadN X_3.here hx rfl (hb hby d_jdk_68m22_25) rfl rfl ?_
    show oS pP eE below T_3 (mkF mM 26 #[.val (.ref a), .val (.ref t), .val (.int (1 : Int32))] [(.ref a), (.ref a)]) _
    refine st_4 _ ?_
    show oS pP eE below T_4 (mkF mM 29 #[.val (.ref a), .val (.ref t), .val (.int (1 : Int32))] [(.int (41 : Int32)), (.ref a)]) _
    refine XS.aloadN X_4.here hx rfl (hb hby d_jdk_68m22_29) rfl rfl ?_
    show oS pP eE below T_4 (mkF mM 30 #[.val (.ref a), .val (.ref t), .val (.int (1 : Int32))] [(.ref t), (.int (41 : Int32)), (.ref a)]) _
    refine st_5.trans ?_
    show oS pP eE below T_5 (mkF mM 33 #[.val (.ref a), .val (.ref t), .val (.int (1 : Int32))] []) _
    refine XS.aloadN X_5.here hx rfl (hb hby d_jdk_68m22_33) rfl rfl ?_
    refine XS.dup X_5.here hx rfl (hb hby d_jdk_68m22_34) rfl rfl ?_
    show oS pP eE below T_5 (mkF mM 35 #[.val (.ref a), .val (.ref t), .val (.int (1 : Int32))] [(.ref a), (.ref a)]) _
    refine st_6 _ ?_
    show oS pP eE below T_6 (mkF mM 38 #[.val (.ref a), .val (.ref t), .val (.int (1 : Int32))] [(.int (41 : Int32)), (.ref a)]) _
    refine XS.iloadN X_6.here hx rfl (hb hby d_jdk_68m22_38) rfl ?_
    show oS pP eE below T_6 (mkF mM 39 #[.val (.ref a), .val (.ref t), .val (.int (1 : Int32))] [(.int (1 : Int32)), (.int (41 : Int32)), (.ref a)]) _
    refine XS.iadd X_6.here hx rfl (hb hby d_jdk_68m22_39) rfl ?_
    show oS pP eE below T_6 (mkF mM 40 #[.val (.ref a), .val (.ref t), .val (.int (1 : Int32))] [(.int ((41 : Int32) + (1 : Int32))), (.ref a)]) _
    rw [(by decide : ((41 : Int32) + (1 : Int32)) = (42 : Int32))]
    show oS pP eE below T_6 (mkF mM 40 #[.val (.ref a), .val (.ref t), .val (.int (1 : Int32))] [(.int (42 : Int32)), (.ref a)]) _
    refine st_7 _ ?_
    show oS pP eE below T_7 (mkF mM 43 #[.val (.ref a), .val (.ref t), .val (.int (1 : Int32))] []) _
    refine XS.aloadN X_7.here hx rfl (hb hby d_jdk_68m22_43) rfl rfl ?_
    show oS pP eE below T_7 (mkF mM 44 #[.val (.ref a), .val (.ref t), .val (.int (1 : Int32))] [(.ref a)]) _
    exact retOut X_7 hx Bd.returns rfl (Or.inr (Or.inr (Or.inr (Or.inr ⟨rfl, rfl, rfl⟩)))) (hb hby d_jdk_68m22_44) hr
  · show Q_aap42 Z a t tv kt d k cs x0 h0 n0 _ T_7.heap _
    rw [e_7]
    exact ⟨e__3, kk__3, rfl, N_7, K_7, sz_e__3, ((pfF_value_a_3.keep Kc_5 (ninS (Nat.ne_of_lt (Nat.lt_of_lt_of_le E_a.lt pfsz_e_3)) nin0)).other W_7 (Or.inr (slot_ne (Or.inl (ow hw 68 rfl)) (Or.inl (ow hw 92 rfl)) (by decide) (t := (.array .byte)) (t' := .int) (by decide) (by decide)))), ((pfF_coder_a_3.keep Kc_5 (ninS (Nat.ne_of_lt (Nat.lt_of_lt_of_le E_a.lt pfsz_e_3)) nin0)).other W_7 (Or.inr (slot_ne (Or.inl (ow hw 70 rfl)) (Or.inl (ow hw 92 rfl)) (by decide) (t := .byte) (t' := .int) (by decide) (by decide)))), Fw_7, ((pfE_a_3.keep Kc_5).wr W_7), (pfV_d_5.other W_7 (Ne.symm (Nat.ne_of_lt (Nat.lt_of_lt_of_le E_a.lt pfsz_e_3))))⟩
theorem ef_sap42 (mM : MethodId) (x0 : Addr) (x1 : Addr) : entryFrame mM #[(.ref x0), (.ref x1)] 2 = mkF mM 0 #[.val (.ref x0), .val (.ref x1)] [] := by first | (simp [entryFrame, mkF, argsToLocals, Value.category]; done) | rfl
def Q_sap42 (Z : State) (a : Addr) (t : Addr) (tv : Addr) (kt : ClassId) (d : Addr) (k : ClassId) (cs : Int32) (x0 : Int32) (h0 : Heap) (n0 : Nat) (v_ : Option Value) (h_ : Heap) (L_ : List Loc) : Prop := ∃ e : Addr, ∃ kk : ClassId, v_ = some (.ref a) ∧ Fr n0 L_ ∧ Keep h0 h_ [a] ∧ h0.size ≤ e ∧ Fld Z h_ a "java/lang/AbstractStringBuilder" "value" "[B" (.ref e) ∧ Fld Z h_ a "java/lang/AbstractStringBuilder" "coder" "B" (.int (0 : Int32)) ∧ Fld Z h_ a "java/lang/AbstractStringBuilder" "count" "I" (.int (42 : Int32)) ∧ Exa Z h_ a "java/lang/StringBuilder" ∧ Arv Z h_ e kk .byte (84 : Int32) [(.int (83 : Int32)), (.int (69 : Int32)), (.int (84 : Int32)), (.int (32 : Int32)), (.int (83 : Int32)), (.int (84 : Int32)), (.int (65 : Int32)), (.int (84 : Int32)), (.int (69 : Int32)), (.int (77 : Int32)), (.int (69 : Int32)), (.int (78 : Int32)), (.int (84 : Int32)), (.int (32 : Int32)), (.int (102 : Int32)), (.int (111 : Int32)), (.int (114 : Int32)), (.int (101 : Int32)), (.int (105 : Int32)), (.int (103 : Int32)), (.int (110 : Int32)), (.int (95 : Int32)), (.int (107 : Int32)), (.int (101 : Int32)), (.int (121 : Int32)), (.int (95 : Int32)), (.int (99 : Int32)), (.int (104 : Int32)), (.int (101 : Int32)), (.int (99 : Int32)), (.int (107 : Int32)), (.int (115 : Int32)), (.int (32 : Int32)), (.int (61 : Int32)), (.int (32 : Int32)), (.int (48 : Int32)), (.int (32 : Int32)), (.int (70 : Int32)), (.int (79 : Int32)), (.int (82 : Int32)), (.int (32 : Int32)), (.int x0), (.int (0 : Int32)), (.int (0 : Int32)), (.int (0 : Int32)), (.int (0 : Int32)), (.int (0 : Int32)), (.int (0 : Int32)), (.int (0 : Int32)), (.int (0 : Int32)), (.int (0 : Int32)), (.int (0 : Int32)), (.int (0 : Int32)), (.int (0 : Int32)), (.int (0 : Int32)), (.int (0 : Int32)), (.int (0 : Int32)), (.int (0 : Int32)), (.int (0 : Int32)), (.int (0 : Int32)), (.int (0 : Int32)), (.int (0 : Int32)), (.int (0 : Int32)), (.int (0 : Int32)), (.int (0 : Int32)), (.int (0 : Int32)), (.int (0 : Int32)), (.int (0 : Int32)), (.int (0 : Int32)), (.int (0 : Int32)), (.int (0 : Int32)), (.int (0 : Int32)), (.int (0 : Int32)), (.int (0 : Int32)), (.int (0 : Int32)), (.int (0 : Int32)), (.int (0 : Int32)), (.int (0 : Int32)), (.int (0 : Int32)), (.int (0 : Int32)), (.int (0 : Int32)), (.int (0 : Int32)), (.int (0 : Int32)), (.int (0 : Int32))] (.int (0 : Int32))
set_option maxRecDepth 65536 in
set_option maxHeartbeats 40000000 in
theorem rm_sap42 (l : Launch) (Z : State) (a0 : Array Value) (hw : ∀ d ∈ tables_1, d.before a0 Z = true) (ws : List Jvm.Cond) (a : Addr) (t : Addr) (tv : Addr) (kt : ClassId) (d : Addr) (k : ClassId) (cs : Int32) (x0 : Int32) (h0 : Heap) (n0 : Nat) (Z0 : n0 ≤ h0.size) (F_value_a : Fld Z h0 a "java/lang/AbstractStringBuilder" "value" "[B" (.ref d)) (F_coder_a : Fld Z h0 a "java/lang/AbstractStringBuilder" "coder" "B" (.int (0 : Int32))) (F_count_a : Fld Z h0 a "java/lang/AbstractStringBuilder" "count" "I" (.int (41 : Int32))) (E_a : Exa Z h0 a "java/lang/StringBuilder") (V_d : Arv Z h0 d k .byte (41 : Int32) [(.int (83 : Int32)), (.int (69 : Int32)), (.int (84 : Int32)), (.int (32 : Int32)), (.int (83 : Int32)), (.int (84 : Int32)), (.int (65 : Int32)), (.int (84 : Int32)), (.int (69 : Int32)), (.int (77 : Int32)), (.int (69 : Int32)), (.int (78 : Int32)), (.int (84 : Int32)), (.int (32 : Int32)), (.int (102 : Int32)), (.int (111 : Int32)), (.int (114 : Int32)), (.int (101 : Int32)), (.int (105 : Int32)), (.int (103 : Int32)), (.int (110 : Int32)), (.int (95 : Int32)), (.int (107 : Int32)), (.int (101 : Int32)), (.int (121 : Int32)), (.int (95 : Int32)), (.int (99 : Int32)), (.int (104 : Int32)), (.int (101 : Int32)), (.int (99 : Int32)), (.int (107 : Int32)), (.int (115 : Int32)), (.int (32 : Int32)), (.int (61 : Int32)), (.int (32 : Int32)), (.int (48 : Int32)), (.int (32 : Int32)), (.int (70 : Int32)), (.int (79 : Int32)), (.int (82 : Int32)), (.int (32 : Int32))] (.int (0 : Int32))) (g_a : n0 ≤ a) (F_value_t : Fld Z h0 t "java/lang/String" "value" "[B" (.ref tv)) (F_coder_t : Fld Z h0 t "java/lang/String" "coder" "B" (.int (0 : Int32))) (E_t : Exa Z h0 t "java/lang/String") (V_tv : Arv Z h0 tv kt .byte (1 : Int32) [(.int x0)] (.int (0 : Int32))) (S_String_COMPACT_STRINGS : Sta Z h0 "java/lang/String" "COMPACT_STRINGS" "Z" (.int cs)) (hcs : ¬ cs = 0) (nat : a ≠ t) (natv : a ≠ tv) :
    MetFree l (⟨"java/lang/StringBuilder", "append", "(Ljava/lang/String;)Ljava/lang/StringBuilder;"⟩ : MethodName) (head1 (Jvm.Cond.code (⟨"java/lang/StringBuilder", "append", "(Ljava/lang/String;)Ljava/lang/StringBuilder;"⟩ : MethodName) jdk_67_method_7_code 2 (some (.object "java/lang/StringBuilder")) :: ws) ({ frames := 5, cells := 1, slots := 84, locals := 76 } : Room)) (fun aa_ U_ => aa_ = #[(.ref a), (.ref t)] ∧ Z.Warmed39 U_.vm ∧ U_.heap = h0) (fun _ _ _ _ _ => True) (fun _ U_ o_ U'_ => ∃ v_ L_, o_ = .returned v_ ∧ Q_sap42 Z a t tv kt d k cs x0 h0 n0 v_ U'_.heap L_ ∧ FrameEnd U_ o_ U'_ L_ ({ frames := 5, cells := 1, slots := 84, locals := 76 } : Room).cells ({ frames := 5, cells := 1, slots := 84, locals := 76 } : Room).slots) := by
  refine MetFree.of_bodySF (plainFor_of_name pn_4) hisR ?_
  intro pP eE sS mM argsA below meth cC s₁ Bd hml0 hP hK
  obtain ⟨rfl, hZ, hh⟩ := hP
  have hx := Bd.exec
  have hby := Bd.bytes
  have hml : cC.maxLocals = 2 := hml0
  have hown : sS.vm.findClass "java/lang/StringBuilder" = some mM.cls := findClass_of_methodNamed Bd.named
  have hnm := (name_of_methodNamed Bd.named Bd.method).1
  have X0 : Stand pP l eE ({ frames := 5, cells := 1, slots := 84, locals := 76 } : Room) sS mM #[(.ref a), (.ref t)] below meth cC s₁ [] 0 0 := Stand.of_body Bd
  have e0 : s₁.heap = h0 := by rw [← hh, Bd.state]; rfl
  have N0 := Fr.nil n0
  have pre0 : ∀ t_, Steps pP.tables eE below (s₁.setTop (mkF mM 0 #[.val (.ref a), .val (.ref t)] [])) t_ → Steps pP.tables eE below (s₁.setTop (entryFrame mM #[(.ref a), (.ref t)] 2)) t_ := fun t_ k_ => castTop (ef_sap42 mM a t) k_
  obtain ⟨_, _, ⟨T_1, L_1, k_1, n_1⟩, -, X_1, ⟨Lc_1, hQ_1, l_1, y_1, z_1⟩, st_1⟩ := superBack X0 hx hZ (y := MN15) hown (ow hw 76 rfl) (own_same (y := MN15) (z := MN13) (ow hw 77 rfl) (ow hw 96 rfl) rfl (by decide)) (ow hw 77 rfl) (ow hw 78 rfl) (by decide) (backOf (W := 0) (rm_aap42 l Z a0 hw [] a t tv kt d k cs x0 h0 n0 Z0 F_value_a F_coder_a F_count_a E_a V_d g_a F_value_t F_coder_t E_t V_tv S_String_COMPACT_STRINGS hcs nat natv) hZ (ow hw 80 rfl) (ow hw 63 rfl) (by decide) (by decide)) e0 (Ins.self E_a) (g := (mkF mM 2 #[.val (.ref a), .val (.ref t)] [(.ref t), (.ref a)])) rfl (by rw [hml]; rfl) (ow hw 80 rfl) (argsL := [(.ref t)]) (rest := []) (lenOf pd_13 rfl) rfl (by show 2 * 0 + _ ≤ _; exact Nat.le_of_eq rfl) (hb hby d_jdk_67m7_2) (fun _ _ => ⟨rfl, e0, (by decide : 0 + 1 ≤ _), (by decide : 0 + 84 ≤ _)⟩)
  dsimp only [Pt.U, Pt.locs, Pt.cells, Pt.slots] at X_1 l_1 y_1 z_1 st_1 hQ_1
  subst l_1 y_1 z_1
  obtain ⟨e__1, ⟨kk__1, ⟨rfl, N_1q, Kc_1, pfsz_e_1, pfF_value_a_1, pfF_coder_a_1, pfF_count_a_1, pfE_a_1, pfV_e_1⟩⟩⟩ := hQ_1
  have Z_1 : n0 ≤ T_1.heap.size := (Nat.le_trans Z0 Kc_1.1)
  have K_1 : Keep h0 T_1.heap [a] := (Keep.refl h0 [a]).trans Kc_1 (allS (Or.inl (List.mem_of_getElem? (i := 0) rfl)) all0)
  have sz_e__1 : h0.size ≤ e__1 := Nat.le_trans (Keep.refl h0 [a]).1 pfsz_e_1
  have g_e__1 : n0 ≤ e__1 := Nat.le_trans Z0 pfsz_e_1
  have N_1 := Fr.app N0 N_1q
  obtain ⟨fs, hr, hrun, hended, hW, hsame⟩ := X_1.leave (v := some (.ref a)) (fun h => by rw [Bd.returns] at h; cases h)
  refine ⟨_, _, pre0 _ ?_, hrun, hended, _, _, rfl, ?_, ⟨_, rfl⟩, hW, hsame.mono (by decide) (by decide)⟩
  · show oS pP eE below s₁ (mkF mM 0 #[.val (.ref a), .val (.ref t)] []) _
    refine XS.aloadN X0.here hx rfl (hb hby d_jdk_67m7_0) rfl rfl ?_
    refine XS.aloadN X0.here hx rfl (hb hby d_jdk_67m7_1) rfl rfl ?_
    show oS pP eE below s₁ (mkF mM 2 #[.val (.ref a), .val (.ref t)] [(.ref t), (.ref a)]) _
    refine st_1.trans ?_
    show oS pP eE below T_1 (mkF mM 5 #[.val (.ref a), .val (.ref t)] [(.ref a)]) _
    refine XT.pop X_1.here hx rfl (hb hby d_jdk_67m7_5) rfl rfl ?_
    refine XS.aloadN X_1.here hx rfl (hb hby d_jdk_67m7_6) rfl rfl ?_
    show oS pP eE below T_1 (mkF mM 7 #[.val (.ref a), .val (.ref t)] [(.ref a)]) _
    exact retOut X_1 hx Bd.returns rfl (Or.inr (Or.inr (Or.inr (Or.inr ⟨rfl, rfl, rfl⟩)))) (hb hby d_jdk_67m7_7) hr
  · show Q_sap42 Z a t tv kt d k cs x0 h0 n0 _ T_1.heap _
    exact ⟨e__1, kk__1, rfl, N_1, K_1, sz_e__1, pfF_value_a_1, pfF_coder_a_1, pfF_count_a_1, pfE_a_1, pfV_e_1⟩
theorem d_jdk_68m64_0 : decode jdk_68_method_64_code 0 = .ok (.aload_n 0, 1) := by decide +kernel
theorem d_jdk_68m64_1 : decode jdk_68_method_64_code 1 = .ok (.getfield 15, 3) := by decide +kernel
theorem d_jdk_68m64_4 : decode jdk_68_method_64_code 4 = .ok (.areturn, 1) := by decide +kernel
theorem ef_gv (mM : MethodId) (x0 : Addr) : entryFrame mM #[(.ref x0)] 1 = mkF mM 0 #[.val (.ref x0)] [] := by first | (simp [entryFrame, mkF, argsToLocals, Value.category]; done) | rfl
def Q_gv (Z : State) (a : Addr) (d : Addr) (h0 : Heap) (n0 : Nat) (v_ : Option Value) (h_ : Heap) (L_ : List Loc) : Prop := v_ = some (.ref d) ∧ Fr n0 L_ ∧ h_ = h0
set_option maxRecDepth 65536 in
set_option maxHeartbeats 40000000 in
theorem rm_gv (l : Launch) (Z : State) (a0 : Array Value) (hw : ∀ d ∈ tables_1, d.before a0 Z = true) (ws : List Jvm.Cond) (a : Addr) (d : Addr) (h0 : Heap) (n0 : Nat) (Z0 : n0 ≤ h0.size) (F_value_a : Fld Z h0 a "java/lang/AbstractStringBuilder" "value" "[B" (.ref d)) :
    MetFree l (⟨"java/lang/AbstractStringBuilder", "getValue", "()[B"⟩ : MethodName) (head1 (Jvm.Cond.code (⟨"java/lang/AbstractStringBuilder", "getValue", "()[B"⟩ : MethodName) jdk_68_method_64_code 1 (some (.array .byte)) :: ws) ({ frames := 0, cells := 0, slots := 0, locals := 0 } : Room)) (fun aa_ U_ => aa_ = #[(.ref a)] ∧ Z.Warmed39 U_.vm ∧ U_.heap = h0) (fun _ _ _ _ _ => True) (fun _ U_ o_ U'_ => ∃ v_ L_, o_ = .returned v_ ∧ Q_gv Z a d h0 n0 v_ U'_.heap L_ ∧ FrameEnd U_ o_ U'_ L_ ({ frames := 0, cells := 0, slots := 0, locals := 0 } : Room).cells ({ frames := 0, cells := 0, slots := 0, locals := 0 } : Room).slots) := by
  refine MetFree.of_bodySF (plainFor_of_name pn_3) hisR ?_
  intro pP eE sS mM argsA below meth cC s₁ Bd hml0 hP hK
  obtain ⟨rfl, hZ, hh⟩ := hP
  have hx := Bd.exec
  have hby := Bd.bytes
  have hml : cC.maxLocals = 1 := hml0
  have hown : sS.vm.findClass "java/lang/AbstractStringBuilder" = some mM.cls := findClass_of_methodNamed Bd.named
  have hnm := (name_of_methodNamed Bd.named Bd.method).1
  have X0 : Stand pP l eE ({ frames := 0, cells := 0, slots := 0, locals := 0 } : Room) sS mM #[(.ref a)] below meth cC s₁ [] 0 0 := Stand.of_body Bd
  have e0 : s₁.heap = h0 := by rw [← hh, Bd.state]; rfl
  have N0 := Fr.nil n0
  have pre0 : ∀ t_, Steps pP.tables eE below (s₁.setTop (mkF mM 0 #[.val (.ref a)] [])) t_ → Steps pP.tables eE below (s₁.setTop (entryFrame mM #[(.ref a)] 1)) t_ := fun t_ k_ => castTop (ef_gv mM a) k_
  obtain ⟨T_1, X_1, e_1, st_1⟩ := getF X0 hx hZ hown (host := "") (Or.inl (ow hw 67 rfl)) Via.refl e0 F_value_a (g := (mkF mM 1 #[.val (.ref a)] [(.ref a)])) rfl rfl (hb hby d_jdk_68m64_1)
  obtain ⟨fs, hr, hrun, hended, hW, hsame⟩ := X_1.leave (v := some (.ref d)) (fun h => by rw [Bd.returns] at h; cases h)
  refine ⟨_, _, pre0 _ ?_, hrun, hended, _, _, rfl, ?_, ⟨_, rfl⟩, hW, hsame.mono (by decide) (by decide)⟩
  · show oS pP eE below s₁ (mkF mM 0 #[.val (.ref a)] []) _
    refine XS.aloadN X0.here hx rfl (hb hby d_jdk_68m64_0) rfl rfl ?_
    show oS pP eE below s₁ (mkF mM 1 #[.val (.ref a)] [(.ref a)]) _
    refine st_1 _ ?_
    show oS pP eE below T_1 (mkF mM 4 #[.val (.ref a)] [(.ref d)]) _
    exact retOut X_1 hx Bd.returns rfl (Or.inr (Or.inr (Or.inr (Or.inr ⟨rfl, rfl, rfl⟩)))) (hb hby d_jdk_68m64_4) hr
  · show Q_gv Z a d h0 n0 _ T_1.heap _
    rw [e_1]
    exact ⟨rfl, N0, rfl⟩
theorem d_jdk_68m6_0 : decode jdk_68_method_6_code 0 = .ok (.aload_n 0, 1) := by decide +kernel
theorem d_jdk_68m6_1 : decode jdk_68_method_6_code 1 = .ok (.getfield 79, 3) := by decide +kernel
theorem d_jdk_68m6_4 : decode jdk_68_method_6_code 4 = .ok (.ireturn, 1) := by decide +kernel
theorem ef_alen (mM : MethodId) (x0 : Addr) : entryFrame mM #[(.ref x0)] 1 = mkF mM 0 #[.val (.ref x0)] [] := by first | (simp [entryFrame, mkF, argsToLocals, Value.category]; done) | rfl
def Q_alen (Z : State) (a : Addr) (h0 : Heap) (n0 : Nat) (v_ : Option Value) (h_ : Heap) (L_ : List Loc) : Prop := v_ = some (.int (42 : Int32)) ∧ Fr n0 L_ ∧ h_ = h0
set_option maxRecDepth 65536 in
set_option maxHeartbeats 40000000 in
theorem rm_alen (l : Launch) (Z : State) (a0 : Array Value) (hw : ∀ d ∈ tables_1, d.before a0 Z = true) (ws : List Jvm.Cond) (a : Addr) (h0 : Heap) (n0 : Nat) (Z0 : n0 ≤ h0.size) (F_count_a : Fld Z h0 a "java/lang/AbstractStringBuilder" "count" "I" (.int (42 : Int32))) :
    MetFree l (⟨"java/lang/AbstractStringBuilder", "length", "()I"⟩ : MethodName) (head1 (Jvm.Cond.code (⟨"java/lang/AbstractStringBuilder", "length", "()I"⟩ : MethodName) jdk_68_method_6_code 1 (some .int) :: ws) ({ frames := 0, cells := 0, slots := 0, locals := 0 } : Room)) (fun aa_ U_ => aa_ = #[(.ref a)] ∧ Z.Warmed39 U_.vm ∧ U_.heap = h0) (fun _ _ _ _ _ => True) (fun _ U_ o_ U'_ => ∃ v_ L_, o_ = .returned v_ ∧ Q_alen Z a h0 n0 v_ U'_.heap L_ ∧ FrameEnd U_ o_ U'_ L_ ({ frames := 0, cells := 0, slots := 0, locals := 0 } : Room).cells ({ frames := 0, cells := 0, slots := 0, locals := 0 } : Room).slots) := by
  refine MetFree.of_bodySF (plainFor_of_name pn_3) hisR ?_
  intro pP eE sS mM argsA below meth cC s₁ Bd hml0 hP hK
  obtain ⟨rfl, hZ, hh⟩ := hP
  have hx := Bd.exec
  have hby := Bd.bytes
  have hml : cC.maxLocals = 1 := hml0
  have hown : sS.vm.findClass "java/lang/AbstractStringBuilder" = some mM.cls := findClass_of_methodNamed Bd.named
  have hnm := (name_of_methodNamed Bd.named Bd.method).1
  have X0 : Stand pP l eE ({ frames := 0, cells := 0, slots := 0, locals := 0 } : Room) sS mM #[(.ref a)] below meth cC s₁ [] 0 0 := Stand.of_body Bd
  have e0 : s₁.heap = h0 := by rw [← hh, Bd.state]; rfl
  have N0 := Fr.nil n0
  have pre0 : ∀ t_, Steps pP.tables eE below (s₁.setTop (mkF mM 0 #[.val (.ref a)] [])) t_ → Steps pP.tables eE below (s₁.setTop (entryFrame mM #[(.ref a)] 1)) t_ := fun t_ k_ => castTop (ef_alen mM a) k_
  obtain ⟨T_1, X_1, e_1, st_1⟩ := getF X0 hx hZ hown (host := "") (Or.inl (ow hw 91 rfl)) Via.refl e0 F_count_a (g := (mkF mM 1 #[.val (.ref a)] [(.ref a)])) rfl rfl (hb hby d_jdk_68m6_1)
  obtain ⟨fs, hr, hrun, hended, hW, hsame⟩ := X_1.leave (v := some (.int (42 : Int32))) (fun h => by rw [Bd.returns] at h; cases h)
  refine ⟨_, _, pre0 _ ?_, hrun, hended, _, _, rfl, ?_, ⟨_, rfl⟩, hW, hsame.mono (by decide) (by decide)⟩
  · show oS pP eE below s₁ (mkF mM 0 #[.val (.ref a)] []) _
    refine XS.aloadN X0.here hx rfl (hb hby d_jdk_68m6_0) rfl rfl ?_
    show oS pP eE below s₁ (mkF mM 1 #[.val (.ref a)] [(.ref a)]) _
    refine st_1 _ ?_
    show oS pP eE below T_1 (mkF mM 4 #[.val (.ref a)] [(.int (42 : Int32))]) _
    exact retI X_1 hx Bd.returns (hb hby d_jdk_68m6_4) hr
  · show Q_alen Z a h0 n0 _ T_1.heap _
    rw [e_1]
    exact ⟨rfl, N0, rfl⟩
theorem d_jdk_67m93_0 : decode jdk_67_method_93_code 0 = .ok (.aload_n 0, 1) := by decide +kernel
theorem d_jdk_67m93_1 : decode jdk_67_method_93_code 1 = .ok (.invokespecial 343, 3) := by decide +kernel
abbrev MN16 : MethodName := ⟨"java/lang/AbstractStringBuilder", "length", "()I"⟩
theorem d_jdk_67m93_4 : decode jdk_67_method_93_code 4 = .ok (.ireturn, 1) := by decide +kernel
theorem ef_slen (mM : MethodId) (x0 : Addr) : entryFrame mM #[(.ref x0)] 1 = mkF mM 0 #[.val (.ref x0)] [] := by first | (simp [entryFrame, mkF, argsToLocals, Value.category]; done) | rfl
def Q_slen (Z : State) (a : Addr) (h0 : Heap) (n0 : Nat) (v_ : Option Value) (h_ : Heap) (L_ : List Loc) : Prop := v_ = some (.int (42 : Int32)) ∧ Fr n0 L_ ∧ h_ = h0
set_option maxRecDepth 65536 in
set_option maxHeartbeats 40000000 in
theorem rm_slen (l : Launch) (Z : State) (a0 : Array Value) (hw : ∀ d ∈ tables_1, d.before a0 Z = true) (ws : List Jvm.Cond) (a : Addr) (h0 : Heap) (n0 : Nat) (Z0 : n0 ≤ h0.size) (F_count_a : Fld Z h0 a "java/lang/AbstractStringBuilder" "count" "I" (.int (42 : Int32))) (E_a : Exa Z h0 a "java/lang/StringBuilder") :
    MetFree l (⟨"java/lang/StringBuilder", "length", "()I"⟩ : MethodName) (head1 (Jvm.Cond.code (⟨"java/lang/StringBuilder", "length", "()I"⟩ : MethodName) jdk_67_method_93_code 1 (some .int) :: ws) ({ frames := 1, cells := 0, slots := 0, locals := 12 } : Room)) (fun aa_ U_ => aa_ = #[(.ref a)] ∧ Z.Warmed39 U_.vm ∧ U_.heap = h0) (fun _ _ _ _ _ => True) (fun _ U_ o_ U'_ => ∃ v_ L_, o_ = .returned v_ ∧ Q_slen Z a h0 n0 v_ U'_.heap L_ ∧ FrameEnd U_ o_ U'_ L_ ({ frames := 1, cells := 0, slots := 0, locals := 12 } : Room).cells ({ frames := 1, cells := 0, slots := 0, locals := 12 } : Room).slots) := by
  refine MetFree.of_bodySF (plainFor_of_name pn_4) hisR ?_
  intro pP eE sS mM argsA below meth cC s₁ Bd hml0 hP hK
  obtain ⟨rfl, hZ, hh⟩ := hP
  have hx := Bd.exec
  have hby := Bd.bytes
  have hml : cC.maxLocals = 1 := hml0
  have hown : sS.vm.findClass "java/lang/StringBuilder" = some mM.cls := findClass_of_methodNamed Bd.named
  have hnm := (name_of_methodNamed Bd.named Bd.method).1
  have X0 : Stand pP l eE ({ frames := 1, cells := 0, slots := 0, locals := 12 } : Room) sS mM #[(.ref a)] below meth cC s₁ [] 0 0 := Stand.of_body Bd
  have e0 : s₁.heap = h0 := by rw [← hh, Bd.state]; rfl
  have N0 := Fr.nil n0
  have pre0 : ∀ t_, Steps pP.tables eE below (s₁.setTop (mkF mM 0 #[.val (.ref a)] [])) t_ → Steps pP.tables eE below (s₁.setTop (entryFrame mM #[(.ref a)] 1)) t_ := fun t_ k_ => castTop (ef_slen mM a) k_
  obtain ⟨_, _, ⟨T_1, L_1, k_1, n_1⟩, -, X_1, ⟨Lc_1, hQ_1, l_1, y_1, z_1⟩, st_1⟩ := superBack X0 hx hZ (y := MN16) hown (ow hw 164 rfl) (own_same (y := MN16) (z := MN13) (ow hw 160 rfl) (ow hw 96 rfl) rfl (by decide)) (ow hw 160 rfl) (ow hw 78 rfl) (by decide) (backOf (W := 0) (rm_alen l Z a0 hw [] a h0 n0 Z0 F_count_a) hZ (ow hw 165 rfl) (ow hw 63 rfl) (by decide) (by decide)) e0 (Ins.self E_a) (g := (mkF mM 1 #[.val (.ref a)] [(.ref a)])) rfl (by rw [hml]; rfl) (ow hw 165 rfl) (argsL := []) (rest := []) (lenOf pd_11 rfl) rfl (by show 2 * 0 + _ ≤ _; exact Nat.le_of_eq rfl) (hb hby d_jdk_67m93_1) (fun _ _ => ⟨rfl, e0, (by decide : 0 + 0 ≤ _), (by decide : 0 + 0 ≤ _)⟩)
  dsimp only [Pt.U, Pt.locs, Pt.cells, Pt.slots] at X_1 l_1 y_1 z_1 st_1 hQ_1
  subst l_1 y_1 z_1
  obtain ⟨rfl, N_1q, eh_1⟩ := hQ_1
  have N_1 := Fr.app N0 N_1q
  obtain ⟨fs, hr, hrun, hended, hW, hsame⟩ := X_1.leave (v := some (.int (42 : Int32))) (fun h => by rw [Bd.returns] at h; cases h)
  refine ⟨_, _, pre0 _ ?_, hrun, hended, _, _, rfl, ?_, ⟨_, rfl⟩, hW, hsame.mono (by decide) (by decide)⟩
  · show oS pP eE below s₁ (mkF mM 0 #[.val (.ref a)] []) _
    refine XS.aloadN X0.here hx rfl (hb hby d_jdk_67m93_0) rfl rfl ?_
    show oS pP eE below s₁ (mkF mM 1 #[.val (.ref a)] [(.ref a)]) _
    refine st_1.trans ?_
    show oS pP eE below T_1 (mkF mM 4 #[.val (.ref a)] [(.int (42 : Int32))]) _
    exact retI X_1 hx Bd.returns (hb hby d_jdk_67m93_4) hr
  · show Q_slen Z a h0 n0 _ T_1.heap _
    rw [eh_1]
    exact ⟨rfl, N_1, rfl⟩
theorem d_jdk_68m68_0 : decode jdk_68_method_68_code 0 = .ok (.getstatic 18, 3) := by decide +kernel
theorem d_jdk_68m68_3 : decode jdk_68_method_68_code 3 = .ok (.ifCond .eq 14, 3) := by decide +kernel
theorem d_jdk_68m68_6 : decode jdk_68_method_68_code 6 = .ok (.aload_n 0, 1) := by decide +kernel
theorem d_jdk_68m68_7 : decode jdk_68_method_68_code 7 = .ok (.getfield 22, 3) := by decide +kernel
theorem d_jdk_68m68_10 : decode jdk_68_method_68_code 10 = .ok (.ifCond .ne 7, 3) := by decide +kernel
theorem d_jdk_68m68_13 : decode jdk_68_method_68_code 13 = .ok (.iconst 1, 1) := by decide +kernel
theorem d_jdk_68m68_14 : decode jdk_68_method_68_code 14 = .ok (.goto 4, 3) := by decide +kernel
theorem d_jdk_68m68_18 : decode jdk_68_method_68_code 18 = .ok (.ireturn, 1) := by decide +kernel
theorem ef_ail (mM : MethodId) (x0 : Addr) : entryFrame mM #[(.ref x0)] 1 = mkF mM 0 #[.val (.ref x0)] [] := by first | (simp [entryFrame, mkF, argsToLocals, Value.category]; done) | rfl
def Q_ail (Z : State) (a : Addr) (cs : Int32) (h0 : Heap) (n0 : Nat) (v_ : Option Value) (h_ : Heap) (L_ : List Loc) : Prop := v_ = some (.int (1 : Int32)) ∧ Fr n0 L_ ∧ h_ = h0
set_option maxRecDepth 65536 in
set_option maxHeartbeats 40000000 in
theorem rm_ail (l : Launch) (Z : State) (a0 : Array Value) (hw : ∀ d ∈ tables_1, d.before a0 Z = true) (ws : List Jvm.Cond) (a : Addr) (cs : Int32) (h0 : Heap) (n0 : Nat) (Z0 : n0 ≤ h0.size) (F_coder_a : Fld Z h0 a "java/lang/AbstractStringBuilder" "coder" "B" (.int (0 : Int32))) (S_String_COMPACT_STRINGS : Sta Z h0 "java/lang/String" "COMPACT_STRINGS" "Z" (.int cs)) (hcs : ¬ cs = 0) :
    MetFree l (⟨"java/lang/AbstractStringBuilder", "isLatin1", "()Z"⟩ : MethodName) (head1 (Jvm.Cond.code (⟨"java/lang/AbstractStringBuilder", "isLatin1", "()Z"⟩ : MethodName) jdk_68_method_68_code 1 (some .boolean) :: ws) ({ frames := 0, cells := 0, slots := 0, locals := 0 } : Room)) (fun aa_ U_ => aa_ = #[(.ref a)] ∧ Z.Warmed39 U_.vm ∧ U_.heap = h0) (fun _ _ _ _ _ => True) (fun _ U_ o_ U'_ => ∃ v_ L_, o_ = .returned v_ ∧ Q_ail Z a cs h0 n0 v_ U'_.heap L_ ∧ FrameEnd U_ o_ U'_ L_ ({ frames := 0, cells := 0, slots := 0, locals := 0 } : Room).cells ({ frames := 0, cells := 0, slots := 0, locals := 0 } : Room).slots) := by
  refine MetFree.of_bodySF (plainFor_of_name pn_3) hisR ?_
  intro pP eE sS mM argsA below meth cC s₁ Bd hml0 hP hK
  obtain ⟨rfl, hZ, hh⟩ := hP
  have hx := Bd.exec
  have hby := Bd.bytes
  have hml : cC.maxLocals = 1 := hml0
  have hown : sS.vm.findClass "java/lang/AbstractStringBuilder" = some mM.cls := findClass_of_methodNamed Bd.named
  have hnm := (name_of_methodNamed Bd.named Bd.method).1
  have X0 : Stand pP l eE ({ frames := 0, cells := 0, slots := 0, locals := 0 } : Room) sS mM #[(.ref a)] below meth cC s₁ [] 0 0 := Stand.of_body Bd
  have e0 : s₁.heap = h0 := by rw [← hh, Bd.state]; rfl
  have N0 := Fr.nil n0
  have pre0 : ∀ t_, Steps pP.tables eE below (s₁.setTop (mkF mM 0 #[.val (.ref a)] [])) t_ → Steps pP.tables eE below (s₁.setTop (entryFrame mM #[(.ref a)] 1)) t_ := fun t_ k_ => castTop (ef_ail mM a) k_
  obtain ⟨T_1, X_1, e_1, st_1⟩ := getS2 X0 hx hZ hown (host := "") (Or.inl (ow hw 66 rfl)) Via.refl e0 S_String_COMPACT_STRINGS (g := (mkF mM 0 #[.val (.ref a)] [])) rfl (hb hby d_jdk_68m68_0)
  obtain ⟨T_2, X_2, e_2, st_2⟩ := getF X_1 hx hZ hown (host := "") (Or.inl (ow hw 69 rfl)) Via.refl e_1 F_coder_a (g := (mkF mM 7 #[.val (.ref a)] [(.ref a)])) rfl rfl (hb hby d_jdk_68m68_7)
  obtain ⟨fs, hr, hrun, hended, hW, hsame⟩ := X_2.leave (v := some (.int (1 : Int32))) (fun h => by rw [Bd.returns] at h; cases h)
  refine ⟨_, _, pre0 _ ?_, hrun, hended, _, _, rfl, ?_, ⟨_, rfl⟩, hW, hsame.mono (by decide) (by decide)⟩
  · show oS pP eE below s₁ (mkF mM 0 #[.val (.ref a)] []) _
    refine st_1 _ ?_
    show oS pP eE below T_1 (mkF mM 3 #[.val (.ref a)] [(.int cs)]) _
    refine XS.ifNo X_1.here hx rfl (hb hby d_jdk_68m68_3) rfl (XT.i0_eq_f hcs) ?_
    refine XS.aloadN X_1.here hx rfl (hb hby d_jdk_68m68_6) rfl rfl ?_
    show oS pP eE below T_1 (mkF mM 7 #[.val (.ref a)] [(.ref a)]) _
    refine st_2 _ ?_
    show oS pP eE below T_2 (mkF mM 10 #[.val (.ref a)] [(.int (0 : Int32))]) _
    refine XS.ifNo X_2.here hx rfl (hb hby d_jdk_68m68_10) rfl (by decide) ?_
    refine XS.iconst X_2.here hx rfl (hb hby d_jdk_68m68_13) ?_
    refine XS.goto X_2.here hx rfl (pc0 := 14) (pc' := 18) rfl (hb hby d_jdk_68m68_14) (by decide) (by decide) ?_
    show oS pP eE below T_2 (mkF mM 18 #[.val (.ref a)] [(.int (1 : Int32))]) _
    exact retN X_2 hx (t := .boolean) Bd.returns (by simp) (hb hby d_jdk_68m68_18) hr
  · show Q_ail Z a cs h0 n0 _ T_2.heap _
    rw [e_2]
    exact ⟨rfl, N0, rfl⟩
theorem d_jdk_65m131_0 : decode jdk_65_method_131_code 0 = .ok (.iload_n 1, 1) := by decide +kernel
theorem d_jdk_65m131_1 : decode jdk_65_method_131_code 1 = .ok (.iload_n 0, 1) := by decide +kernel
theorem d_jdk_65m131_2 : decode jdk_65_method_131_code 2 = .ok (.if_icmp .ge 35, 3) := by decide +kernel
theorem d_jdk_65m131_37 : decode jdk_65_method_131_code 37 = .ok (.return_, 1) := by decide +kernel
theorem ef_ckl (mM : MethodId) (x0 : Int32) (x1 : Int32) : entryFrame mM #[(.int x0), (.int x1)] 2 = mkF mM 0 #[.val (.int x0), .val (.int x1)] [] := by first | (simp [entryFrame, mkF, argsToLocals, Value.category]; done) | rfl
def Q_ckl (Z : State)  (h0 : Heap) (n0 : Nat) (v_ : Option Value) (h_ : Heap) (L_ : List Loc) : Prop := v_ = none ∧ Fr n0 L_ ∧ h_ = h0
set_option maxRecDepth 65536 in
set_option maxHeartbeats 40000000 in
theorem rm_ckl (l : Launch) (Z : State) (a0 : Array Value) (hw : ∀ d ∈ tables_1, d.before a0 Z = true) (ws : List Jvm.Cond)  (h0 : Heap) (n0 : Nat) (Z0 : n0 ≤ h0.size) :
    MetFree l (⟨"java/util/Arrays", "checkLength", "(II)V"⟩ : MethodName) (head1 (Jvm.Cond.code (⟨"java/util/Arrays", "checkLength", "(II)V"⟩ : MethodName) jdk_65_method_131_code 2 none :: ws) ({ frames := 0, cells := 0, slots := 0, locals := 0 } : Room)) (fun aa_ U_ => aa_ = #[(.int (0 : Int32)), (.int (42 : Int32))] ∧ Z.Warmed39 U_.vm ∧ U_.heap = h0) (fun _ _ _ _ _ => True) (fun _ U_ o_ U'_ => ∃ v_ L_, o_ = .returned v_ ∧ Q_ckl Z  h0 n0 v_ U'_.heap L_ ∧ FrameEnd U_ o_ U'_ L_ ({ frames := 0, cells := 0, slots := 0, locals := 0 } : Room).cells ({ frames := 0, cells := 0, slots := 0, locals := 0 } : Room).slots) := by
  refine MetFree.of_bodySF (plainFor_of_name pn_6) hisR ?_
  intro pP eE sS mM argsA below meth cC s₁ Bd hml0 hP hK
  obtain ⟨rfl, hZ, hh⟩ := hP
  have hx := Bd.exec
  have hby := Bd.bytes
  have hml : cC.maxLocals = 2 := hml0
  have hown : sS.vm.findClass "java/util/Arrays" = some mM.cls := findClass_of_methodNamed Bd.named
  have hnm := (name_of_methodNamed Bd.named Bd.method).1
  have X0 : Stand pP l eE ({ frames := 0, cells := 0, slots := 0, locals := 0 } : Room) sS mM #[(.int (0 : Int32)), (.int (42 : Int32))] below meth cC s₁ [] 0 0 := Stand.of_body Bd
  have e0 : s₁.heap = h0 := by rw [← hh, Bd.state]; rfl
  have N0 := Fr.nil n0
  have pre0 : ∀ t_, Steps pP.tables eE below (s₁.setTop (mkF mM 0 #[.val (.int (0 : Int32)), .val (.int (42 : Int32))] [])) t_ → Steps pP.tables eE below (s₁.setTop (entryFrame mM #[(.int (0 : Int32)), (.int (42 : Int32))] 2)) t_ := fun t_ k_ => castTop (ef_ckl mM (0 : Int32) (42 : Int32)) k_
  obtain ⟨fs, hr, hrun, hended, hW, hsame⟩ := X0.leave (v := none) (fun _ => rfl)
  refine ⟨_, _, pre0 _ ?_, hrun, hended, _, _, rfl, ?_, ⟨_, rfl⟩, hW, hsame.mono (by decide) (by decide)⟩
  · show oS pP eE below s₁ (mkF mM 0 #[.val (.int (0 : Int32)), .val (.int (42 : Int32))] []) _
    refine XS.iloadN X0.here hx rfl (hb hby d_jdk_65m131_0) rfl ?_
    refine XS.iloadN X0.here hx rfl (hb hby d_jdk_65m131_1) rfl ?_
    refine XS.icmpYes X0.here hx rfl (pc0 := 2) (pc' := 37) rfl (hb hby d_jdk_65m131_2) rfl (by decide) (by decide) (by decide) ?_
    show oS pP eE below s₁ (mkF mM 37 #[.val (.int (0 : Int32)), .val (.int (42 : Int32))] []) _
    exact X0.returnOut hx Bd.returns (hb hby d_jdk_65m131_37) hr
  · show Q_ckl Z  h0 n0 _ s₁.heap _
    rw [e0]
    exact ⟨rfl, N0, rfl⟩
theorem d_jdk_65m133_0 : decode jdk_65_method_133_code 0 = .ok (.iload_n 1, 1) := by decide +kernel
theorem d_jdk_65m133_1 : decode jdk_65_method_133_code 1 = .ok (.iload_n 2, 1) := by decide +kernel
theorem d_jdk_65m133_2 : decode jdk_65_method_133_code 2 = .ok (.invokestatic 343, 3) := by decide +kernel
theorem pd_14 : parseMethodDescriptor "(II)V" = some ⟨[.int, .int], none⟩ := by decide +kernel
abbrev MN17 : MethodName := ⟨"java/util/Arrays", "checkLength", "(II)V"⟩
theorem d_jdk_65m133_5 : decode jdk_65_method_133_code 5 = .ok (.iload_n 2, 1) := by decide +kernel
theorem d_jdk_65m133_6 : decode jdk_65_method_133_code 6 = .ok (.iload_n 1, 1) := by decide +kernel
theorem d_jdk_65m133_7 : decode jdk_65_method_133_code 7 = .ok (.isub, 1) := by decide +kernel
theorem d_jdk_65m133_8 : decode jdk_65_method_133_code 8 = .ok (.istore_n 3, 1) := by decide +kernel
theorem d_jdk_65m133_9 : decode jdk_65_method_133_code 9 = .ok (.iload_n 3, 1) := by decide +kernel
theorem d_jdk_65m133_10 : decode jdk_65_method_133_code 10 = .ok (.newarray .byte, 2) := by decide +kernel
theorem d_jdk_65m133_12 : decode jdk_65_method_133_code 12 = .ok (.astore 4, 2) := by decide +kernel
theorem d_jdk_65m133_14 : decode jdk_65_method_133_code 14 = .ok (.aload_n 0, 1) := by decide +kernel
theorem d_jdk_65m133_15 : decode jdk_65_method_133_code 15 = .ok (.iload_n 1, 1) := by decide +kernel
theorem d_jdk_65m133_16 : decode jdk_65_method_133_code 16 = .ok (.aload 4, 2) := by decide +kernel
theorem d_jdk_65m133_18 : decode jdk_65_method_133_code 18 = .ok (.iconst 0, 1) := by decide +kernel
theorem d_jdk_65m133_19 : decode jdk_65_method_133_code 19 = .ok (.aload_n 0, 1) := by decide +kernel
theorem d_jdk_65m133_20 : decode jdk_65_method_133_code 20 = .ok (.arraylength, 1) := by decide +kernel
theorem d_jdk_65m133_21 : decode jdk_65_method_133_code 21 = .ok (.iload_n 1, 1) := by decide +kernel
theorem d_jdk_65m133_22 : decode jdk_65_method_133_code 22 = .ok (.isub, 1) := by decide +kernel
theorem d_jdk_65m133_23 : decode jdk_65_method_133_code 23 = .ok (.iload_n 3, 1) := by decide +kernel
theorem d_jdk_65m133_24 : decode jdk_65_method_133_code 24 = .ok (.invokestatic 304, 3) := by decide +kernel
theorem d_jdk_65m133_27 : decode jdk_65_method_133_code 27 = .ok (.invokestatic 150, 3) := by decide +kernel
theorem d_jdk_65m133_30 : decode jdk_65_method_133_code 30 = .ok (.aload 4, 2) := by decide +kernel
theorem d_jdk_65m133_32 : decode jdk_65_method_133_code 32 = .ok (.areturn, 1) := by decide +kernel
theorem ef_crb (mM : MethodId) (x0 : Addr) (x1 : Int32) (x2 : Int32) : entryFrame mM #[(.ref x0), (.int x1), (.int x2)] 5 = mkF mM 0 #[.val (.ref x0), .val (.int x1), .val (.int x2), .unset, .unset] [] := by first | (simp [entryFrame, mkF, argsToLocals, Value.category]; done) | rfl
def Q_crb (Z : State) (d : Addr) (k : ClassId) (x0 : Int32) (h0 : Heap) (n0 : Nat) (v_ : Option Value) (h_ : Heap) (L_ : List Loc) : Prop := ∃ e : Addr, ∃ kk : ClassId, v_ = some (.ref e) ∧ Fr n0 L_ ∧ Keep h0 h_ [] ∧ h0.size ≤ e ∧ Arv Z h_ e kk .byte (42 : Int32) [(.int (83 : Int32)), (.int (69 : Int32)), (.int (84 : Int32)), (.int (32 : Int32)), (.int (83 : Int32)), (.int (84 : Int32)), (.int (65 : Int32)), (.int (84 : Int32)), (.int (69 : Int32)), (.int (77 : Int32)), (.int (69 : Int32)), (.int (78 : Int32)), (.int (84 : Int32)), (.int (32 : Int32)), (.int (102 : Int32)), (.int (111 : Int32)), (.int (114 : Int32)), (.int (101 : Int32)), (.int (105 : Int32)), (.int (103 : Int32)), (.int (110 : Int32)), (.int (95 : Int32)), (.int (107 : Int32)), (.int (101 : Int32)), (.int (121 : Int32)), (.int (95 : Int32)), (.int (99 : Int32)), (.int (104 : Int32)), (.int (101 : Int32)), (.int (99 : Int32)), (.int (107 : Int32)), (.int (115 : Int32)), (.int (32 : Int32)), (.int (61 : Int32)), (.int (32 : Int32)), (.int (48 : Int32)), (.int (32 : Int32)), (.int (70 : Int32)), (.int (79 : Int32)), (.int (82 : Int32)), (.int (32 : Int32)), (.int x0)] (.int (0 : Int32))
set_option maxRecDepth 65536 in
set_option maxHeartbeats 40000000 in
theorem rm_crb (l : Launch) (Z : State) (a0 : Array Value) (hw : ∀ d ∈ tables_1, d.before a0 Z = true) (ws : List Jvm.Cond) (d : Addr) (k : ClassId) (x0 : Int32) (h0 : Heap) (n0 : Nat) (Z0 : n0 ≤ h0.size) (V_d : Arv Z h0 d k .byte (84 : Int32) [(.int (83 : Int32)), (.int (69 : Int32)), (.int (84 : Int32)), (.int (32 : Int32)), (.int (83 : Int32)), (.int (84 : Int32)), (.int (65 : Int32)), (.int (84 : Int32)), (.int (69 : Int32)), (.int (77 : Int32)), (.int (69 : Int32)), (.int (78 : Int32)), (.int (84 : Int32)), (.int (32 : Int32)), (.int (102 : Int32)), (.int (111 : Int32)), (.int (114 : Int32)), (.int (101 : Int32)), (.int (105 : Int32)), (.int (103 : Int32)), (.int (110 : Int32)), (.int (95 : Int32)), (.int (107 : Int32)), (.int (101 : Int32)), (.int (121 : Int32)), (.int (95 : Int32)), (.int (99 : Int32)), (.int (104 : Int32)), (.int (101 : Int32)), (.int (99 : Int32)), (.int (107 : Int32)), (.int (115 : Int32)), (.int (32 : Int32)), (.int (61 : Int32)), (.int (32 : Int32)), (.int (48 : Int32)), (.int (32 : Int32)), (.int (70 : Int32)), (.int (79 : Int32)), (.int (82 : Int32)), (.int (32 : Int32)), (.int x0), (.int (0 : Int32)), (.int (0 : Int32)), (.int (0 : Int32)), (.int (0 : Int32)), (.int (0 : Int32)), (.int (0 : Int32)), (.int (0 : Int32)), (.int (0 : Int32)), (.int (0 : Int32)), (.int (0 : Int32)), (.int (0 : Int32)), (.int (0 : Int32)), (.int (0 : Int32)), (.int (0 : Int32)), (.int (0 : Int32)), (.int (0 : Int32)), (.int (0 : Int32)), (.int (0 : Int32)), (.int (0 : Int32)), (.int (0 : Int32)), (.int (0 : Int32)), (.int (0 : Int32)), (.int (0 : Int32)), (.int (0 : Int32)), (.int (0 : Int32)), (.int (0 : Int32)), (.int (0 : Int32)), (.int (0 : Int32)), (.int (0 : Int32)), (.int (0 : Int32)), (.int (0 : Int32)), (.int (0 : Int32)), (.int (0 : Int32)), (.int (0 : Int32)), (.int (0 : Int32)), (.int (0 : Int32)), (.int (0 : Int32)), (.int (0 : Int32)), (.int (0 : Int32)), (.int (0 : Int32)), (.int (0 : Int32)), (.int (0 : Int32))] (.int (0 : Int32))) :
    MetFree l (⟨"java/util/Arrays", "copyOfRangeByte", "([BII)[B"⟩ : MethodName) (head1 (Jvm.Cond.code (⟨"java/util/Arrays", "copyOfRangeByte", "([BII)[B"⟩ : MethodName) jdk_65_method_133_code 5 (some (.array .byte)) :: ws) ({ frames := 1, cells := 1, slots := 42, locals := 18 } : Room)) (fun aa_ U_ => aa_ = #[(.ref d), (.int (0 : Int32)), (.int (42 : Int32))] ∧ Z.Warmed39 U_.vm ∧ U_.heap = h0) (fun _ _ _ _ _ => True) (fun _ U_ o_ U'_ => ∃ v_ L_, o_ = .returned v_ ∧ Q_crb Z d k x0 h0 n0 v_ U'_.heap L_ ∧ FrameEnd U_ o_ U'_ L_ ({ frames := 1, cells := 1, slots := 42, locals := 18 } : Room).cells ({ frames := 1, cells := 1, slots := 42, locals := 18 } : Room).slots) := by
  refine MetFree.of_bodySF (plainFor_of_name pn_6) hisR ?_
  intro pP eE sS mM argsA below meth cC s₁ Bd hml0 hP hK
  obtain ⟨rfl, hZ, hh⟩ := hP
  have hx := Bd.exec
  have hby := Bd.bytes
  have hml : cC.maxLocals = 5 := hml0
  have hown : sS.vm.findClass "java/util/Arrays" = some mM.cls := findClass_of_methodNamed Bd.named
  have hnm := (name_of_methodNamed Bd.named Bd.method).1
  have X0 : Stand pP l eE ({ frames := 1, cells := 1, slots := 42, locals := 18 } : Room) sS mM #[(.ref d), (.int (0 : Int32)), (.int (42 : Int32))] below meth cC s₁ [] 0 0 := Stand.of_body Bd
  have e0 : s₁.heap = h0 := by rw [← hh, Bd.state]; rfl
  have N0 := Fr.nil n0
  have pre0 : ∀ t_, Steps pP.tables eE below (s₁.setTop (mkF mM 0 #[.val (.ref d), .val (.int (0 : Int32)), .val (.int (42 : Int32)), .unset, .unset] [])) t_ → Steps pP.tables eE below (s₁.setTop (entryFrame mM #[(.ref d), (.int (0 : Int32)), (.int (42 : Int32))] 5)) t_ := fun t_ k_ => castTop (ef_crb mM d (0 : Int32) (42 : Int32)) k_
  obtain ⟨_, _, ⟨T_1, L_1, k_1, n_1⟩, -, X_1, ⟨Lc_1, hQ_1, l_1, y_1, z_1⟩, st_1⟩ := Jvm.LawKit.callS X0 hx (y := MN17) hown (mvT hZ (ow hw 177 rfl)) (mvT hZ (ow hw 178 rfl)) (mvT hZ (ow hw 115 rfl)) (mvT hZ (ow hw 179 rfl)) (by decide) (backOf (W := 0) (rm_ckl l Z a0 hw []  h0 n0 Z0 ) hZ (ow hw 179 rfl) (ow hw 115 rfl) (by decide) (by decide)) (g := (mkF mM 2 #[.val (.ref d), .val (.int (0 : Int32)), .val (.int (42 : Int32)), .unset, .unset] [(.int (42 : Int32)), (.int (0 : Int32))])) rfl (by rw [hml]; rfl) (argsL := [(.int (0 : Int32)), (.int (42 : Int32))]) (rest := []) (lenOf pd_14 rfl) rfl (by show 2 * 0 + _ ≤ _; exact Nat.le_of_eq rfl) (hb hby d_jdk_65m133_2) (fun _ _ => ⟨rfl, e0, (by decide : 0 + 0 ≤ _), (by decide : 0 + 0 ≤ _)⟩)
  dsimp only [Pt.U, Pt.locs, Pt.cells, Pt.slots] at X_1 l_1 y_1 z_1 st_1 hQ_1
  subst l_1 y_1 z_1
  obtain ⟨rfl, N_1q, eh_1⟩ := hQ_1
  have N_1 := Fr.app N0 N_1q
  obtain ⟨T_2, h_2, k_2, X_2, e_2, E_2, A_2, st_2⟩ := newP X_1 hx hZ (ow hw 36 rfl) eh_1 (g := (mkF mM 10 #[.val (.ref d), .val (.int (0 : Int32)), .val (.int (42 : Int32)), .val (.int (42 : Int32)), .unset] [(.int (42 : Int32))])) rfl (hb hby d_jdk_65m133_10) rfl (by decide) (cap := 42) (by decide) (by decide) (by decide) (by decide)
  obtain ⟨b_2, g_2⟩ : ∃ z, z = h0.size := ⟨_, rfl⟩
  rw [← g_2] at A_2 st_2
  have g_b_2 : n0 ≤ b_2 := Nat.le_trans Z0 (Nat.le_of_eq g_2.symm)
  have sz_b_2 : h0.size ≤ b_2 := Nat.le_trans (Keep.refl h0 []).1 (Nat.le_of_eq g_2.symm)
  have Z_2 : n0 ≤ h_2.size := (Nat.le_trans Z0 E_2.1)
  have K_2 : Keep h0 h_2 [] := (Keep.refl h0 []).ext E_2
  have V_b_2 : Arv Z h_2 b_2 k_2 .byte (42 : Int32) [(.int (0 : Int32)), (.int (0 : Int32)), (.int (0 : Int32)), (.int (0 : Int32)), (.int (0 : Int32)), (.int (0 : Int32)), (.int (0 : Int32)), (.int (0 : Int32)), (.int (0 : Int32)), (.int (0 : Int32)), (.int (0 : Int32)), (.int (0 : Int32)), (.int (0 : Int32)), (.int (0 : Int32)), (.int (0 : Int32)), (.int (0 : Int32)), (.int (0 : Int32)), (.int (0 : Int32)), (.int (0 : Int32)), (.int (0 : Int32)), (.int (0 : Int32)), (.int (0 : Int32)), (.int (0 : Int32)), (.int (0 : Int32)), (.int (0 : Int32)), (.int (0 : Int32)), (.int (0 : Int32)), (.int (0 : Int32)), (.int (0 : Int32)), (.int (0 : Int32)), (.int (0 : Int32)), (.int (0 : Int32)), (.int (0 : Int32)), (.int (0 : Int32)), (.int (0 : Int32)), (.int (0 : Int32)), (.int (0 : Int32)), (.int (0 : Int32)), (.int (0 : Int32)), (.int (0 : Int32)), (.int (0 : Int32)), (.int (0 : Int32))] (.int (0 : Int32)) := (Arv.new A_2 (by decide)).pad (pad_rep [] (.int (0 : Int32)) 42)
  obtain ⟨cl_3, Ar_3, -, Sa_3, Na_3, -, -⟩ := id (V_d.ext E_2)
  obtain ⟨_, _, ⟨T_4, L_4, k_4, n_4⟩, -, X_4, ⟨Lc_4, hQ_4, l_4, y_4, z_4⟩, st_4⟩ := Jvm.LawKit.callS X_2 hx (y := MN7) hown (mvT hZ (ow hw 117 rfl)) (mvT hZ (ow hw 118 rfl)) (mvT hZ (ow hw 109 rfl)) (mvT hZ (ow hw 119 rfl)) (by decide) (backOf (W := 4) (rm_min_84_42 l Z a0 hw []  h_2 n0 Z_2 ) hZ (ow hw 119 rfl) (ow hw 109 rfl) (by decide) (by decide)) (g := (mkF mM 24 #[.val (.ref d), .val (.int (0 : Int32)), .val (.int (42 : Int32)), .val (.int (42 : Int32)), .val (.ref b_2)] [(.int (42 : Int32)), (.int (84 : Int32)), (.int (0 : Int32)), (.ref b_2), (.int (0 : Int32)), (.ref d)])) rfl (by rw [hml]; rfl) (argsL := [(.int (84 : Int32)), (.int (42 : Int32))]) (rest := [(.int (0 : Int32)), (.ref b_2), (.int (0 : Int32)), (.ref d)]) (lenOf pd_5 rfl) rfl (by show 2 * 0 + _ ≤ _; exact Nat.le_of_eq rfl) (hb hby d_jdk_65m133_24) (fun _ _ => ⟨rfl, e_2, (by decide : 1 + 0 ≤ _), (by decide : 42 + 0 ≤ _)⟩)
  dsimp only [Pt.U, Pt.locs, Pt.cells, Pt.slots] at X_4 l_4 y_4 z_4 st_4 hQ_4
  subst l_4 y_4 z_4
  obtain ⟨rfl, N_4q, eh_4⟩ := hQ_4
  have N_4 := Fr.app N_1 N_4q
  obtain ⟨T_5, h_5, L_5, X_5, e_5, N_5, Kc_5, V_5, st_5⟩ := cpA X_4 hx hZ hown (ow hw 120 rfl) (ow hw 123 rfl) (ow hw 121 rfl) (ow hw 122 rfl) eh_4 (V_d.ext E_2) V_b_2 (Or.inl ⟨rfl, rfl⟩) (sp := (0 : Int32)) (dp := (0 : Int32)) (nn := (42 : Int32)) (us := [(.int (83 : Int32)), (.int (69 : Int32)), (.int (84 : Int32)), (.int (32 : Int32)), (.int (83 : Int32)), (.int (84 : Int32)), (.int (65 : Int32)), (.int (84 : Int32)), (.int (69 : Int32)), (.int (77 : Int32)), (.int (69 : Int32)), (.int (78 : Int32)), (.int (84 : Int32)), (.int (32 : Int32)), (.int (102 : Int32)), (.int (111 : Int32)), (.int (114 : Int32)), (.int (101 : Int32)), (.int (105 : Int32)), (.int (103 : Int32)), (.int (110 : Int32)), (.int (95 : Int32)), (.int (107 : Int32)), (.int (101 : Int32)), (.int (121 : Int32)), (.int (95 : Int32)), (.int (99 : Int32)), (.int (104 : Int32)), (.int (101 : Int32)), (.int (99 : Int32)), (.int (107 : Int32)), (.int (115 : Int32)), (.int (32 : Int32)), (.int (61 : Int32)), (.int (32 : Int32)), (.int (48 : Int32)), (.int (32 : Int32)), (.int (70 : Int32)), (.int (79 : Int32)), (.int (82 : Int32)), (.int (32 : Int32)), (.int x0)]) (by decide) (by decide) (by decide) (by decide) (by decide) rfl (by decide) N_4 g_b_2 (g := (mkF mM 27 #[.val (.ref d), .val (.int (0 : Int32)), .val (.int (42 : Int32)), .val (.int (42 : Int32)), .val (.ref b_2)] [(.int (42 : Int32)), (.int (0 : Int32)), (.ref b_2), (.int (0 : Int32)), (.ref d)])) rfl (by rw [hml]; rfl) rfl (hb hby d_jdk_65m133_27) (by decide) (W := 0) (by show 2 * 0 + _ ≤ _; exact Nat.le_of_eq rfl) (by decide)
  have Z_5 : n0 ≤ h_5.size := (Nat.le_trans Z_2 Kc_5.1)
  have K_5 : Keep h0 h_5 [] := K_2.trans Kc_5 (allS (Or.inr sz_b_2) all0)
  have Va_5 : Arv Z h_5 b_2 k_2 .byte (42 : Int32) [(.int (83 : Int32)), (.int (69 : Int32)), (.int (84 : Int32)), (.int (32 : Int32)), (.int (83 : Int32)), (.int (84 : Int32)), (.int (65 : Int32)), (.int (84 : Int32)), (.int (69 : Int32)), (.int (77 : Int32)), (.int (69 : Int32)), (.int (78 : Int32)), (.int (84 : Int32)), (.int (32 : Int32)), (.int (102 : Int32)), (.int (111 : Int32)), (.int (114 : Int32)), (.int (101 : Int32)), (.int (105 : Int32)), (.int (103 : Int32)), (.int (110 : Int32)), (.int (95 : Int32)), (.int (107 : Int32)), (.int (101 : Int32)), (.int (121 : Int32)), (.int (95 : Int32)), (.int (99 : Int32)), (.int (104 : Int32)), (.int (101 : Int32)), (.int (99 : Int32)), (.int (107 : Int32)), (.int (115 : Int32)), (.int (32 : Int32)), (.int (61 : Int32)), (.int (32 : Int32)), (.int (48 : Int32)), (.int (32 : Int32)), (.int (70 : Int32)), (.int (79 : Int32)), (.int (82 : Int32)), (.int (32 : Int32)), (.int x0)] (.int (0 : Int32)) := V_5
  obtain ⟨fs, hr, hrun, hended, hW, hsame⟩ := X_5.leave (v := some (.ref b_2)) (fun h => by rw [Bd.returns] at h; cases h)
  refine ⟨_, _, pre0 _ ?_, hrun, hended, _, _, rfl, ?_, ⟨_, rfl⟩, hW, hsame.mono (by decide) (by decide)⟩
  · show oS pP eE below s₁ (mkF mM 0 #[.val (.ref d), .val (.int (0 : Int32)), .val (.int (42 : Int32)), .unset, .unset] []) _
    refine XS.iloadN X0.here hx rfl (hb hby d_jdk_65m133_0) rfl ?_
    refine XS.iloadN X0.here hx rfl (hb hby d_jdk_65m133_1) rfl ?_
    show oS pP eE below s₁ (mkF mM 2 #[.val (.ref d), .val (.int (0 : Int32)), .val (.int (42 : Int32)), .unset, .unset] [(.int (42 : Int32)), (.int (0 : Int32))]) _
    refine st_1 _ ?_
    show oS pP eE below T_1 (mkF mM 5 #[.val (.ref d), .val (.int (0 : Int32)), .val (.int (42 : Int32)), .unset, .unset] []) _
    refine XS.iloadN X_1.here hx rfl (hb hby d_jdk_65m133_5) rfl ?_
    refine XS.iloadN X_1.here hx rfl (hb hby d_jdk_65m133_6) rfl ?_
    show oS pP eE below T_1 (mkF mM 7 #[.val (.ref d), .val (.int (0 : Int32)), .val (.int (42 : Int32)), .unset, .unset] [(.int (0 : Int32)), (.int (42 : Int32))]) _
    refine XS.isub X_1.here hx rfl (hb hby d_jdk_65m133_7) rfl ?_
    show oS pP eE below T_1 (mkF mM 8 #[.val (.ref d), .val (.int (0 : Int32)), .val (.int (42 : Int32)), .unset, .unset] [(.int ((42 : Int32) - (0 : Int32)))]) _
    rw [(by decide : ((42 : Int32) - (0 : Int32)) = (42 : Int32))]
    refine XS.istoreN X_1.here hx rfl (hb hby d_jdk_65m133_8) rfl (l' := #[.val (.ref d), .val (.int (0 : Int32)), .val (.int (42 : Int32)), .val (.int (42 : Int32)), .unset]) rfl ?_
    refine XS.iloadN X_1.here hx rfl (hb hby d_jdk_65m133_9) rfl ?_
    show oS pP eE below T_1 (mkF mM 10 #[.val (.ref d), .val (.int (0 : Int32)), .val (.int (42 : Int32)), .val (.int (42 : Int32)), .unset] [(.int (42 : Int32))]) _
    refine st_2 _ ?_
    show oS pP eE below T_2 (mkF mM 12 #[.val (.ref d), .val (.int (0 : Int32)), .val (.int (42 : Int32)), .val (.int (42 : Int32)), .unset] [(.ref b_2)]) _
    refine XS.astore X_2.here hx rfl (hb hby d_jdk_65m133_12) rfl rfl (l' := #[.val (.ref d), .val (.int (0 : Int32)), .val (.int (42 : Int32)), .val (.int (42 : Int32)), .val (.ref b_2)]) rfl ?_
    refine XS.aloadN X_2.here hx rfl (hb hby d_jdk_65m133_14) rfl rfl ?_
    refine XS.iloadN X_2.here hx rfl (hb hby d_jdk_65m133_15) rfl ?_
    refine XS.aload X_2.here hx rfl (hb hby d_jdk_65m133_16) rfl rfl ?_
    show oS pP eE below T_2 (mkF mM 18 #[.val (.ref d), .val (.int (0 : Int32)), .val (.int (42 : Int32)), .val (.int (42 : Int32)), .val (.ref b_2)] [(.ref b_2), (.int (0 : Int32)), (.ref d)]) _
    refine XS.iconst X_2.here hx rfl (hb hby d_jdk_65m133_18) ?_
    refine XS.aloadN X_2.here hx rfl (hb hby d_jdk_65m133_19) rfl rfl ?_
    show oS pP eE below T_2 (mkF mM 20 #[.val (.ref d), .val (.int (0 : Int32)), .val (.int (42 : Int32)), .val (.int (42 : Int32)), .val (.ref b_2)] [(.ref d), (.int (0 : Int32)), (.ref b_2), (.int (0 : Int32)), (.ref d)]) _
    refine X_2.arraylength hx (by rw [e_2]; exact Ar_3.1) (State.isArrayOf_alike hZ.alike Ar_3.2.1) (g := (mkF mM 20 #[.val (.ref d), .val (.int (0 : Int32)), .val (.int (42 : Int32)), .val (.int (42 : Int32)), .val (.ref b_2)] [(.ref d), (.int (0 : Int32)), (.ref b_2), (.int (0 : Int32)), (.ref d)])) rfl rfl (hb hby d_jdk_65m133_20) _ ?_
    rw [len_of Sa_3 Na_3]
    refine XS.iloadN X_2.here hx rfl (hb hby d_jdk_65m133_21) rfl ?_
    show oS pP eE below T_2 (mkF mM 22 #[.val (.ref d), .val (.int (0 : Int32)), .val (.int (42 : Int32)), .val (.int (42 : Int32)), .val (.ref b_2)] [(.int (0 : Int32)), (.int (84 : Int32)), (.int (0 : Int32)), (.ref b_2), (.int (0 : Int32)), (.ref d)]) _
    refine XS.isub X_2.here hx rfl (hb hby d_jdk_65m133_22) rfl ?_
    show oS pP eE below T_2 (mkF mM 23 #[.val (.ref d), .val (.int (0 : Int32)), .val (.int (42 : Int32)), .val (.int (42 : Int32)), .val (.ref b_2)] [(.int ((84 : Int32) - (0 : Int32))), (.int (0 : Int32)), (.ref b_2), (.int (0 : Int32)), (.ref d)]) _
    rw [(by decide : ((84 : Int32) - (0 : Int32)) = (84 : Int32))]
    refine XS.iloadN X_2.here hx rfl (hb hby d_jdk_65m133_23) rfl ?_
    show oS pP eE below T_2 (mkF mM 24 #[.val (.ref d), .val (.int (0 : Int32)), .val (.int (42 : Int32)), .val (.int (42 : Int32)), .val (.ref b_2)] [(.int (42 : Int32)), (.int (84 : Int32)), (.int (0 : Int32)), (.ref b_2), (.int (0 : Int32)), (.ref d)]) _
    refine st_4 _ ?_
    show oS pP eE below T_4 (mkF mM 27 #[.val (.ref d), .val (.int (0 : Int32)), .val (.int (42 : Int32)), .val (.int (42 : Int32)), .val (.ref b_2)] [(.int (42 : Int32)), (.int (0 : Int32)), (.ref b_2), (.int (0 : Int32)), (.ref d)]) _
    refine st_5 _ ?_
    show oS pP eE below T_5 (mkF mM 30 #[.val (.ref d), .val (.int (0 : Int32)), .val (.int (42 : Int32)), .val (.int (42 : Int32)), .val (.ref b_2)] []) _
    refine XS.aload X_5.here hx rfl (hb hby d_jdk_65m133_30) rfl rfl ?_
    show oS pP eE below T_5 (mkF mM 32 #[.val (.ref d), .val (.int (0 : Int32)), .val (.int (42 : Int32)), .val (.int (42 : Int32)), .val (.ref b_2)] [(.ref b_2)]) _
    exact retOut X_5 hx Bd.returns rfl (Or.inr (Or.inr (Or.inr (Or.inr ⟨rfl, rfl, rfl⟩)))) (hb hby d_jdk_65m133_32) hr
  · show Q_crb Z d k x0 h0 n0 _ T_5.heap _
    rw [e_5]
    exact ⟨b_2, k_2, rfl, N_5, K_5, sz_b_2, Va_5⟩
theorem d_jdk_65m132_0 : decode jdk_65_method_132_code 0 = .ok (.iload_n 1, 1) := by decide +kernel
theorem d_jdk_65m132_1 : decode jdk_65_method_132_code 1 = .ok (.ifCond .ne 9, 3) := by decide +kernel
theorem d_jdk_65m132_4 : decode jdk_65_method_132_code 4 = .ok (.iload_n 2, 1) := by decide +kernel
theorem d_jdk_65m132_5 : decode jdk_65_method_132_code 5 = .ok (.aload_n 0, 1) := by decide +kernel
theorem d_jdk_65m132_6 : decode jdk_65_method_132_code 6 = .ok (.arraylength, 1) := by decide +kernel
theorem d_jdk_65m132_7 : decode jdk_65_method_132_code 7 = .ok (.if_icmp .eq 10, 3) := by decide +kernel
theorem d_jdk_65m132_10 : decode jdk_65_method_132_code 10 = .ok (.aload_n 0, 1) := by decide +kernel
theorem d_jdk_65m132_11 : decode jdk_65_method_132_code 11 = .ok (.iload_n 1, 1) := by decide +kernel
theorem d_jdk_65m132_12 : decode jdk_65_method_132_code 12 = .ok (.iload_n 2, 1) := by decide +kernel
theorem d_jdk_65m132_13 : decode jdk_65_method_132_code 13 = .ok (.invokestatic 339, 3) := by decide +kernel
theorem pd_15 : parseMethodDescriptor "([BII)[B" = some ⟨[(.array .byte), .int, .int], some (.array .byte)⟩ := by decide +kernel
abbrev MN18 : MethodName := ⟨"java/util/Arrays", "copyOfRangeByte", "([BII)[B"⟩
theorem d_jdk_65m132_16 : decode jdk_65_method_132_code 16 = .ok (.areturn, 1) := by decide +kernel
theorem ef_cr (mM : MethodId) (x0 : Addr) (x1 : Int32) (x2 : Int32) : entryFrame mM #[(.ref x0), (.int x1), (.int x2)] 3 = mkF mM 0 #[.val (.ref x0), .val (.int x1), .val (.int x2)] [] := by first | (simp [entryFrame, mkF, argsToLocals, Value.category]; done) | rfl
def Q_cr (Z : State) (d : Addr) (k : ClassId) (x0 : Int32) (h0 : Heap) (n0 : Nat) (v_ : Option Value) (h_ : Heap) (L_ : List Loc) : Prop := ∃ e : Addr, ∃ kk : ClassId, v_ = some (.ref e) ∧ Fr n0 L_ ∧ Keep h0 h_ [] ∧ h0.size ≤ e ∧ Arv Z h_ e kk .byte (42 : Int32) [(.int (83 : Int32)), (.int (69 : Int32)), (.int (84 : Int32)), (.int (32 : Int32)), (.int (83 : Int32)), (.int (84 : Int32)), (.int (65 : Int32)), (.int (84 : Int32)), (.int (69 : Int32)), (.int (77 : Int32)), (.int (69 : Int32)), (.int (78 : Int32)), (.int (84 : Int32)), (.int (32 : Int32)), (.int (102 : Int32)), (.int (111 : Int32)), (.int (114 : Int32)), (.int (101 : Int32)), (.int (105 : Int32)), (.int (103 : Int32)), (.int (110 : Int32)), (.int (95 : Int32)), (.int (107 : Int32)), (.int (101 : Int32)), (.int (121 : Int32)), (.int (95 : Int32)), (.int (99 : Int32)), (.int (104 : Int32)), (.int (101 : Int32)), (.int (99 : Int32)), (.int (107 : Int32)), (.int (115 : Int32)), (.int (32 : Int32)), (.int (61 : Int32)), (.int (32 : Int32)), (.int (48 : Int32)), (.int (32 : Int32)), (.int (70 : Int32)), (.int (79 : Int32)), (.int (82 : Int32)), (.int (32 : Int32)), (.int x0)] (.int (0 : Int32))
set_option maxRecDepth 65536 in
set_option maxHeartbeats 40000000 in
theorem rm_cr (l : Launch) (Z : State) (a0 : Array Value) (hw : ∀ d ∈ tables_1, d.before a0 Z = true) (ws : List Jvm.Cond) (d : Addr) (k : ClassId) (x0 : Int32) (h0 : Heap) (n0 : Nat) (Z0 : n0 ≤ h0.size) (V_d : Arv Z h0 d k .byte (84 : Int32) [(.int (83 : Int32)), (.int (69 : Int32)), (.int (84 : Int32)), (.int (32 : Int32)), (.int (83 : Int32)), (.int (84 : Int32)), (.int (65 : Int32)), (.int (84 : Int32)), (.int (69 : Int32)), (.int (77 : Int32)), (.int (69 : Int32)), (.int (78 : Int32)), (.int (84 : Int32)), (.int (32 : Int32)), (.int (102 : Int32)), (.int (111 : Int32)), (.int (114 : Int32)), (.int (101 : Int32)), (.int (105 : Int32)), (.int (103 : Int32)), (.int (110 : Int32)), (.int (95 : Int32)), (.int (107 : Int32)), (.int (101 : Int32)), (.int (121 : Int32)), (.int (95 : Int32)), (.int (99 : Int32)), (.int (104 : Int32)), (.int (101 : Int32)), (.int (99 : Int32)), (.int (107 : Int32)), (.int (115 : Int32)), (.int (32 : Int32)), (.int (61 : Int32)), (.int (32 : Int32)), (.int (48 : Int32)), (.int (32 : Int32)), (.int (70 : Int32)), (.int (79 : Int32)), (.int (82 : Int32)), (.int (32 : Int32)), (.int x0), (.int (0 : Int32)), (.int (0 : Int32)), (.int (0 : Int32)), (.int (0 : Int32)), (.int (0 : Int32)), (.int (0 : Int32)), (.int (0 : Int32)), (.int (0 : Int32)), (.int (0 : Int32)), (.int (0 : Int32)), (.int (0 : Int32)), (.int (0 : Int32)), (.int (0 : Int32)), (.int (0 : Int32)), (.int (0 : Int32)), (.int (0 : Int32)), (.int (0 : Int32)), (.int (0 : Int32)), (.int (0 : Int32)), (.int (0 : Int32)), (.int (0 : Int32)), (.int (0 : Int32)), (.int (0 : Int32)), (.int (0 : Int32)), (.int (0 : Int32)), (.int (0 : Int32)), (.int (0 : Int32)), (.int (0 : Int32)), (.int (0 : Int32)), (.int (0 : Int32)), (.int (0 : Int32)), (.int (0 : Int32)), (.int (0 : Int32)), (.int (0 : Int32)), (.int (0 : Int32)), (.int (0 : Int32)), (.int (0 : Int32)), (.int (0 : Int32)), (.int (0 : Int32)), (.int (0 : Int32)), (.int (0 : Int32)), (.int (0 : Int32))] (.int (0 : Int32))) :
    MetFree l (⟨"java/util/Arrays", "copyOfRange", "([BII)[B"⟩ : MethodName) (head1 (Jvm.Cond.code (⟨"java/util/Arrays", "copyOfRange", "([BII)[B"⟩ : MethodName) jdk_65_method_132_code 3 (some (.array .byte)) :: ws) ({ frames := 2, cells := 1, slots := 42, locals := 34 } : Room)) (fun aa_ U_ => aa_ = #[(.ref d), (.int (0 : Int32)), (.int (42 : Int32))] ∧ Z.Warmed39 U_.vm ∧ U_.heap = h0) (fun _ _ _ _ _ => True) (fun _ U_ o_ U'_ => ∃ v_ L_, o_ = .returned v_ ∧ Q_cr Z d k x0 h0 n0 v_ U'_.heap L_ ∧ FrameEnd U_ o_ U'_ L_ ({ frames := 2, cells := 1, slots := 42, locals := 34 } : Room).cells ({ frames := 2, cells := 1, slots := 42, locals := 34 } : Room).slots) := by
  refine MetFree.of_bodySF (plainFor_of_name pn_6) hisR ?_
  intro pP eE sS mM argsA below meth cC s₁ Bd hml0 hP hK
  obtain ⟨rfl, hZ, hh⟩ := hP
  have hx := Bd.exec
  have hby := Bd.bytes
  have hml : cC.maxLocals = 3 := hml0
  have hown : sS.vm.findClass "java/util/Arrays" = some mM.cls := findClass_of_methodNamed Bd.named
  have hnm := (name_of_methodNamed Bd.named Bd.method).1
  have X0 : Stand pP l eE ({ frames := 2, cells := 1, slots := 42, locals := 34 } : Room) sS mM #[(.ref d), (.int (0 : Int32)), (.int (42 : Int32))] below meth cC s₁ [] 0 0 := Stand.of_body Bd
  have e0 : s₁.heap = h0 := by rw [← hh, Bd.state]; rfl
  have N0 := Fr.nil n0
  have pre0 : ∀ t_, Steps pP.tables eE below (s₁.setTop (mkF mM 0 #[.val (.ref d), .val (.int (0 : Int32)), .val (.int (42 : Int32))] [])) t_ → Steps pP.tables eE below (s₁.setTop (entryFrame mM #[(.ref d), (.int (0 : Int32)), (.int (42 : Int32))] 3)) t_ := fun t_ k_ => castTop (ef_cr mM d (0 : Int32) (42 : Int32)) k_
  obtain ⟨cl_1, Ar_1, -, Sa_1, Na_1, -, -⟩ := id V_d
  obtain ⟨_, _, ⟨T_2, L_2, k_2, n_2⟩, -, X_2, ⟨Lc_2, hQ_2, l_2, y_2, z_2⟩, st_2⟩ := Jvm.LawKit.callS X0 hx (y := MN18) hown (mvT hZ (ow hw 174 rfl)) (mvT hZ (ow hw 175 rfl)) (mvT hZ (ow hw 115 rfl)) (mvT hZ (ow hw 176 rfl)) (by decide) (backOf (W := 0) (rm_crb l Z a0 hw [] d k x0 h0 n0 Z0 V_d) hZ (ow hw 176 rfl) (ow hw 115 rfl) (by decide) (by decide)) (g := (mkF mM 13 #[.val (.ref d), .val (.int (0 : Int32)), .val (.int (42 : Int32))] [(.int (42 : Int32)), (.int (0 : Int32)), (.ref d)])) rfl (by rw [hml]; rfl) (argsL := [(.ref d), (.int (0 : Int32)), (.int (42 : Int32))]) (rest := []) (lenOf pd_15 rfl) rfl (by show 2 * 0 + _ ≤ _; exact Nat.le_of_eq rfl) (hb hby d_jdk_65m132_13) (fun _ _ => ⟨rfl, e0, (by decide : 0 + 1 ≤ _), (by decide : 0 + 42 ≤ _)⟩)
  dsimp only [Pt.U, Pt.locs, Pt.cells, Pt.slots] at X_2 l_2 y_2 z_2 st_2 hQ_2
  subst l_2 y_2 z_2
  obtain ⟨e__2, ⟨kk__2, ⟨rfl, N_2q, Kc_2, pfsz_e_2, pfV_e_2⟩⟩⟩ := hQ_2
  have Z_2 : n0 ≤ T_2.heap.size := (Nat.le_trans Z0 Kc_2.1)
  have K_2 : Keep h0 T_2.heap [] := (Keep.refl h0 []).trans Kc_2 all0
  have sz_e__2 : h0.size ≤ e__2 := Nat.le_trans (Keep.refl h0 []).1 pfsz_e_2
  have g_e__2 : n0 ≤ e__2 := Nat.le_trans Z0 pfsz_e_2
  have N_2 := Fr.app N0 N_2q
  obtain ⟨fs, hr, hrun, hended, hW, hsame⟩ := X_2.leave (v := some (.ref e__2)) (fun h => by rw [Bd.returns] at h; cases h)
  refine ⟨_, _, pre0 _ ?_, hrun, hended, _, _, rfl, ?_, ⟨_, rfl⟩, hW, hsame.mono (by decide) (by decide)⟩
  · show oS pP eE below s₁ (mkF mM 0 #[.val (.ref d), .val (.int (0 : Int32)), .val (.int (42 : Int32))] []) _
    refine XS.iloadN X0.here hx rfl (hb hby d_jdk_65m132_0) rfl ?_
    refine XS.ifNo X0.here hx rfl (hb hby d_jdk_65m132_1) rfl (by decide) ?_
    refine XS.iloadN X0.here hx rfl (hb hby d_jdk_65m132_4) rfl ?_
    refine XS.aloadN X0.here hx rfl (hb hby d_jdk_65m132_5) rfl rfl ?_
    show oS pP eE below s₁ (mkF mM 6 #[.val (.ref d), .val (.int (0 : Int32)), .val (.int (42 : Int32))] [(.ref d), (.int (42 : Int32))]) _
    refine X0.arraylength hx (by rw [e0]; exact Ar_1.1) (State.isArrayOf_alike hZ.alike Ar_1.2.1) (g := (mkF mM 6 #[.val (.ref d), .val (.int (0 : Int32)), .val (.int (42 : Int32))] [(.ref d), (.int (42 : Int32))])) rfl rfl (hb hby d_jdk_65m132_6) _ ?_
    rw [len_of Sa_1 Na_1]
    refine XS.icmpNo X0.here hx rfl (hb hby d_jdk_65m132_7) rfl (by decide) ?_
    refine XS.aloadN X0.here hx rfl (hb hby d_jdk_65m132_10) rfl rfl ?_
    refine XS.iloadN X0.here hx rfl (hb hby d_jdk_65m132_11) rfl ?_
    show oS pP eE below s₁ (mkF mM 12 #[.val (.ref d), .val (.int (0 : Int32)), .val (.int (42 : Int32))] [(.int (0 : Int32)), (.ref d)]) _
    refine XS.iloadN X0.here hx rfl (hb hby d_jdk_65m132_12) rfl ?_
    show oS pP eE below s₁ (mkF mM 13 #[.val (.ref d), .val (.int (0 : Int32)), .val (.int (42 : Int32))] [(.int (42 : Int32)), (.int (0 : Int32)), (.ref d)]) _
    refine st_2 _ ?_
    show oS pP eE below T_2 (mkF mM 16 #[.val (.ref d), .val (.int (0 : Int32)), .val (.int (42 : Int32))] [(.ref e__2)]) _
    exact retOut X_2 hx Bd.returns rfl (Or.inr (Or.inr (Or.inr (Or.inr ⟨rfl, rfl, rfl⟩)))) (hb hby d_jdk_65m132_16) hr
  · show Q_cr Z d k x0 h0 n0 _ T_2.heap _
    exact ⟨e__2, kk__2, rfl, N_2, K_2, sz_e__2, pfV_e_2⟩
theorem d_jdk_42m150_0 : decode jdk_42_method_150_code 0 = .ok (.aload_n 0, 1) := by decide +kernel
theorem d_jdk_42m150_1 : decode jdk_42_method_150_code 1 = .ok (.invokespecial 1, 3) := by decide +kernel
theorem d_jdk_42m150_4 : decode jdk_42_method_150_code 4 = .ok (.aload_n 1, 1) := by decide +kernel
theorem d_jdk_42m150_5 : decode jdk_42_method_150_code 5 = .ok (.invokevirtual 552, 3) := by decide +kernel
theorem pd_16 : parseMethodDescriptor "()[B" = some ⟨[], some (.array .byte)⟩ := by decide +kernel
abbrev MN19 : MethodName := ⟨"java/lang/AbstractStringBuilder", "getValue", "()[B"⟩
theorem d_jdk_42m150_8 : decode jdk_42_method_150_code 8 = .ok (.astore_n 3, 1) := by decide +kernel
theorem d_jdk_42m150_9 : decode jdk_42_method_150_code 9 = .ok (.aload_n 1, 1) := by decide +kernel
theorem d_jdk_42m150_10 : decode jdk_42_method_150_code 10 = .ok (.invokevirtual 549, 3) := by decide +kernel
abbrev MN20 : MethodName := ⟨"java/lang/StringBuilder", "length", "()I"⟩
theorem d_jdk_42m150_13 : decode jdk_42_method_150_code 13 = .ok (.istore 4, 2) := by decide +kernel
theorem d_jdk_42m150_15 : decode jdk_42_method_150_code 15 = .ok (.aload_n 1, 1) := by decide +kernel
theorem d_jdk_42m150_16 : decode jdk_42_method_150_code 16 = .ok (.invokevirtual 1047, 3) := by decide +kernel
theorem pd_17 : parseMethodDescriptor "()Z" = some ⟨[], some .boolean⟩ := by decide +kernel
abbrev MN21 : MethodName := ⟨"java/lang/AbstractStringBuilder", "isLatin1", "()Z"⟩
theorem d_jdk_42m150_19 : decode jdk_42_method_150_code 19 = .ok (.ifCond .eq 22, 3) := by decide +kernel
theorem d_jdk_42m150_22 : decode jdk_42_method_150_code 22 = .ok (.aload_n 0, 1) := by decide +kernel
theorem d_jdk_42m150_23 : decode jdk_42_method_150_code 23 = .ok (.iconst 0, 1) := by decide +kernel
theorem d_jdk_42m150_24 : decode jdk_42_method_150_code 24 = .ok (.putfield 15, 3) := by decide +kernel
theorem d_jdk_42m150_27 : decode jdk_42_method_150_code 27 = .ok (.aload_n 0, 1) := by decide +kernel
theorem d_jdk_42m150_28 : decode jdk_42_method_150_code 28 = .ok (.aload_n 3, 1) := by decide +kernel
theorem d_jdk_42m150_29 : decode jdk_42_method_150_code 29 = .ok (.iconst 0, 1) := by decide +kernel
theorem d_jdk_42m150_30 : decode jdk_42_method_150_code 30 = .ok (.iload 4, 2) := by decide +kernel
theorem d_jdk_42m150_32 : decode jdk_42_method_150_code 32 = .ok (.invokestatic 54, 3) := by decide +kernel
abbrev MN22 : MethodName := ⟨"java/util/Arrays", "copyOfRange", "([BII)[B"⟩
theorem d_jdk_42m150_35 : decode jdk_42_method_150_code 35 = .ok (.putfield 9, 3) := by decide +kernel
theorem d_jdk_42m150_38 : decode jdk_42_method_150_code 38 = .ok (.goto 59, 3) := by decide +kernel
theorem d_jdk_42m150_97 : decode jdk_42_method_150_code 97 = .ok (.return_, 1) := by decide +kernel
theorem ef_si2 (mM : MethodId) (x0 : Addr) (x1 : Addr) : entryFrame mM #[(.ref x0), (.ref x1), .null] 5 = mkF mM 0 #[.val (.ref x0), .val (.ref x1), .val .null, .unset, .unset] [] := by first | (simp [entryFrame, mkF, argsToLocals, Value.category]; done) | rfl
def Q_si2 (Z : State) (a : Addr) (b : Addr) (d : Addr) (k : ClassId) (cs : Int32) (x0 : Int32) (h0 : Heap) (n0 : Nat) (v_ : Option Value) (h_ : Heap) (L_ : List Loc) : Prop := ∃ e : Addr, ∃ kk : ClassId, v_ = none ∧ Fr n0 L_ ∧ Keep h0 h_ [a] ∧ h0.size ≤ e ∧ Exa Z h_ a "java/lang/String" ∧ Fld Z h_ a "java/lang/String" "value" "[B" (.ref e) ∧ Fld Z h_ a "java/lang/String" "coder" "B" (.int (0 : Int32)) ∧ Arv Z h_ e kk .byte (42 : Int32) [(.int (83 : Int32)), (.int (69 : Int32)), (.int (84 : Int32)), (.int (32 : Int32)), (.int (83 : Int32)), (.int (84 : Int32)), (.int (65 : Int32)), (.int (84 : Int32)), (.int (69 : Int32)), (.int (77 : Int32)), (.int (69 : Int32)), (.int (78 : Int32)), (.int (84 : Int32)), (.int (32 : Int32)), (.int (102 : Int32)), (.int (111 : Int32)), (.int (114 : Int32)), (.int (101 : Int32)), (.int (105 : Int32)), (.int (103 : Int32)), (.int (110 : Int32)), (.int (95 : Int32)), (.int (107 : Int32)), (.int (101 : Int32)), (.int (121 : Int32)), (.int (95 : Int32)), (.int (99 : Int32)), (.int (104 : Int32)), (.int (101 : Int32)), (.int (99 : Int32)), (.int (107 : Int32)), (.int (115 : Int32)), (.int (32 : Int32)), (.int (61 : Int32)), (.int (32 : Int32)), (.int (48 : Int32)), (.int (32 : Int32)), (.int (70 : Int32)), (.int (79 : Int32)), (.int (82 : Int32)), (.int (32 : Int32)), (.int x0)] (.int (0 : Int32))
set_option maxRecDepth 65536 in
set_option maxHeartbeats 40000000 in
theorem rm_si2 (l : Launch) (Z : State) (a0 : Array Value) (hw : ∀ d ∈ tables_1, d.before a0 Z = true) (ws : List Jvm.Cond) (a : Addr) (b : Addr) (d : Addr) (k : ClassId) (cs : Int32) (x0 : Int32) (h0 : Heap) (n0 : Nat) (Z0 : n0 ≤ h0.size) (F_value_a : Fld Z h0 a "java/lang/String" "value" "[B" .null) (F_coder_a : Fld Z h0 a "java/lang/String" "coder" "B" (.int (0 : Int32))) (E_a : Exa Z h0 a "java/lang/String") (g_a : n0 ≤ a) (F_value_b : Fld Z h0 b "java/lang/AbstractStringBuilder" "value" "[B" (.ref d)) (F_coder_b : Fld Z h0 b "java/lang/AbstractStringBuilder" "coder" "B" (.int (0 : Int32))) (F_count_b : Fld Z h0 b "java/lang/AbstractStringBuilder" "count" "I" (.int (42 : Int32))) (E_b : Exa Z h0 b "java/lang/StringBuilder") (V_d : Arv Z h0 d k .byte (84 : Int32) [(.int (83 : Int32)), (.int (69 : Int32)), (.int (84 : Int32)), (.int (32 : Int32)), (.int (83 : Int32)), (.int (84 : Int32)), (.int (65 : Int32)), (.int (84 : Int32)), (.int (69 : Int32)), (.int (77 : Int32)), (.int (69 : Int32)), (.int (78 : Int32)), (.int (84 : Int32)), (.int (32 : Int32)), (.int (102 : Int32)), (.int (111 : Int32)), (.int (114 : Int32)), (.int (101 : Int32)), (.int (105 : Int32)), (.int (103 : Int32)), (.int (110 : Int32)), (.int (95 : Int32)), (.int (107 : Int32)), (.int (101 : Int32)), (.int (121 : Int32)), (.int (95 : Int32)), (.int (99 : Int32)), (.int (104 : Int32)), (.int (101 : Int32)), (.int (99 : Int32)), (.int (107 : Int32)), (.int (115 : Int32)), (.int (32 : Int32)), (.int (61 : Int32)), (.int (32 : Int32)), (.int (48 : Int32)), (.int (32 : Int32)), (.int (70 : Int32)), (.int (79 : Int32)), (.int (82 : Int32)), (.int (32 : Int32)), (.int x0), (.int (0 : Int32)), (.int (0 : Int32)), (.int (0 : Int32)), (.int (0 : Int32)), (.int (0 : Int32)), (.int (0 : Int32)), (.int (0 : Int32)), (.int (0 : Int32)), (.int (0 : Int32)), (.int (0 : Int32)), (.int (0 : Int32)), (.int (0 : Int32)), (.int (0 : Int32)), (.int (0 : Int32)), (.int (0 : Int32)), (.int (0 : Int32)), (.int (0 : Int32)), (.int (0 : Int32)), (.int (0 : Int32)), (.int (0 : Int32)), (.int (0 : Int32)), (.int (0 : Int32)), (.int (0 : Int32)), (.int (0 : Int32)), (.int (0 : Int32)), (.int (0 : Int32)), (.int (0 : Int32)), (.int (0 : Int32)), (.int (0 : Int32)), (.int (0 : Int32)), (.int (0 : Int32)), (.int (0 : Int32)), (.int (0 : Int32)), (.int (0 : Int32)), (.int (0 : Int32)), (.int (0 : Int32)), (.int (0 : Int32)), (.int (0 : Int32)), (.int (0 : Int32)), (.int (0 : Int32)), (.int (0 : Int32)), (.int (0 : Int32))] (.int (0 : Int32))) (S_String_COMPACT_STRINGS : Sta Z h0 "java/lang/String" "COMPACT_STRINGS" "Z" (.int cs)) (hcs : ¬ cs = 0) (nab : a ≠ b) (nad : a ≠ d) :
    MetFree l (⟨"java/lang/String", "<init>", "(Ljava/lang/AbstractStringBuilder;Ljava/lang/Void;)V"⟩ : MethodName) (head1 (Jvm.Cond.code (⟨"java/lang/String", "<init>", "(Ljava/lang/AbstractStringBuilder;Ljava/lang/Void;)V"⟩ : MethodName) jdk_42_method_150_code 5 none :: ws) ({ frames := 3, cells := 1, slots := 42, locals := 49 } : Room)) (fun aa_ U_ => aa_ = #[(.ref a), (.ref b), .null] ∧ Z.Warmed39 U_.vm ∧ U_.heap = h0) (fun _ _ _ _ _ => True) (fun _ U_ o_ U'_ => ∃ v_ L_, o_ = .returned v_ ∧ Q_si2 Z a b d k cs x0 h0 n0 v_ U'_.heap L_ ∧ FrameEnd U_ o_ U'_ L_ ({ frames := 3, cells := 1, slots := 42, locals := 49 } : Room).cells ({ frames := 3, cells := 1, slots := 42, locals := 49 } : Room).slots) := by
  refine MetFree.of_bodySF (plainFor_of_name pn_2) hisR ?_
  intro pP eE sS mM argsA below meth cC s₁ Bd hml0 hP hK
  obtain ⟨rfl, hZ, hh⟩ := hP
  have hx := Bd.exec
  have hby := Bd.bytes
  have hml : cC.maxLocals = 5 := hml0
  have hown : sS.vm.findClass "java/lang/String" = some mM.cls := findClass_of_methodNamed Bd.named
  have hnm := (name_of_methodNamed Bd.named Bd.method).1
  have X0 : Stand pP l eE ({ frames := 3, cells := 1, slots := 42, locals := 49 } : Room) sS mM #[(.ref a), (.ref b), .null] below meth cC s₁ [] 0 0 := Stand.of_body Bd
  have e0 : s₁.heap = h0 := by rw [← hh, Bd.state]; rfl
  have N0 := Fr.nil n0
  have pre0 : ∀ t_, Steps pP.tables eE below (s₁.setTop (mkF mM 0 #[.val (.ref a), .val (.ref b), .val .null, .unset, .unset] [])) t_ → Steps pP.tables eE below (s₁.setTop (entryFrame mM #[(.ref a), (.ref b), .null] 5)) t_ := fun t_ k_ => castTop (ef_si2 mM a b) k_
  obtain ⟨T_1, X_1, e_1, st_1⟩ := initO X0 hx hZ hown (ow hw 41 rfl) (ow hw 42 rfl) (ow hw 43 rfl) e0 (g := (mkF mM 1 #[.val (.ref a), .val (.ref b), .val .null, .unset, .unset] [(.ref a)])) rfl (by rw [hml]; rfl) rfl (hb hby d_jdk_42m150_1) (by decide) (W := 0) (by show 2 * 0 + _ ≤ _; exact Nat.le_of_eq rfl) (by decide)
  obtain ⟨cq_2, kq_2, q_2a, q_2b, q_2c⟩ := isOf hZ e_1 E_b
  obtain ⟨_, _, ⟨T_2, L_2, k_2, n_2⟩, -, X_2, ⟨Lc_2, hQ_2, l_2, y_2, z_2⟩, st_2⟩ := X_1.virtualBack hx (y := MN19) (z := MN19) hown (mvT hZ (ow hw 153 rfl)) (mvT hZ (ow hw 154 rfl)) (notFace_of_selects (args := #[]) (mvT hZ (ow hw 156 rfl))) (mvT hZ (ow hw 156 rfl)) (mvT hZ (ow hw 155 rfl)) (by decide) (backOf (W := 0) (rm_gv l Z a0 hw [] b d h0 n0 Z0 F_value_b) hZ (ow hw 157 rfl) (ow hw 63 rfl) (by decide) (by decide)) q_2a q_2c (g := (mkF mM 5 #[.val (.ref a), .val (.ref b), .val .null, .unset, .unset] [(.ref b)])) rfl (by rw [hml]; rfl) (Steps.refl _) (argsL := []) (rest := []) (lenOf pd_16 rfl) rfl (by show 2 * 0 + _ ≤ _; exact Nat.le_of_eq rfl) (hb hby d_jdk_42m150_5) (fun _ _ => ⟨rfl, e_1, (by decide : 0 + 0 ≤ _), (by decide : 0 + 0 ≤ _)⟩)
  dsimp only [Pt.U, Pt.locs, Pt.cells, Pt.slots] at X_2 l_2 y_2 z_2 st_2 hQ_2
  subst l_2 y_2 z_2
  obtain ⟨rfl, N_2q, eh_2⟩ := hQ_2
  have N_2 := Fr.app N0 N_2q
  obtain ⟨cq_3, kq_3, q_3a, q_3b, q_3c⟩ := isOf hZ eh_2 E_b
  obtain ⟨_, _, ⟨T_3, L_3, k_3, n_3⟩, -, X_3, ⟨Lc_3, hQ_3, l_3, y_3, z_3⟩, st_3⟩ := X_2.virtualBack hx (y := MN16) (z := MN20) hown (mvT hZ (ow hw 158 rfl)) (mvT hZ (ow hw 159 rfl)) (own_nf (y := MN16) (z := MN13) (args := #[]) (mvT hZ (ow hw 96 rfl)) rfl) (mvT hZ (ow hw 161 rfl)) (mvT hZ (ow hw 162 rfl)) (by decide) (backOf (W := 0) (rm_slen l Z a0 hw [] b h0 n0 Z0 F_count_b E_b) hZ (ow hw 163 rfl) (ow hw 55 rfl) (by decide) (by decide)) q_3a q_3c (g := (mkF mM 10 #[.val (.ref a), .val (.ref b), .val .null, .val (.ref d), .unset] [(.ref b)])) rfl (by rw [hml]; rfl) (Steps.refl _) (argsL := []) (rest := []) (lenOf pd_11 rfl) rfl (by show 2 * 0 + _ ≤ _; exact Nat.le_of_eq rfl) (hb hby d_jdk_42m150_10) (fun _ _ => ⟨rfl, eh_2, (by decide : 0 + 0 ≤ _), (by decide : 0 + 0 ≤ _)⟩)
  dsimp only [Pt.U, Pt.locs, Pt.cells, Pt.slots] at X_3 l_3 y_3 z_3 st_3 hQ_3
  subst l_3 y_3 z_3
  obtain ⟨rfl, N_3q, eh_3⟩ := hQ_3
  have N_3 := Fr.app N_2 N_3q
  obtain ⟨cq_4, kq_4, q_4a, q_4b, q_4c⟩ := isOf hZ eh_3 E_b
  obtain ⟨_, _, ⟨T_4, L_4, k_4, n_4⟩, -, X_4, ⟨Lc_4, hQ_4, l_4, y_4, z_4⟩, st_4⟩ := X_3.virtualBack hx (y := MN21) (z := MN21) hown (mvT hZ (ow hw 166 rfl)) (mvT hZ (ow hw 167 rfl)) (notFace_of_selects (args := #[]) (mvT hZ (ow hw 169 rfl))) (mvT hZ (ow hw 169 rfl)) (mvT hZ (ow hw 168 rfl)) (by decide) (backOf (W := 0) (rm_ail l Z a0 hw [] b cs h0 n0 Z0 F_coder_b S_String_COMPACT_STRINGS hcs) hZ (ow hw 170 rfl) (ow hw 63 rfl) (by decide) (by decide)) q_4a q_4c (g := (mkF mM 16 #[.val (.ref a), .val (.ref b), .val .null, .val (.ref d), .val (.int (42 : Int32))] [(.ref b)])) rfl (by rw [hml]; rfl) (Steps.refl _) (argsL := []) (rest := []) (lenOf pd_17 rfl) rfl (by show 2 * 0 + _ ≤ _; exact Nat.le_of_eq rfl) (hb hby d_jdk_42m150_16) (fun _ _ => ⟨rfl, eh_3, (by decide : 0 + 0 ≤ _), (by decide : 0 + 0 ≤ _)⟩)
  dsimp only [Pt.U, Pt.locs, Pt.cells, Pt.slots] at X_4 l_4 y_4 z_4 st_4 hQ_4
  subst l_4 y_4 z_4
  obtain ⟨rfl, N_4q, eh_4⟩ := hQ_4
  have N_4 := Fr.app N_3 N_4q
  obtain ⟨T_5, h_5, X_5, e_5, W_5, st_5⟩ := putFN X_4 hx hZ hown (ow hw 46 rfl) Via.refl eh_4 F_coder_a E_a (Or.inr ⟨(ow hw 47 rfl), rfl, hnm⟩) (ow hw 32 rfl) (ty := .byte) (v' := (.int (0 : Int32))) (by decide) rfl rfl (g := (mkF mM 24 #[.val (.ref a), .val (.ref b), .val .null, .val (.ref d), .val (.int (42 : Int32))] [(.int (0 : Int32)), (.ref a)])) rfl rfl (hb hby d_jdk_42m150_24)
  have Fw_5 := F_coder_a.same W_5
  have Z_5 : n0 ≤ h_5.size := (Nat.le_trans Z0 (Keep.of_wr W_5).1)
  have K_5 : Keep h0 h_5 [a] := (Keep.refl h0 [a]).wr W_5 (Or.inl (List.mem_of_getElem? (i := 0) rfl))
  have N_5 := Fr.snoc X_5 N_4 g_a
  obtain ⟨_, _, ⟨T_6, L_6, k_6, n_6⟩, -, X_6, ⟨Lc_6, hQ_6, l_6, y_6, z_6⟩, st_6⟩ := Jvm.LawKit.callS X_5 hx (y := MN22) hown (mvT hZ (ow hw 171 rfl)) (mvT hZ (ow hw 172 rfl)) (mvT hZ (ow hw 115 rfl)) (mvT hZ (ow hw 173 rfl)) (by decide) (backOf (W := 1) (rm_cr l Z a0 hw [] d k x0 h_5 n0 Z_5 (V_d.other W_5 (Ne.symm nad))) hZ (ow hw 173 rfl) (ow hw 115 rfl) (by decide) (by decide)) (g := (mkF mM 32 #[.val (.ref a), .val (.ref b), .val .null, .val (.ref d), .val (.int (42 : Int32))] [(.int (42 : Int32)), (.int (0 : Int32)), (.ref d), (.ref a)])) rfl (by rw [hml]; rfl) (argsL := [(.ref d), (.int (0 : Int32)), (.int (42 : Int32))]) (rest := [(.ref a)]) (lenOf pd_15 rfl) rfl (by show 2 * 0 + _ ≤ _; exact Nat.le_of_eq rfl) (hb hby d_jdk_42m150_32) (fun _ _ => ⟨rfl, e_5, (by decide : 0 + 1 ≤ _), (by decide : 0 + 42 ≤ _)⟩)
  dsimp only [Pt.U, Pt.locs, Pt.cells, Pt.slots] at X_6 l_6 y_6 z_6 st_6 hQ_6
  subst l_6 y_6 z_6
  obtain ⟨e__6, ⟨kk__6, ⟨rfl, N_6q, Kc_6, pfsz_e_6, pfV_e_6⟩⟩⟩ := hQ_6
  have Z_6 : n0 ≤ T_6.heap.size := (Nat.le_trans Z_5 Kc_6.1)
  have K_6 : Keep h0 T_6.heap [a] := K_5.trans Kc_6 all0
  have sz_e__6 : h0.size ≤ e__6 := Nat.le_trans K_5.1 pfsz_e_6
  have g_e__6 : n0 ≤ e__6 := Nat.le_trans Z_5 pfsz_e_6
  have N_6 := Fr.app N_5 N_6q
  obtain ⟨T_7, h_7, X_7, e_7, W_7, st_7⟩ := putF X_6 hx hZ hown (host := "") (Or.inl (ow hw 44 rfl)) Via.refl rfl ((F_value_a.other W_5 (Or.inr (slot_ne (Or.inr (ow hw 45 rfl)) (Or.inr (ow hw 47 rfl)) (by decide) (t := (.array .byte)) (t' := .byte) (by decide) (by decide)))).keep Kc_6 nin0) ((E_a.wr W_5).keep Kc_6) (Or.inr ⟨(ow hw 45 rfl), rfl, hnm⟩) (ow hw 32 rfl) (ty := (.array .byte)) (by decide) rfl rfl (g := (mkF mM 35 #[.val (.ref a), .val (.ref b), .val .null, .val (.ref d), .val (.int (42 : Int32))] [(.ref e__6), (.ref a)])) rfl rfl (hb hby d_jdk_42m150_35)
  have Fw_7 := ((F_value_a.other W_5 (Or.inr (slot_ne (Or.inr (ow hw 45 rfl)) (Or.inr (ow hw 47 rfl)) (by decide) (t := (.array .byte)) (t' := .byte) (by decide) (by decide)))).keep Kc_6 nin0).same W_7
  have Z_7 : n0 ≤ h_7.size := (Nat.le_trans Z_6 (Keep.of_wr W_7).1)
  have K_7 : Keep h0 h_7 [a] := K_6.wr W_7 (Or.inl (List.mem_of_getElem? (i := 0) rfl))
  have N_7 := Fr.snoc X_7 N_6 g_a
  obtain ⟨fs, hr, hrun, hended, hW, hsame⟩ := X_7.leave (v := none) (fun _ => rfl)
  refine ⟨_, _, pre0 _ ?_, hrun, hended, _, _, rfl, ?_, ⟨_, rfl⟩, hW, hsame.mono (by decide) (by decide)⟩
  · show oS pP eE below s₁ (mkF mM 0 #[.val (.ref a), .val (.ref b), .val .null, .unset, .unset] []) _
    refine XS.aloadN X0.here hx rfl (hb hby d_jdk_42m150_0) rfl rfl ?_
    show oS pP eE below s₁ (mkF mM 1 #[.val (.ref a), .val (.ref b), .val .null, .unset, .unset] [(.ref a)]) _
    refine st_1 _ ?_
    show oS pP eE below T_1 (mkF mM 4 #[.val (.ref a), .val (.ref b), .val .null, .unset, .unset] []) _
    refine XS.aloadN X_1.here hx rfl (hb hby d_jdk_42m150_4) rfl rfl ?_
    show oS pP eE below T_1 (mkF mM 5 #[.val (.ref a), .val (.ref b), .val .null, .unset, .unset] [(.ref b)]) _
    refine st_2.trans ?_
    show oS pP eE below T_2 (mkF mM 8 #[.val (.ref a), .val (.ref b), .val .null, .unset, .unset] [(.ref d)]) _
    refine XS.astoreN X_2.here hx rfl (hb hby d_jdk_42m150_8) rfl rfl (l' := #[.val (.ref a), .val (.ref b), .val .null, .val (.ref d), .unset]) rfl ?_
    refine XS.aloadN X_2.here hx rfl (hb hby d_jdk_42m150_9) rfl rfl ?_
    show oS pP eE below T_2 (mkF mM 10 #[.val (.ref a), .val (.ref b), .val .null, .val (.ref d), .unset] [(.ref b)]) _
    refine st_3.trans ?_
    show oS pP eE below T_3 (mkF mM 13 #[.val (.ref a), .val (.ref b), .val .null, .val (.ref d), .unset] [(.int (42 : Int32))]) _
    refine XS.istore X_3.here hx rfl (hb hby d_jdk_42m150_13) rfl (l' := #[.val (.ref a), .val (.ref b), .val .null, .val (.ref d), .val (.int (42 : Int32))]) rfl ?_
    refine XS.aloadN X_3.here hx rfl (hb hby d_jdk_42m150_15) rfl rfl ?_
    show oS pP eE below T_3 (mkF mM 16 #[.val (.ref a), .val (.ref b), .val .null, .val (.ref d), .val (.int (42 : Int32))] [(.ref b)]) _
    refine st_4.trans ?_
    show oS pP eE below T_4 (mkF mM 19 #[.val (.ref a), .val (.ref b), .val .null, .val (.ref d), .val (.int (42 : Int32))] [(.int (1 : Int32))]) _
    refine XS.ifNo X_4.here hx rfl (hb hby d_jdk_42m150_19) rfl (by decide) ?_
    refine XS.aloadN X_4.here hx rfl (hb hby d_jdk_42m150_22) rfl rfl ?_
    refine XS.iconst X_4.here hx rfl (hb hby d_jdk_42m150_23) ?_
    show oS pP eE below T_4 (mkF mM 24 #[.val (.ref a), .val (.ref b), .val .null, .val (.ref d), .val (.int (42 : Int32))] [(.int (0 : Int32)), (.ref a)]) _
    refine st_5 _ ?_
    show oS pP eE below T_5 (mkF mM 27 #[.val (.ref a), .val (.ref b), .val .null, .val (.ref d), .val (.int (42 : Int32))] []) _
    refine XS.aloadN X_5.here hx rfl (hb hby d_jdk_42m150_27) rfl rfl ?_
    refine XS.aloadN X_5.here hx rfl (hb hby d_jdk_42m150_28) rfl rfl ?_
    refine XS.iconst X_5.here hx rfl (hb hby d_jdk_42m150_29) ?_
    refine XS.iload X_5.here hx rfl (hb hby d_jdk_42m150_30) rfl ?_
    show oS pP eE below T_5 (mkF mM 32 #[.val (.ref a), .val (.ref b), .val .null, .val (.ref d), .val (.int (42 : Int32))] [(.int (42 : Int32)), (.int (0 : Int32)), (.ref d), (.ref a)]) _
    refine st_6 _ ?_
    show oS pP eE below T_6 (mkF mM 35 #[.val (.ref a), .val (.ref b), .val .null, .val (.ref d), .val (.int (42 : Int32))] [(.ref e__6), (.ref a)]) _
    refine st_7 _ ?_
    show oS pP eE below T_7 (mkF mM 38 #[.val (.ref a), .val (.ref b), .val .null, .val (.ref d), .val (.int (42 : Int32))] []) _
    refine XS.goto X_7.here hx rfl (pc0 := 38) (pc' := 97) rfl (hb hby d_jdk_42m150_38) (by decide) (by decide) ?_
    show oS pP eE below T_7 (mkF mM 97 #[.val (.ref a), .val (.ref b), .val .null, .val (.ref d), .val (.int (42 : Int32))] []) _
    exact X_7.returnOut hx Bd.returns (hb hby d_jdk_42m150_97) hr
  · show Q_si2 Z a b d k cs x0 h0 n0 _ T_7.heap _
    rw [e_7]
    exact ⟨e__6, kk__6, rfl, N_7, K_7, sz_e__6, (((E_a.wr W_5).keep Kc_6).wr W_7), Fw_7, ((Fw_5.keep Kc_6 nin0).other W_7 (Or.inr (slot_ne (Or.inr (ow hw 47 rfl)) (Or.inr (ow hw 45 rfl)) (by decide) (t := .byte) (t' := (.array .byte)) (by decide) (by decide)))), (pfV_e_6.other W_7 (Ne.symm (Nat.ne_of_lt (Nat.lt_of_lt_of_le (E_a.wr W_5).lt pfsz_e_6))))⟩
theorem d_jdk_42m53_0 : decode jdk_42_method_53_code 0 = .ok (.aload_n 0, 1) := by decide +kernel
theorem d_jdk_42m53_1 : decode jdk_42_method_53_code 1 = .ok (.aload_n 1, 1) := by decide +kernel
theorem d_jdk_42m53_2 : decode jdk_42_method_53_code 2 = .ok (.aconst_null, 1) := by decide +kernel
theorem d_jdk_42m53_3 : decode jdk_42_method_53_code 3 = .ok (.invokespecial 489, 3) := by decide +kernel
theorem pd_18 : parseMethodDescriptor "(Ljava/lang/AbstractStringBuilder;Ljava/lang/Void;)V" = some ⟨[(.object "java/lang/AbstractStringBuilder"), (.object "java/lang/Void")], none⟩ := by decide +kernel
abbrev MN23 : MethodName := ⟨"java/lang/String", "<init>", "(Ljava/lang/AbstractStringBuilder;Ljava/lang/Void;)V"⟩
theorem d_jdk_42m53_6 : decode jdk_42_method_53_code 6 = .ok (.return_, 1) := by decide +kernel
theorem ef_si1 (mM : MethodId) (x0 : Addr) (x1 : Addr) : entryFrame mM #[(.ref x0), (.ref x1)] 2 = mkF mM 0 #[.val (.ref x0), .val (.ref x1)] [] := by first | (simp [entryFrame, mkF, argsToLocals, Value.category]; done) | rfl
def Q_si1 (Z : State) (a : Addr) (b : Addr) (d : Addr) (k : ClassId) (cs : Int32) (x0 : Int32) (h0 : Heap) (n0 : Nat) (v_ : Option Value) (h_ : Heap) (L_ : List Loc) : Prop := ∃ e : Addr, ∃ kk : ClassId, v_ = none ∧ Fr n0 L_ ∧ Keep h0 h_ [a] ∧ h0.size ≤ e ∧ Exa Z h_ a "java/lang/String" ∧ Fld Z h_ a "java/lang/String" "value" "[B" (.ref e) ∧ Fld Z h_ a "java/lang/String" "coder" "B" (.int (0 : Int32)) ∧ Arv Z h_ e kk .byte (42 : Int32) [(.int (83 : Int32)), (.int (69 : Int32)), (.int (84 : Int32)), (.int (32 : Int32)), (.int (83 : Int32)), (.int (84 : Int32)), (.int (65 : Int32)), (.int (84 : Int32)), (.int (69 : Int32)), (.int (77 : Int32)), (.int (69 : Int32)), (.int (78 : Int32)), (.int (84 : Int32)), (.int (32 : Int32)), (.int (102 : Int32)), (.int (111 : Int32)), (.int (114 : Int32)), (.int (101 : Int32)), (.int (105 : Int32)), (.int (103 : Int32)), (.int (110 : Int32)), (.int (95 : Int32)), (.int (107 : Int32)), (.int (101 : Int32)), (.int (121 : Int32)), (.int (95 : Int32)), (.int (99 : Int32)), (.int (104 : Int32)), (.int (101 : Int32)), (.int (99 : Int32)), (.int (107 : Int32)), (.int (115 : Int32)), (.int (32 : Int32)), (.int (61 : Int32)), (.int (32 : Int32)), (.int (48 : Int32)), (.int (32 : Int32)), (.int (70 : Int32)), (.int (79 : Int32)), (.int (82 : Int32)), (.int (32 : Int32)), (.int x0)] (.int (0 : Int32))
set_option maxRecDepth 65536 in
set_option maxHeartbeats 40000000 in
theorem rm_si1 (l : Launch) (Z : State) (a0 : Array Value) (hw : ∀ d ∈ tables_1, d.before a0 Z = true) (ws : List Jvm.Cond) (a : Addr) (b : Addr) (d : Addr) (k : ClassId) (cs : Int32) (x0 : Int32) (h0 : Heap) (n0 : Nat) (Z0 : n0 ≤ h0.size) (F_value_a : Fld Z h0 a "java/lang/String" "value" "[B" .null) (F_coder_a : Fld Z h0 a "java/lang/String" "coder" "B" (.int (0 : Int32))) (E_a : Exa Z h0 a "java/lang/String") (g_a : n0 ≤ a) (F_value_b : Fld Z h0 b "java/lang/AbstractStringBuilder" "value" "[B" (.ref d)) (F_coder_b : Fld Z h0 b "java/lang/AbstractStringBuilder" "coder" "B" (.int (0 : Int32))) (F_count_b : Fld Z h0 b "java/lang/AbstractStringBuilder" "count" "I" (.int (42 : Int32))) (E_b : Exa Z h0 b "java/lang/StringBuilder") (V_d : Arv Z h0 d k .byte (84 : Int32) [(.int (83 : Int32)), (.int (69 : Int32)), (.int (84 : Int32)), (.int (32 : Int32)), (.int (83 : Int32)), (.int (84 : Int32)), (.int (65 : Int32)), (.int (84 : Int32)), (.int (69 : Int32)), (.int (77 : Int32)), (.int (69 : Int32)), (.int (78 : Int32)), (.int (84 : Int32)), (.int (32 : Int32)), (.int (102 : Int32)), (.int (111 : Int32)), (.int (114 : Int32)), (.int (101 : Int32)), (.int (105 : Int32)), (.int (103 : Int32)), (.int (110 : Int32)), (.int (95 : Int32)), (.int (107 : Int32)), (.int (101 : Int32)), (.int (121 : Int32)), (.int (95 : Int32)), (.int (99 : Int32)), (.int (104 : Int32)), (.int (101 : Int32)), (.int (99 : Int32)), (.int (107 : Int32)), (.int (115 : Int32)), (.int (32 : Int32)), (.int (61 : Int32)), (.int (32 : Int32)), (.int (48 : Int32)), (.int (32 : Int32)), (.int (70 : Int32)), (.int (79 : Int32)), (.int (82 : Int32)), (.int (32 : Int32)), (.int x0), (.int (0 : Int32)), (.int (0 : Int32)), (.int (0 : Int32)), (.int (0 : Int32)), (.int (0 : Int32)), (.int (0 : Int32)), (.int (0 : Int32)), (.int (0 : Int32)), (.int (0 : Int32)), (.int (0 : Int32)), (.int (0 : Int32)), (.int (0 : Int32)), (.int (0 : Int32)), (.int (0 : Int32)), (.int (0 : Int32)), (.int (0 : Int32)), (.int (0 : Int32)), (.int (0 : Int32)), (.int (0 : Int32)), (.int (0 : Int32)), (.int (0 : Int32)), (.int (0 : Int32)), (.int (0 : Int32)), (.int (0 : Int32)), (.int (0 : Int32)), (.int (0 : Int32)), (.int (0 : Int32)), (.int (0 : Int32)), (.int (0 : Int32)), (.int (0 : Int32)), (.int (0 : Int32)), (.int (0 : Int32)), (.int (0 : Int32)), (.int (0 : Int32)), (.int (0 : Int32)), (.int (0 : Int32)), (.int (0 : Int32)), (.int (0 : Int32)), (.int (0 : Int32)), (.int (0 : Int32)), (.int (0 : Int32)), (.int (0 : Int32))] (.int (0 : Int32))) (S_String_COMPACT_STRINGS : Sta Z h0 "java/lang/String" "COMPACT_STRINGS" "Z" (.int cs)) (hcs : ¬ cs = 0) (nab : a ≠ b) (nad : a ≠ d) :
    MetFree l (⟨"java/lang/String", "<init>", "(Ljava/lang/StringBuilder;)V"⟩ : MethodName) (head1 (Jvm.Cond.code (⟨"java/lang/String", "<init>", "(Ljava/lang/StringBuilder;)V"⟩ : MethodName) jdk_42_method_53_code 2 none :: ws) ({ frames := 4, cells := 1, slots := 42, locals := 65 } : Room)) (fun aa_ U_ => aa_ = #[(.ref a), (.ref b)] ∧ Z.Warmed39 U_.vm ∧ U_.heap = h0) (fun _ _ _ _ _ => True) (fun _ U_ o_ U'_ => ∃ v_ L_, o_ = .returned v_ ∧ Q_si1 Z a b d k cs x0 h0 n0 v_ U'_.heap L_ ∧ FrameEnd U_ o_ U'_ L_ ({ frames := 4, cells := 1, slots := 42, locals := 65 } : Room).cells ({ frames := 4, cells := 1, slots := 42, locals := 65 } : Room).slots) := by
  refine MetFree.of_bodySF (plainFor_of_name pn_2) hisR ?_
  intro pP eE sS mM argsA below meth cC s₁ Bd hml0 hP hK
  obtain ⟨rfl, hZ, hh⟩ := hP
  have hx := Bd.exec
  have hby := Bd.bytes
  have hml : cC.maxLocals = 2 := hml0
  have hown : sS.vm.findClass "java/lang/String" = some mM.cls := findClass_of_methodNamed Bd.named
  have hnm := (name_of_methodNamed Bd.named Bd.method).1
  have X0 : Stand pP l eE ({ frames := 4, cells := 1, slots := 42, locals := 65 } : Room) sS mM #[(.ref a), (.ref b)] below meth cC s₁ [] 0 0 := Stand.of_body Bd
  have e0 : s₁.heap = h0 := by rw [← hh, Bd.state]; rfl
  have N0 := Fr.nil n0
  have pre0 : ∀ t_, Steps pP.tables eE below (s₁.setTop (mkF mM 0 #[.val (.ref a), .val (.ref b)] [])) t_ → Steps pP.tables eE below (s₁.setTop (entryFrame mM #[(.ref a), (.ref b)] 2)) t_ := fun t_ k_ => castTop (ef_si1 mM a b) k_
  obtain ⟨_, _, ⟨T_1, L_1, k_1, n_1⟩, -, X_1, ⟨Lc_1, hQ_1, l_1, y_1, z_1⟩, st_1⟩ := X0.specialBack hx (y := MN23) rfl hown (mvT hZ (ow hw 150 rfl)) (mvT hZ (ow hw 151 rfl)) (mvT hZ (ow hw 152 rfl)) (by decide) (backOf (W := 0) (rm_si2 l Z a0 hw [] a b d k cs x0 h0 n0 Z0 F_value_a F_coder_a E_a g_a F_value_b F_coder_b F_count_b E_b V_d S_String_COMPACT_STRINGS hcs nab nad) hZ (ow hw 152 rfl) (ow hw 24 rfl) (by decide) (by decide)) (g := (mkF mM 3 #[.val (.ref a), .val (.ref b)] [.null, (.ref b), (.ref a)])) rfl (by rw [hml]; rfl) (Steps.refl _) (a := a) (argsL := [(.ref b), .null]) (rest := []) (lenOf pd_18 rfl) rfl (by show 2 * 0 + _ ≤ _; exact Nat.le_of_eq rfl) (hb hby d_jdk_42m53_3) (fun _ _ => ⟨rfl, e0, (by decide : 0 + 1 ≤ _), (by decide : 0 + 42 ≤ _)⟩)
  dsimp only [Pt.U, Pt.locs, Pt.cells, Pt.slots] at X_1 l_1 y_1 z_1 st_1 hQ_1
  subst l_1 y_1 z_1
  obtain ⟨e__1, ⟨kk__1, ⟨rfl, N_1q, Kc_1, pfsz_e_1, pfE_a_1, pfF_value_a_1, pfF_coder_a_1, pfV_e_1⟩⟩⟩ := hQ_1
  have Z_1 : n0 ≤ T_1.heap.size := (Nat.le_trans Z0 Kc_1.1)
  have K_1 : Keep h0 T_1.heap [a] := (Keep.refl h0 [a]).trans Kc_1 (allS (Or.inl (List.mem_of_getElem? (i := 0) rfl)) all0)
  have sz_e__1 : h0.size ≤ e__1 := Nat.le_trans (Keep.refl h0 [a]).1 pfsz_e_1
  have g_e__1 : n0 ≤ e__1 := Nat.le_trans Z0 pfsz_e_1
  have N_1 := Fr.app N0 N_1q
  obtain ⟨fs, hr, hrun, hended, hW, hsame⟩ := X_1.leave (v := none) (fun _ => rfl)
  refine ⟨_, _, pre0 _ ?_, hrun, hended, _, _, rfl, ?_, ⟨_, rfl⟩, hW, hsame.mono (by decide) (by decide)⟩
  · show oS pP eE below s₁ (mkF mM 0 #[.val (.ref a), .val (.ref b)] []) _
    refine XS.aloadN X0.here hx rfl (hb hby d_jdk_42m53_0) rfl rfl ?_
    refine XS.aloadN X0.here hx rfl (hb hby d_jdk_42m53_1) rfl rfl ?_
    refine XS.aconstNull X0.here hx rfl (hb hby d_jdk_42m53_2) ?_
    show oS pP eE below s₁ (mkF mM 3 #[.val (.ref a), .val (.ref b)] [.null, (.ref b), (.ref a)]) _
    refine st_1.trans ?_
    show oS pP eE below T_1 (mkF mM 6 #[.val (.ref a), .val (.ref b)] []) _
    exact X_1.returnOut hx Bd.returns (hb hby d_jdk_42m53_6) hr
  · show Q_si1 Z a b d k cs x0 h0 n0 _ T_1.heap _
    exact ⟨e__1, kk__1, rfl, N_1, K_1, sz_e__1, pfE_a_1, pfF_value_a_1, pfF_coder_a_1, pfV_e_1⟩
theorem d_jdk_67m42_0 : decode jdk_67_method_42_code 0 = .ok (.new 18, 3) := by decide +kernel
theorem d_jdk_67m42_3 : decode jdk_67_method_42_code 3 = .ok (.dup, 1) := by decide +kernel
theorem d_jdk_67m42_4 : decode jdk_67_method_42_code 4 = .ok (.aload_n 0, 1) := by decide +kernel
theorem d_jdk_67m42_5 : decode jdk_67_method_42_code 5 = .ok (.invokespecial 137, 3) := by decide +kernel
theorem pd_19 : parseMethodDescriptor "(Ljava/lang/StringBuilder;)V" = some ⟨[(.object "java/lang/StringBuilder")], none⟩ := by decide +kernel
abbrev MN24 : MethodName := ⟨"java/lang/String", "<init>", "(Ljava/lang/StringBuilder;)V"⟩
theorem d_jdk_67m42_8 : decode jdk_67_method_42_code 8 = .ok (.areturn, 1) := by decide +kernel
theorem ef_tos (mM : MethodId) (x0 : Addr) : entryFrame mM #[(.ref x0)] 1 = mkF mM 0 #[.val (.ref x0)] [] := by first | (simp [entryFrame, mkF, argsToLocals, Value.category]; done) | rfl
def Q_tos (Z : State) (a : Addr) (d : Addr) (k : ClassId) (cs : Int32) (x0 : Int32) (h0 : Heap) (n0 : Nat) (v_ : Option Value) (h_ : Heap) (L_ : List Loc) : Prop := ∃ r : Addr, ∃ e : Addr, ∃ kk : ClassId, v_ = some (.ref r) ∧ Fr n0 L_ ∧ Keep h0 h_ [] ∧ h0.size ≤ r ∧ h0.size ≤ e ∧ Exa Z h_ r "java/lang/String" ∧ Fld Z h_ r "java/lang/String" "value" "[B" (.ref e) ∧ Fld Z h_ r "java/lang/String" "coder" "B" (.int (0 : Int32)) ∧ Arv Z h_ e kk .byte (42 : Int32) [(.int (83 : Int32)), (.int (69 : Int32)), (.int (84 : Int32)), (.int (32 : Int32)), (.int (83 : Int32)), (.int (84 : Int32)), (.int (65 : Int32)), (.int (84 : Int32)), (.int (69 : Int32)), (.int (77 : Int32)), (.int (69 : Int32)), (.int (78 : Int32)), (.int (84 : Int32)), (.int (32 : Int32)), (.int (102 : Int32)), (.int (111 : Int32)), (.int (114 : Int32)), (.int (101 : Int32)), (.int (105 : Int32)), (.int (103 : Int32)), (.int (110 : Int32)), (.int (95 : Int32)), (.int (107 : Int32)), (.int (101 : Int32)), (.int (121 : Int32)), (.int (95 : Int32)), (.int (99 : Int32)), (.int (104 : Int32)), (.int (101 : Int32)), (.int (99 : Int32)), (.int (107 : Int32)), (.int (115 : Int32)), (.int (32 : Int32)), (.int (61 : Int32)), (.int (32 : Int32)), (.int (48 : Int32)), (.int (32 : Int32)), (.int (70 : Int32)), (.int (79 : Int32)), (.int (82 : Int32)), (.int (32 : Int32)), (.int x0)] (.int (0 : Int32))
set_option maxRecDepth 65536 in
set_option maxHeartbeats 40000000 in
theorem rm_tos (l : Launch) (Z : State) (a0 : Array Value) (hw : ∀ d ∈ tables_1, d.before a0 Z = true) (ws : List Jvm.Cond) (a : Addr) (d : Addr) (k : ClassId) (cs : Int32) (x0 : Int32) (h0 : Heap) (n0 : Nat) (Z0 : n0 ≤ h0.size) (F_value_a : Fld Z h0 a "java/lang/AbstractStringBuilder" "value" "[B" (.ref d)) (F_coder_a : Fld Z h0 a "java/lang/AbstractStringBuilder" "coder" "B" (.int (0 : Int32))) (F_count_a : Fld Z h0 a "java/lang/AbstractStringBuilder" "count" "I" (.int (42 : Int32))) (E_a : Exa Z h0 a "java/lang/StringBuilder") (V_d : Arv Z h0 d k .byte (84 : Int32) [(.int (83 : Int32)), (.int (69 : Int32)), (.int (84 : Int32)), (.int (32 : Int32)), (.int (83 : Int32)), (.int (84 : Int32)), (.int (65 : Int32)), (.int (84 : Int32)), (.int (69 : Int32)), (.int (77 : Int32)), (.int (69 : Int32)), (.int (78 : Int32)), (.int (84 : Int32)), (.int (32 : Int32)), (.int (102 : Int32)), (.int (111 : Int32)), (.int (114 : Int32)), (.int (101 : Int32)), (.int (105 : Int32)), (.int (103 : Int32)), (.int (110 : Int32)), (.int (95 : Int32)), (.int (107 : Int32)), (.int (101 : Int32)), (.int (121 : Int32)), (.int (95 : Int32)), (.int (99 : Int32)), (.int (104 : Int32)), (.int (101 : Int32)), (.int (99 : Int32)), (.int (107 : Int32)), (.int (115 : Int32)), (.int (32 : Int32)), (.int (61 : Int32)), (.int (32 : Int32)), (.int (48 : Int32)), (.int (32 : Int32)), (.int (70 : Int32)), (.int (79 : Int32)), (.int (82 : Int32)), (.int (32 : Int32)), (.int x0), (.int (0 : Int32)), (.int (0 : Int32)), (.int (0 : Int32)), (.int (0 : Int32)), (.int (0 : Int32)), (.int (0 : Int32)), (.int (0 : Int32)), (.int (0 : Int32)), (.int (0 : Int32)), (.int (0 : Int32)), (.int (0 : Int32)), (.int (0 : Int32)), (.int (0 : Int32)), (.int (0 : Int32)), (.int (0 : Int32)), (.int (0 : Int32)), (.int (0 : Int32)), (.int (0 : Int32)), (.int (0 : Int32)), (.int (0 : Int32)), (.int (0 : Int32)), (.int (0 : Int32)), (.int (0 : Int32)), (.int (0 : Int32)), (.int (0 : Int32)), (.int (0 : Int32)), (.int (0 : Int32)), (.int (0 : Int32)), (.int (0 : Int32)), (.int (0 : Int32)), (.int (0 : Int32)), (.int (0 : Int32)), (.int (0 : Int32)), (.int (0 : Int32)), (.int (0 : Int32)), (.int (0 : Int32)), (.int (0 : Int32)), (.int (0 : Int32)), (.int (0 : Int32)), (.int (0 : Int32)), (.int (0 : Int32)), (.int (0 : Int32))] (.int (0 : Int32))) (S_String_COMPACT_STRINGS : Sta Z h0 "java/lang/String" "COMPACT_STRINGS" "Z" (.int cs)) (hcs : ¬ cs = 0) :
    MetFree l (⟨"java/lang/StringBuilder", "toString", "()Ljava/lang/String;"⟩ : MethodName) (head1 (Jvm.Cond.code (⟨"java/lang/StringBuilder", "toString", "()Ljava/lang/String;"⟩ : MethodName) jdk_67_method_42_code 1 (some (.object "java/lang/String")) :: ws) ({ frames := 5, cells := 2, slots := 46, locals := 79 } : Room)) (fun aa_ U_ => aa_ = #[(.ref a)] ∧ Z.Warmed39 U_.vm ∧ U_.heap = h0) (fun _ _ _ _ _ => True) (fun _ U_ o_ U'_ => ∃ v_ L_, o_ = .returned v_ ∧ Q_tos Z a d k cs x0 h0 n0 v_ U'_.heap L_ ∧ FrameEnd U_ o_ U'_ L_ ({ frames := 5, cells := 2, slots := 46, locals := 79 } : Room).cells ({ frames := 5, cells := 2, slots := 46, locals := 79 } : Room).slots) := by
  refine MetFree.of_bodySF (plainFor_of_name pn_4) hisR ?_
  intro pP eE sS mM argsA below meth cC s₁ Bd hml0 hP hK
  obtain ⟨rfl, hZ, hh⟩ := hP
  have hx := Bd.exec
  have hby := Bd.bytes
  have hml : cC.maxLocals = 1 := hml0
  have hown : sS.vm.findClass "java/lang/StringBuilder" = some mM.cls := findClass_of_methodNamed Bd.named
  have hnm := (name_of_methodNamed Bd.named Bd.method).1
  have X0 : Stand pP l eE ({ frames := 5, cells := 2, slots := 46, locals := 79 } : Room) sS mM #[(.ref a)] below meth cC s₁ [] 0 0 := Stand.of_body Bd
  have e0 : s₁.heap = h0 := by rw [← hh, Bd.state]; rfl
  have N0 := Fr.nil n0
  have pre0 : ∀ t_, Steps pP.tables eE below (s₁.setTop (mkF mM 0 #[.val (.ref a)] [])) t_ → Steps pP.tables eE below (s₁.setTop (entryFrame mM #[(.ref a)] 1)) t_ := fun t_ k_ => castTop (ef_tos mM a) k_
  obtain ⟨T_1, h_1, X_1, e_1, E_1, A_1, D_1, -, st_1⟩ := newO X0 hx hZ hown (ow hw 146 rfl) (ow hw 32 rfl) (ow hw 24 rfl) e0 (g := (mkF mM 0 #[.val (.ref a)] [])) rfl (hb hby d_jdk_67m42_0) (by decide) (by decide)
  obtain ⟨b_1, g_1⟩ : ∃ z, z = h0.size := ⟨_, rfl⟩
  rw [← g_1] at A_1 D_1 st_1
  have g_b_1 : n0 ≤ b_1 := Nat.le_trans Z0 (Nat.le_of_eq g_1.symm)
  have sz_b_1 : h0.size ≤ b_1 := Nat.le_trans (Keep.refl h0 []).1 (Nat.le_of_eq g_1.symm)
  have Z_1 : n0 ≤ h_1.size := (Nat.le_trans Z0 E_1.1)
  have K_1 : Keep h0 h_1 [] := (Keep.refl h0 []).ext E_1
  have F_value_b_1__1 : Fld Z h_1 b_1 "java/lang/String" "value" "[B" .null := D_1 (Or.inr (ow hw 45 rfl)) (ty := (.array .byte)) (by decide)
  have F_coder_b_1__1 : Fld Z h_1 b_1 "java/lang/String" "coder" "B" (.int (0 : Int32)) := D_1 (Or.inr (ow hw 47 rfl)) (ty := .byte) (by decide)
  obtain ⟨_, _, ⟨T_2, L_2, k_2, n_2⟩, -, X_2, ⟨Lc_2, hQ_2, l_2, y_2, z_2⟩, st_2⟩ := X_1.specialBack hx (y := MN24) rfl hown (mvT hZ (ow hw 147 rfl)) (mvT hZ (ow hw 148 rfl)) (mvT hZ (ow hw 149 rfl)) (by decide) (backOf (W := 1) (rm_si1 l Z a0 hw [] b_1 a d k cs x0 h_1 n0 Z_1 F_value_b_1__1 F_coder_b_1__1 A_1 g_b_1 (F_value_a.ext E_1) (F_coder_a.ext E_1) (F_count_a.ext E_1) (E_a.ext E_1) (V_d.ext E_1) (S_String_COMPACT_STRINGS.ext E_1) hcs (Ne.symm (Nat.ne_of_lt (Nat.lt_of_lt_of_le E_a.lt (Nat.le_of_eq g_1.symm)))) (Ne.symm (Nat.ne_of_lt (Nat.lt_of_lt_of_le V_d.lt (Nat.le_of_eq g_1.symm))))) hZ (ow hw 149 rfl) (ow hw 24 rfl) (by decide) (by decide)) (g := (mkF mM 5 #[.val (.ref a)] [(.ref a), (.ref b_1), (.ref b_1)])) rfl (by rw [hml]; rfl) (Steps.refl _) (a := b_1) (argsL := [(.ref a)]) (rest := [(.ref b_1)]) (lenOf pd_19 rfl) rfl (by show 2 * 0 + _ ≤ _; exact Nat.le_of_eq rfl) (hb hby d_jdk_67m42_5) (fun _ _ => ⟨rfl, e_1, (by decide : 1 + 1 ≤ _), (by decide : 4 + 42 ≤ _)⟩)
  dsimp only [Pt.U, Pt.locs, Pt.cells, Pt.slots] at X_2 l_2 y_2 z_2 st_2 hQ_2
  subst l_2 y_2 z_2
  obtain ⟨e__2, ⟨kk__2, ⟨rfl, N_2q, Kc_2, pfsz_e_2, pfE_a_2, pfF_value_a_2, pfF_coder_a_2, pfV_e_2⟩⟩⟩ := hQ_2
  have Z_2 : n0 ≤ T_2.heap.size := (Nat.le_trans Z_1 Kc_2.1)
  have K_2 : Keep h0 T_2.heap [] := K_1.trans Kc_2 (allS (Or.inr sz_b_1) all0)
  have sz_e__2 : h0.size ≤ e__2 := Nat.le_trans K_1.1 pfsz_e_2
  have g_e__2 : n0 ≤ e__2 := Nat.le_trans Z_1 pfsz_e_2
  have N_2 := Fr.app N0 N_2q
  obtain ⟨fs, hr, hrun, hended, hW, hsame⟩ := X_2.leave (v := some (.ref b_1)) (fun h => by rw [Bd.returns] at h; cases h)
  refine ⟨_, _, pre0 _ ?_, hrun, hended, _, _, rfl, ?_, ⟨_, rfl⟩, hW, hsame.mono (by decide) (by decide)⟩
  · show oS pP eE below s₁ (mkF mM 0 #[.val (.ref a)] []) _
    refine st_1 _ ?_
    show oS pP eE below T_1 (mkF mM 3 #[.val (.ref a)] [(.ref b_1)]) _
    refine XS.dup X_1.here hx rfl (hb hby d_jdk_67m42_3) rfl rfl ?_
    refine XS.aloadN X_1.here hx rfl (hb hby d_jdk_67m42_4) rfl rfl ?_
    show oS pP eE below T_1 (mkF mM 5 #[.val (.ref a)] [(.ref a), (.ref b_1), (.ref b_1)]) _
    refine st_2.trans ?_
    show oS pP eE below T_2 (mkF mM 8 #[.val (.ref a)] [(.ref b_1)]) _
    exact retOut X_2 hx Bd.returns rfl (Or.inr (Or.inr (Or.inr (Or.inr ⟨rfl, rfl, rfl⟩)))) (hb hby d_jdk_67m42_8) hr
  · show Q_tos Z a d k cs x0 h0 n0 _ T_2.heap _
    exact ⟨b_1, e__2, kk__2, rfl, N_2, K_2, sz_b_1, sz_e__2, pfE_a_2, pfF_value_a_2, pfF_coder_a_2, pfV_e_2⟩
theorem d_prog_18m13_0 : decode prog_18_method_13_code 0 = .ok (.new 83, 3) := by decide +kernel
theorem d_prog_18m13_3 : decode prog_18_method_13_code 3 = .ok (.dup, 1) := by decide +kernel
theorem d_prog_18m13_4 : decode prog_18_method_13_code 4 = .ok (.invokespecial 85, 3) := by decide +kernel
theorem pd_20 : parseMethodDescriptor "()V" = some ⟨[], none⟩ := by decide +kernel
abbrev MN25 : MethodName := ⟨"java/lang/StringBuilder", "<init>", "()V"⟩
theorem d_prog_18m13_7 : decode prog_18_method_13_code 7 = .ok (.aload_n 0, 1) := by decide +kernel
theorem d_prog_18m13_8 : decode prog_18_method_13_code 8 = .ok (.getfield 64, 3) := by decide +kernel
theorem d_prog_18m13_11 : decode prog_18_method_13_code 11 = .ok (.invokevirtual 90, 3) := by decide +kernel
theorem pd_21 : parseMethodDescriptor "(Ljava/lang/String;)Ljava/lang/StringBuilder;" = some ⟨[(.object "java/lang/String")], some (.object "java/lang/StringBuilder")⟩ := by decide +kernel
abbrev MN26 : MethodName := ⟨"java/lang/StringBuilder", "append", "(Ljava/lang/String;)Ljava/lang/StringBuilder;"⟩
theorem d_prog_18m13_14 : decode prog_18_method_13_code 14 = .ok (.aload_n 1, 1) := by decide +kernel
theorem d_prog_18m13_15 : decode prog_18_method_13_code 15 = .ok (.invokevirtual 90, 3) := by decide +kernel
theorem d_prog_18m13_18 : decode prog_18_method_13_code 18 = .ok (.invokevirtual 100, 3) := by decide +kernel
theorem pd_22 : parseMethodDescriptor "()Ljava/lang/String;" = some ⟨[], some (.object "java/lang/String")⟩ := by decide +kernel
abbrev MN27 : MethodName := ⟨"java/lang/StringBuilder", "toString", "()Ljava/lang/String;"⟩
theorem d_prog_18m13_21 : decode prog_18_method_13_code 21 = .ok (.areturn, 1) := by decide +kernel
theorem ef_wfk (mM : MethodId) (x0 : Addr) (x1 : Addr) : entryFrame mM #[(.ref x0), (.ref x1)] 2 = mkF mM 0 #[.val (.ref x0), .val (.ref x1)] [] := by first | (simp [entryFrame, mkF, argsToLocals, Value.category]; done) | rfl
def Q_wfk (Z : State) (dd : Addr) (t : Addr) (tv : Addr) (kt : ClassId) (u : Addr) (uv : Addr) (ku : ClassId) (cs : Int32) (x0 : Int32) (h0 : Heap) (n0 : Nat) (v_ : Option Value) (h_ : Heap) (L_ : List Loc) : Prop := ∃ r : Addr, ∃ e : Addr, ∃ kk : ClassId, v_ = some (.ref r) ∧ Fr n0 L_ ∧ Keep h0 h_ [] ∧ h0.size ≤ r ∧ h0.size ≤ e ∧ Exa Z h_ r "java/lang/String" ∧ Fld Z h_ r "java/lang/String" "value" "[B" (.ref e) ∧ Fld Z h_ r "java/lang/String" "coder" "B" (.int (0 : Int32)) ∧ Arv Z h_ e kk .byte (42 : Int32) [(.int (83 : Int32)), (.int (69 : Int32)), (.int (84 : Int32)), (.int (32 : Int32)), (.int (83 : Int32)), (.int (84 : Int32)), (.int (65 : Int32)), (.int (84 : Int32)), (.int (69 : Int32)), (.int (77 : Int32)), (.int (69 : Int32)), (.int (78 : Int32)), (.int (84 : Int32)), (.int (32 : Int32)), (.int (102 : Int32)), (.int (111 : Int32)), (.int (114 : Int32)), (.int (101 : Int32)), (.int (105 : Int32)), (.int (103 : Int32)), (.int (110 : Int32)), (.int (95 : Int32)), (.int (107 : Int32)), (.int (101 : Int32)), (.int (121 : Int32)), (.int (95 : Int32)), (.int (99 : Int32)), (.int (104 : Int32)), (.int (101 : Int32)), (.int (99 : Int32)), (.int (107 : Int32)), (.int (115 : Int32)), (.int (32 : Int32)), (.int (61 : Int32)), (.int (32 : Int32)), (.int (48 : Int32)), (.int (32 : Int32)), (.int (70 : Int32)), (.int (79 : Int32)), (.int (82 : Int32)), (.int (32 : Int32)), (.int x0)] (.int (0 : Int32))
set_option maxRecDepth 65536 in
set_option maxHeartbeats 40000000 in
theorem rm_wfk (l : Launch) (Z : State) (a0 : Array Value) (hw : ∀ d ∈ tables_1, d.before a0 Z = true) (ws : List Jvm.Cond) (dd : Addr) (t : Addr) (tv : Addr) (kt : ClassId) (u : Addr) (uv : Addr) (ku : ClassId) (cs : Int32) (x0 : Int32) (h0 : Heap) (n0 : Nat) (Z0 : n0 ≤ h0.size) (F_uncheckedPrefix_dd : Fld Z h0 dd "com/example/casebook/casebook/database/Dialect" "uncheckedPrefix" "Ljava/lang/String;" (.ref u)) (F_value_u : Fld Z h0 u "java/lang/String" "value" "[B" (.ref uv)) (F_coder_u : Fld Z h0 u "java/lang/String" "coder" "B" (.int (0 : Int32))) (E_u : Exa Z h0 u "java/lang/String") (V_uv : Arv Z h0 uv ku .byte (41 : Int32) [(.int (83 : Int32)), (.int (69 : Int32)), (.int (84 : Int32)), (.int (32 : Int32)), (.int (83 : Int32)), (.int (84 : Int32)), (.int (65 : Int32)), (.int (84 : Int32)), (.int (69 : Int32)), (.int (77 : Int32)), (.int (69 : Int32)), (.int (78 : Int32)), (.int (84 : Int32)), (.int (32 : Int32)), (.int (102 : Int32)), (.int (111 : Int32)), (.int (114 : Int32)), (.int (101 : Int32)), (.int (105 : Int32)), (.int (103 : Int32)), (.int (110 : Int32)), (.int (95 : Int32)), (.int (107 : Int32)), (.int (101 : Int32)), (.int (121 : Int32)), (.int (95 : Int32)), (.int (99 : Int32)), (.int (104 : Int32)), (.int (101 : Int32)), (.int (99 : Int32)), (.int (107 : Int32)), (.int (115 : Int32)), (.int (32 : Int32)), (.int (61 : Int32)), (.int (32 : Int32)), (.int (48 : Int32)), (.int (32 : Int32)), (.int (70 : Int32)), (.int (79 : Int32)), (.int (82 : Int32)), (.int (32 : Int32))] (.int (0 : Int32))) (F_value_t : Fld Z h0 t "java/lang/String" "value" "[B" (.ref tv)) (F_coder_t : Fld Z h0 t "java/lang/String" "coder" "B" (.int (0 : Int32))) (E_t : Exa Z h0 t "java/lang/String") (V_tv : Arv Z h0 tv kt .byte (1 : Int32) [(.int x0)] (.int (0 : Int32))) (S_String_COMPACT_STRINGS : Sta Z h0 "java/lang/String" "COMPACT_STRINGS" "Z" (.int cs)) (hcs : ¬ cs = 0) :
    MetFree l (⟨"com/example/casebook/casebook/database/Dialect", "withoutForeignKeyChecks", "(Ljava/lang/String;)Ljava/lang/String;"⟩ : MethodName) (head1 (Jvm.Cond.code (⟨"com/example/casebook/casebook/database/Dialect", "withoutForeignKeyChecks", "(Ljava/lang/String;)Ljava/lang/String;"⟩ : MethodName) prog_18_method_13_code 2 (some (.object "java/lang/String")) :: ws) ({ frames := 6, cells := 6, slots := 191, locals := 91 } : Room)) (fun aa_ U_ => aa_ = #[(.ref dd), (.ref t)] ∧ Z.Warmed39 U_.vm ∧ U_.heap = h0) (fun _ _ _ _ _ => True) (fun _ U_ o_ U'_ => ∃ v_ L_, o_ = .returned v_ ∧ Q_wfk Z dd t tv kt u uv ku cs x0 h0 n0 v_ U'_.heap L_ ∧ FrameEnd U_ o_ U'_ L_ ({ frames := 6, cells := 6, slots := 191, locals := 91 } : Room).cells ({ frames := 6, cells := 6, slots := 191, locals := 91 } : Room).slots) := by
  refine MetFree.of_bodySF (plainFor_of_name pn_0) hisR ?_
  intro pP eE sS mM argsA below meth cC s₁ Bd hml0 hP hK
  obtain ⟨rfl, hZ, hh⟩ := hP
  have hx := Bd.exec
  have hby := Bd.bytes
  have hml : cC.maxLocals = 2 := hml0
  have hown : sS.vm.findClass "com/example/casebook/casebook/database/Dialect" = some mM.cls := findClass_of_methodNamed Bd.named
  have hnm := (name_of_methodNamed Bd.named Bd.method).1
  have X0 : Stand pP l eE ({ frames := 6, cells := 6, slots := 191, locals := 91 } : Room) sS mM #[(.ref dd), (.ref t)] below meth cC s₁ [] 0 0 := Stand.of_body Bd
  have e0 : s₁.heap = h0 := by rw [← hh, Bd.state]; rfl
  have N0 := Fr.nil n0
  have pre0 : ∀ t_, Steps pP.tables eE below (s₁.setTop (mkF mM 0 #[.val (.ref dd), .val (.ref t)] [])) t_ → Steps pP.tables eE below (s₁.setTop (entryFrame mM #[(.ref dd), (.ref t)] 2)) t_ := fun t_ k_ => castTop (ef_wfk mM dd t) k_
  obtain ⟨T_1, h_1, X_1, e_1, E_1, A_1, D_1, -, st_1⟩ := newO X0 hx hZ hown (ow hw 53 rfl) (ow hw 54 rfl) (ow hw 55 rfl) e0 (g := (mkF mM 0 #[.val (.ref dd), .val (.ref t)] [])) rfl (hb hby d_prog_18m13_0) (by decide) (by decide)
  obtain ⟨b_1, g_1⟩ : ∃ z, z = h0.size := ⟨_, rfl⟩
  rw [← g_1] at A_1 D_1 st_1
  have g_b_1 : n0 ≤ b_1 := Nat.le_trans Z0 (Nat.le_of_eq g_1.symm)
  have sz_b_1 : h0.size ≤ b_1 := Nat.le_trans (Keep.refl h0 []).1 (Nat.le_of_eq g_1.symm)
  have Z_1 : n0 ≤ h_1.size := (Nat.le_trans Z0 E_1.1)
  have K_1 : Keep h0 h_1 [] := (Keep.refl h0 []).ext E_1
  have F_value_b_1__1 : Fld Z h_1 b_1 "java/lang/AbstractStringBuilder" "value" "[B" .null := D_1 (Or.inl (ow hw 68 rfl)) (ty := (.array .byte)) (by decide)
  have F_coder_b_1__1 : Fld Z h_1 b_1 "java/lang/AbstractStringBuilder" "coder" "B" (.int (0 : Int32)) := D_1 (Or.inl (ow hw 70 rfl)) (ty := .byte) (by decide)
  have F_count_b_1__1 : Fld Z h_1 b_1 "java/lang/AbstractStringBuilder" "count" "I" (.int (0 : Int32)) := D_1 (Or.inl (ow hw 92 rfl)) (ty := .int) (by decide)
  obtain ⟨_, _, ⟨T_2, L_2, k_2, n_2⟩, -, X_2, ⟨Lc_2, hQ_2, l_2, y_2, z_2⟩, st_2⟩ := X_1.specialBack hx (y := MN25) rfl hown (mvT hZ (ow hw 56 rfl)) (mvT hZ (ow hw 57 rfl)) (mvT hZ (ow hw 58 rfl)) (by decide) (backOf (W := 1) (rm_sbi l Z a0 hw [] b_1 cs h_1 n0 Z_1 F_value_b_1__1 F_coder_b_1__1 F_count_b_1__1 A_1 g_b_1 (S_String_COMPACT_STRINGS.ext E_1) hcs) hZ (ow hw 58 rfl) (ow hw 55 rfl) (by decide) (by decide)) (g := (mkF mM 4 #[.val (.ref dd), .val (.ref t)] [(.ref b_1), (.ref b_1)])) rfl (by rw [hml]; rfl) (Steps.refl _) (a := b_1) (argsL := []) (rest := [(.ref b_1)]) (lenOf pd_20 rfl) rfl (by show 2 * 0 + _ ≤ _; exact Nat.le_of_eq rfl) (hb hby d_prog_18m13_4) (fun _ _ => ⟨rfl, e_1, (by decide : 1 + 1 ≤ _), (by decide : 4 + 16 ≤ _)⟩)
  dsimp only [Pt.U, Pt.locs, Pt.cells, Pt.slots] at X_2 l_2 y_2 z_2 st_2 hQ_2
  subst l_2 y_2 z_2
  obtain ⟨d__2, ⟨k__2, ⟨rfl, N_2q, Kc_2, pfsz_d_2, pfF_value_a_2, pfF_coder_a_2, pfF_count_a_2, pfE_a_2, pfV_d_2⟩⟩⟩ := hQ_2
  have Z_2 : n0 ≤ T_2.heap.size := (Nat.le_trans Z_1 Kc_2.1)
  have K_2 : Keep h0 T_2.heap [] := K_1.trans Kc_2 (allS (Or.inr sz_b_1) all0)
  have sz_d__2 : h0.size ≤ d__2 := Nat.le_trans K_1.1 pfsz_d_2
  have g_d__2 : n0 ≤ d__2 := Nat.le_trans Z_1 pfsz_d_2
  have N_2 := Fr.app N0 N_2q
  obtain ⟨T_3, X_3, e_3, st_3⟩ := getF X_2 hx hZ hown (host := "") (Or.inl (ow hw 9 rfl)) Via.refl rfl ((F_uncheckedPrefix_dd.ext E_1).keep Kc_2 (ninS (Nat.ne_of_lt (Nat.lt_of_lt_of_le F_uncheckedPrefix_dd.lt (Nat.le_of_eq g_1.symm))) nin0)) (g := (mkF mM 8 #[.val (.ref dd), .val (.ref t)] [(.ref dd), (.ref b_1)])) rfl rfl (hb hby d_prog_18m13_8)
  obtain ⟨cq_4, kq_4, q_4a, q_4b, q_4c⟩ := isOf hZ e_3 pfE_a_2
  obtain ⟨_, _, ⟨T_4, L_4, k_4, n_4⟩, -, X_4, ⟨Lc_4, hQ_4, l_4, y_4, z_4⟩, st_4⟩ := X_3.virtualBack hx (y := MN26) (z := MN26) hown (mvT hZ (ow hw 71 rfl)) (mvT hZ (ow hw 72 rfl)) (notFace_of_selects (args := #[]) (mvT hZ (ow hw 74 rfl))) (mvT hZ (ow hw 74 rfl)) (mvT hZ (ow hw 73 rfl)) (by decide) (backOf (W := 0) (rm_sap41 l Z a0 hw [] b_1 u uv ku d__2 k__2 cs T_2.heap n0 Z_2 pfF_value_a_2 pfF_coder_a_2 pfF_count_a_2 pfE_a_2 pfV_d_2 g_b_1 ((F_value_u.ext E_1).keep Kc_2 (ninS (Nat.ne_of_lt (Nat.lt_of_lt_of_le E_u.lt (Nat.le_of_eq g_1.symm))) nin0)) ((F_coder_u.ext E_1).keep Kc_2 (ninS (Nat.ne_of_lt (Nat.lt_of_lt_of_le E_u.lt (Nat.le_of_eq g_1.symm))) nin0)) ((E_u.ext E_1).keep Kc_2) ((V_uv.ext E_1).keep Kc_2 (ninS (Nat.ne_of_lt (Nat.lt_of_lt_of_le V_uv.lt (Nat.le_of_eq g_1.symm))) nin0)) (own_sta_keep (S_String_COMPACT_STRINGS.ext E_1) Kc_2 (allS (own_exa_ns A_1) all0)) hcs (Ne.symm (Nat.ne_of_lt (Nat.lt_of_lt_of_le E_u.lt (Nat.le_of_eq g_1.symm)))) (Ne.symm (Nat.ne_of_lt (Nat.lt_of_lt_of_le V_uv.lt (Nat.le_of_eq g_1.symm))))) hZ (ow hw 75 rfl) (ow hw 55 rfl) (by decide) (by decide)) q_4a q_4c (g := (mkF mM 11 #[.val (.ref dd), .val (.ref t)] [(.ref u), (.ref b_1)])) rfl (by rw [hml]; rfl) (Steps.refl _) (argsL := [(.ref u)]) (rest := []) (lenOf pd_21 rfl) rfl (by show 2 * 0 + _ ≤ _; exact Nat.le_of_eq rfl) (hb hby d_prog_18m13_11) (fun _ _ => ⟨rfl, e_3, (by decide : 2 + 1 ≤ _), (by decide : 20 + 41 ≤ _)⟩)
  dsimp only [Pt.U, Pt.locs, Pt.cells, Pt.slots] at X_4 l_4 y_4 z_4 st_4 hQ_4
  subst l_4 y_4 z_4
  obtain ⟨e__4, ⟨kk__4, ⟨rfl, N_4q, Kc_4, pfsz_e_4, pfF_value_a_4, pfF_coder_a_4, pfF_count_a_4, pfE_a_4, pfV_e_4⟩⟩⟩ := hQ_4
  have Z_4 : n0 ≤ T_4.heap.size := (Nat.le_trans Z_2 Kc_4.1)
  have K_4 : Keep h0 T_4.heap [] := K_2.trans Kc_4 (allS (Or.inr sz_b_1) all0)
  have sz_e__4 : h0.size ≤ e__4 := Nat.le_trans K_2.1 pfsz_e_4
  have g_e__4 : n0 ≤ e__4 := Nat.le_trans Z_2 pfsz_e_4
  have N_4 := Fr.app N_2 N_4q
  obtain ⟨cq_5, kq_5, q_5a, q_5b, q_5c⟩ := isOf hZ rfl pfE_a_4
  obtain ⟨_, _, ⟨T_5, L_5, k_5, n_5⟩, -, X_5, ⟨Lc_5, hQ_5, l_5, y_5, z_5⟩, st_5⟩ := X_4.virtualBack hx (y := MN26) (z := MN26) hown (mvT hZ (ow hw 71 rfl)) (mvT hZ (ow hw 72 rfl)) (notFace_of_selects (args := #[]) (mvT hZ (ow hw 74 rfl))) (mvT hZ (ow hw 74 rfl)) (mvT hZ (ow hw 73 rfl)) (by decide) (backOf (W := 0) (rm_sap42 l Z a0 hw [] b_1 t tv kt e__4 kk__4 cs x0 T_4.heap n0 Z_4 pfF_value_a_4 pfF_coder_a_4 pfF_count_a_4 pfE_a_4 pfV_e_4 g_b_1 (((F_value_t.ext E_1).keep Kc_2 (ninS (Nat.ne_of_lt (Nat.lt_of_lt_of_le E_t.lt (Nat.le_of_eq g_1.symm))) nin0)).keep Kc_4 (ninS (Nat.ne_of_lt (Nat.lt_of_lt_of_le E_t.lt (Nat.le_of_eq g_1.symm))) nin0)) (((F_coder_t.ext E_1).keep Kc_2 (ninS (Nat.ne_of_lt (Nat.lt_of_lt_of_le E_t.lt (Nat.le_of_eq g_1.symm))) nin0)).keep Kc_4 (ninS (Nat.ne_of_lt (Nat.lt_of_lt_of_le E_t.lt (Nat.le_of_eq g_1.symm))) nin0)) (((E_t.ext E_1).keep Kc_2).keep Kc_4) (((V_tv.ext E_1).keep Kc_2 (ninS (Nat.ne_of_lt (Nat.lt_of_lt_of_le V_tv.lt (Nat.le_of_eq g_1.symm))) nin0)).keep Kc_4 (ninS (Nat.ne_of_lt (Nat.lt_of_lt_of_le V_tv.lt (Nat.le_of_eq g_1.symm))) nin0)) (own_sta_keep (own_sta_keep (S_String_COMPACT_STRINGS.ext E_1) Kc_2 (allS (own_exa_ns A_1) all0)) Kc_4 (allS (own_exa_ns pfE_a_2) all0)) hcs (Ne.symm (Nat.ne_of_lt (Nat.lt_of_lt_of_le E_t.lt (Nat.le_of_eq g_1.symm)))) (Ne.symm (Nat.ne_of_lt (Nat.lt_of_lt_of_le V_tv.lt (Nat.le_of_eq g_1.symm))))) hZ (ow hw 75 rfl) (ow hw 55 rfl) (by decide) (by decide)) q_5a q_5c (g := (mkF mM 15 #[.val (.ref dd), .val (.ref t)] [(.ref t), (.ref b_1)])) rfl (by rw [hml]; rfl) (Steps.refl _) (argsL := [(.ref t)]) (rest := []) (lenOf pd_21 rfl) rfl (by show 2 * 0 + _ ≤ _; exact Nat.le_of_eq rfl) (hb hby d_prog_18m13_15) (fun _ _ => ⟨rfl, rfl, (by decide : 3 + 1 ≤ _), (by decide : 61 + 84 ≤ _)⟩)
  dsimp only [Pt.U, Pt.locs, Pt.cells, Pt.slots] at X_5 l_5 y_5 z_5 st_5 hQ_5
  subst l_5 y_5 z_5
  obtain ⟨e__5, ⟨kk__5, ⟨rfl, N_5q, Kc_5, pfsz_e_5, pfF_value_a_5, pfF_coder_a_5, pfF_count_a_5, pfE_a_5, pfV_e_5⟩⟩⟩ := hQ_5
  have Z_5 : n0 ≤ T_5.heap.size := (Nat.le_trans Z_4 Kc_5.1)
  have K_5 : Keep h0 T_5.heap [] := K_4.trans Kc_5 (allS (Or.inr sz_b_1) all0)
  have sz_e__5 : h0.size ≤ e__5 := Nat.le_trans K_4.1 pfsz_e_5
  have g_e__5 : n0 ≤ e__5 := Nat.le_trans Z_4 pfsz_e_5
  have N_5 := Fr.app N_4 N_5q
  obtain ⟨cq_6, kq_6, q_6a, q_6b, q_6c⟩ := isOf hZ rfl pfE_a_5
  obtain ⟨_, _, ⟨T_6, L_6, k_6, n_6⟩, -, X_6, ⟨Lc_6, hQ_6, l_6, y_6, z_6⟩, st_6⟩ := X_5.virtualBack hx (y := MN27) (z := MN27) hown (mvT hZ (ow hw 141 rfl)) (mvT hZ (ow hw 142 rfl)) (notFace_of_selects (args := #[]) (mvT hZ (ow hw 144 rfl))) (mvT hZ (ow hw 144 rfl)) (mvT hZ (ow hw 143 rfl)) (by decide) (backOf (W := 0) (rm_tos l Z a0 hw [] b_1 e__5 kk__5 cs x0 T_5.heap n0 Z_5 pfF_value_a_5 pfF_coder_a_5 pfF_count_a_5 pfE_a_5 pfV_e_5 (own_sta_keep (own_sta_keep (own_sta_keep (S_String_COMPACT_STRINGS.ext E_1) Kc_2 (allS (own_exa_ns A_1) all0)) Kc_4 (allS (own_exa_ns pfE_a_2) all0)) Kc_5 (allS (own_exa_ns pfE_a_4) all0)) hcs) hZ (ow hw 145 rfl) (ow hw 55 rfl) (by decide) (by decide)) q_6a q_6c (g := (mkF mM 18 #[.val (.ref dd), .val (.ref t)] [(.ref b_1)])) rfl (by rw [hml]; rfl) (Steps.refl _) (argsL := []) (rest := []) (lenOf pd_22 rfl) rfl (by show 2 * 0 + _ ≤ _; exact Nat.le_of_eq rfl) (hb hby d_prog_18m13_18) (fun _ _ => ⟨rfl, rfl, (by decide : 4 + 2 ≤ _), (by decide : 145 + 46 ≤ _)⟩)
  dsimp only [Pt.U, Pt.locs, Pt.cells, Pt.slots] at X_6 l_6 y_6 z_6 st_6 hQ_6
  subst l_6 y_6 z_6
  obtain ⟨r__6, ⟨e__6, ⟨kk__6, ⟨rfl, N_6q, Kc_6, pfsz_r_6, pfsz_e_6, pfE_r_6, pfF_value_r_6, pfF_coder_r_6, pfV_e_6⟩⟩⟩⟩ := hQ_6
  have Z_6 : n0 ≤ T_6.heap.size := (Nat.le_trans Z_5 Kc_6.1)
  have K_6 : Keep h0 T_6.heap [] := K_5.trans Kc_6 all0
  have sz_r__6 : h0.size ≤ r__6 := Nat.le_trans K_5.1 pfsz_r_6
  have g_r__6 : n0 ≤ r__6 := Nat.le_trans Z_5 pfsz_r_6
  have sz_e__6 : h0.size ≤ e__6 := Nat.le_trans K_5.1 pfsz_e_6
  have g_e__6 : n0 ≤ e__6 := Nat.le_trans Z_5 pfsz_e_6
  have N_6 := Fr.app N_5 N_6q
  obtain ⟨fs, hr, hrun, hended, hW, hsame⟩ := X_6.leave (v := some (.ref r__6)) (fun h => by rw [Bd.returns] at h; cases h)
  refine ⟨_, _, pre0 _ ?_, hrun, hended, _, _, rfl, ?_, ⟨_, rfl⟩, hW, hsame.mono (by decide) (by decide)⟩
  · show oS pP eE below s₁ (mkF mM 0 #[.val (.ref dd), .val (.ref t)] []) _
    refine st_1 _ ?_
    show oS pP eE below T_1 (mkF mM 3 #[.val (.ref dd), .val (.ref t)] [(.ref b_1)]) _
    refine XS.dup X_1.here hx rfl (hb hby d_prog_18m13_3) rfl rfl ?_
    show oS pP eE below T_1 (mkF mM 4 #[.val (.ref dd), .val (.ref t)] [(.ref b_1), (.ref b_1)]) _
    refine st_2.trans ?_
    show oS pP eE below T_2 (mkF mM 7 #[.val (.ref dd), .val (.ref t)] [(.ref b_1)]) _
    refine XS.aloadN X_2.here hx rfl (hb hby d_prog_18m13_7) rfl rfl ?_
    show oS pP eE below T_2 (mkF mM 8 #[.val (.ref dd), .val (.ref t)] [(.ref dd), (.ref b_1)]) _
    refine st_3 _ ?_
    show oS pP eE below T_3 (mkF mM 11 #[.val (.ref dd), .val (.ref t)] [(.ref u), (.ref b_1)]) _
    refine st_4.trans ?_
    show oS pP eE below T_4 (mkF mM 14 #[.val (.ref dd), .val (.ref t)] [(.ref b_1)]) _
    refine XS.aloadN X_4.here hx rfl (hb hby d_prog_18m13_14) rfl rfl ?_
    show oS pP eE below T_4 (mkF mM 15 #[.val (.ref dd), .val (.ref t)] [(.ref t), (.ref b_1)]) _
    refine st_5.trans ?_
    show oS pP eE below T_5 (mkF mM 18 #[.val (.ref dd), .val (.ref t)] [(.ref b_1)]) _
    refine st_6.trans ?_
    show oS pP eE below T_6 (mkF mM 21 #[.val (.ref dd), .val (.ref t)] [(.ref r__6)]) _
    exact retOut X_6 hx Bd.returns rfl (Or.inr (Or.inr (Or.inr (Or.inr ⟨rfl, rfl, rfl⟩)))) (hb hby d_prog_18m13_21) hr
  · show Q_wfk Z dd t tv kt u uv ku cs x0 h0 n0 _ T_6.heap _
    exact ⟨r__6, e__6, kk__6, rfl, N_6, K_6, sz_r__6, sz_e__6, pfE_r_6, pfF_value_r_6, pfF_coder_r_6, pfV_e_6⟩
theorem d_jdk_41m11_0 : decode jdk_41_method_11_code 0 = .ok (.iload_n 0, 1) := by decide +kernel
theorem d_jdk_41m11_1 : decode jdk_41_method_11_code 1 = .ok (.ifCond .lt 8, 3) := by decide +kernel
theorem d_jdk_41m11_4 : decode jdk_41_method_11_code 4 = .ok (.iload_n 0, 1) := by decide +kernel
theorem d_jdk_41m11_5 : decode jdk_41_method_11_code 5 = .ok (.iload_n 1, 1) := by decide +kernel
theorem d_jdk_41m11_6 : decode jdk_41_method_11_code 6 = .ok (.if_icmp .lt 10, 3) := by decide +kernel
theorem d_jdk_41m11_16 : decode jdk_41_method_11_code 16 = .ok (.iload_n 0, 1) := by decide +kernel
theorem d_jdk_41m11_17 : decode jdk_41_method_11_code 17 = .ok (.ireturn, 1) := by decide +kernel
theorem pn_7 : plainName "jdk/internal/util/Preconditions" = true := by first | (simp [plainName, overriddenIn]; done) | decide +kernel
theorem ef_pcir (mM : MethodId) (x0 : Int32) (x1 : Int32) (x2 : Addr) : entryFrame mM #[(.int x0), (.int x1), (.ref x2)] 3 = mkF mM 0 #[.val (.int x0), .val (.int x1), .val (.ref x2)] [] := by first | (simp [entryFrame, mkF, argsToLocals, Value.category]; done) | rfl
def Q_pcir (Z : State) (fm : Addr) (h0 : Heap) (n0 : Nat) (v_ : Option Value) (h_ : Heap) (L_ : List Loc) : Prop := v_ = some (.int (41 : Int32)) ∧ Fr n0 L_ ∧ h_ = h0
set_option maxRecDepth 65536 in
set_option maxHeartbeats 40000000 in
theorem rm_pcir (l : Launch) (Z : State) (a0 : Array Value) (hw : ∀ d ∈ tables_1, d.before a0 Z = true) (ws : List Jvm.Cond) (fm : Addr) (h0 : Heap) (n0 : Nat) (Z0 : n0 ≤ h0.size) :
    MetFree l (⟨"jdk/internal/util/Preconditions", "checkIndex", "(IILjava/util/function/BiFunction;)I"⟩ : MethodName) (head1 (Jvm.Cond.code (⟨"jdk/internal/util/Preconditions", "checkIndex", "(IILjava/util/function/BiFunction;)I"⟩ : MethodName) jdk_41_method_11_code 3 (some .int) :: ws) ({ frames := 0, cells := 0, slots := 0, locals := 0 } : Room)) (fun aa_ U_ => aa_ = #[(.int (41 : Int32)), (.int (42 : Int32)), (.ref fm)] ∧ Z.Warmed39 U_.vm ∧ U_.heap = h0) (fun _ _ _ _ _ => True) (fun _ U_ o_ U'_ => ∃ v_ L_, o_ = .returned v_ ∧ Q_pcir Z fm h0 n0 v_ U'_.heap L_ ∧ FrameEnd U_ o_ U'_ L_ ({ frames := 0, cells := 0, slots := 0, locals := 0 } : Room).cells ({ frames := 0, cells := 0, slots := 0, locals := 0 } : Room).slots) := by
  refine MetFree.of_bodySF (plainFor_of_name pn_7) hisR ?_
  intro pP eE sS mM argsA below meth cC s₁ Bd hml0 hP hK
  obtain ⟨rfl, hZ, hh⟩ := hP
  have hx := Bd.exec
  have hby := Bd.bytes
  have hml : cC.maxLocals = 3 := hml0
  have hown : sS.vm.findClass "jdk/internal/util/Preconditions" = some mM.cls := findClass_of_methodNamed Bd.named
  have hnm := (name_of_methodNamed Bd.named Bd.method).1
  have X0 : Stand pP l eE ({ frames := 0, cells := 0, slots := 0, locals := 0 } : Room) sS mM #[(.int (41 : Int32)), (.int (42 : Int32)), (.ref fm)] below meth cC s₁ [] 0 0 := Stand.of_body Bd
  have e0 : s₁.heap = h0 := by rw [← hh, Bd.state]; rfl
  have N0 := Fr.nil n0
  have pre0 : ∀ t_, Steps pP.tables eE below (s₁.setTop (mkF mM 0 #[.val (.int (41 : Int32)), .val (.int (42 : Int32)), .val (.ref fm)] [])) t_ → Steps pP.tables eE below (s₁.setTop (entryFrame mM #[(.int (41 : Int32)), (.int (42 : Int32)), (.ref fm)] 3)) t_ := fun t_ k_ => castTop (ef_pcir mM (41 : Int32) (42 : Int32) fm) k_
  obtain ⟨fs, hr, hrun, hended, hW, hsame⟩ := X0.leave (v := some (.int (41 : Int32))) (fun h => by rw [Bd.returns] at h; cases h)
  refine ⟨_, _, pre0 _ ?_, hrun, hended, _, _, rfl, ?_, ⟨_, rfl⟩, hW, hsame.mono (by decide) (by decide)⟩
  · show oS pP eE below s₁ (mkF mM 0 #[.val (.int (41 : Int32)), .val (.int (42 : Int32)), .val (.ref fm)] []) _
    refine XS.iloadN X0.here hx rfl (hb hby d_jdk_41m11_0) rfl ?_
    refine XS.ifNo X0.here hx rfl (hb hby d_jdk_41m11_1) rfl (by decide) ?_
    refine XS.iloadN X0.here hx rfl (hb hby d_jdk_41m11_4) rfl ?_
    refine XS.iloadN X0.here hx rfl (hb hby d_jdk_41m11_5) rfl ?_
    show oS pP eE below s₁ (mkF mM 6 #[.val (.int (41 : Int32)), .val (.int (42 : Int32)), .val (.ref fm)] [(.int (42 : Int32)), (.int (41 : Int32))]) _
    refine XS.icmpYes X0.here hx rfl (pc0 := 6) (pc' := 16) rfl (hb hby d_jdk_41m11_6) rfl (by decide) (by decide) (by decide) ?_
    refine XS.iloadN X0.here hx rfl (hb hby d_jdk_41m11_16) rfl ?_
    show oS pP eE below s₁ (mkF mM 17 #[.val (.int (41 : Int32)), .val (.int (42 : Int32)), .val (.ref fm)] [(.int (41 : Int32))]) _
    exact retI X0 hx Bd.returns (hb hby d_jdk_41m11_17) hr
  · show Q_pcir Z fm h0 n0 _ s₁.heap _
    rw [e0]
    exact ⟨rfl, N0, rfl⟩
theorem d_jdk_42m155_0 : decode jdk_42_method_155_code 0 = .ok (.iload_n 0, 1) := by decide +kernel
theorem d_jdk_42m155_1 : decode jdk_42_method_155_code 1 = .ok (.iload_n 1, 1) := by decide +kernel
theorem d_jdk_42m155_2 : decode jdk_42_method_155_code 2 = .ok (.getstatic 1053, 3) := by decide +kernel
theorem d_jdk_42m155_5 : decode jdk_42_method_155_code 5 = .ok (.invokestatic 1059, 3) := by decide +kernel
theorem pd_23 : parseMethodDescriptor "(IILjava/util/function/BiFunction;)I" = some ⟨[.int, .int, (.object "java/util/function/BiFunction")], some .int⟩ := by decide +kernel
abbrev MN28 : MethodName := ⟨"jdk/internal/util/Preconditions", "checkIndex", "(IILjava/util/function/BiFunction;)I"⟩
theorem d_jdk_42m155_8 : decode jdk_42_method_155_code 8 = .ok (.pop, 1) := by decide +kernel
theorem d_jdk_42m155_9 : decode jdk_42_method_155_code 9 = .ok (.return_, 1) := by decide +kernel
theorem ef_scir (mM : MethodId) (x0 : Int32) (x1 : Int32) : entryFrame mM #[(.int x0), (.int x1)] 2 = mkF mM 0 #[.val (.int x0), .val (.int x1)] [] := by first | (simp [entryFrame, mkF, argsToLocals, Value.category]; done) | rfl
def Q_scir (Z : State) (fm : Addr) (h0 : Heap) (n0 : Nat) (v_ : Option Value) (h_ : Heap) (L_ : List Loc) : Prop := v_ = none ∧ Fr n0 L_ ∧ h_ = h0
set_option maxRecDepth 65536 in
set_option maxHeartbeats 40000000 in
theorem rm_scir (l : Launch) (Z : State) (a0 : Array Value) (hw : ∀ d ∈ tables_1, d.before a0 Z = true) (ws : List Jvm.Cond) (fm : Addr) (h0 : Heap) (n0 : Nat) (Z0 : n0 ≤ h0.size) (S_Preconditions_SIOOBE_FORMATTER : Sta Z h0 "jdk/internal/util/Preconditions" "SIOOBE_FORMATTER" "Ljava/util/function/BiFunction;" (.ref fm)) :
    MetFree l (⟨"java/lang/String", "checkIndex", "(II)V"⟩ : MethodName) (head1 (Jvm.Cond.code (⟨"java/lang/String", "checkIndex", "(II)V"⟩ : MethodName) jdk_42_method_155_code 2 none :: ws) ({ frames := 1, cells := 0, slots := 0, locals := 14 } : Room)) (fun aa_ U_ => aa_ = #[(.int (41 : Int32)), (.int (42 : Int32))] ∧ Z.Warmed39 U_.vm ∧ U_.heap = h0) (fun _ _ _ _ _ => True) (fun _ U_ o_ U'_ => ∃ v_ L_, o_ = .returned v_ ∧ Q_scir Z fm h0 n0 v_ U'_.heap L_ ∧ FrameEnd U_ o_ U'_ L_ ({ frames := 1, cells := 0, slots := 0, locals := 14 } : Room).cells ({ frames := 1, cells := 0, slots := 0, locals := 14 } : Room).slots) := by
  refine MetFree.of_bodySF (plainFor_of_name pn_2) hisR ?_
  intro pP eE sS mM argsA below meth cC s₁ Bd hml0 hP hK
  obtain ⟨rfl, hZ, hh⟩ := hP
  have hx := Bd.exec
  have hby := Bd.bytes
  have hml : cC.maxLocals = 2 := hml0
  have hown : sS.vm.findClass "java/lang/String" = some mM.cls := findClass_of_methodNamed Bd.named
  have hnm := (name_of_methodNamed Bd.named Bd.method).1
  have X0 : Stand pP l eE ({ frames := 1, cells := 0, slots := 0, locals := 14 } : Room) sS mM #[(.int (41 : Int32)), (.int (42 : Int32))] below meth cC s₁ [] 0 0 := Stand.of_body Bd
  have e0 : s₁.heap = h0 := by rw [← hh, Bd.state]; rfl
  have N0 := Fr.nil n0
  have pre0 : ∀ t_, Steps pP.tables eE below (s₁.setTop (mkF mM 0 #[.val (.int (41 : Int32)), .val (.int (42 : Int32))] [])) t_ → Steps pP.tables eE below (s₁.setTop (entryFrame mM #[(.int (41 : Int32)), (.int (42 : Int32))] 2)) t_ := fun t_ k_ => castTop (ef_scir mM (41 : Int32) (42 : Int32)) k_
  obtain ⟨T_1, X_1, e_1, st_1⟩ := getS2 X0 hx hZ hown (host := "") (Or.inl (ow hw 197 rfl)) Via.refl e0 S_Preconditions_SIOOBE_FORMATTER (g := (mkF mM 2 #[.val (.int (41 : Int32)), .val (.int (42 : Int32))] [(.int (42 : Int32)), (.int (41 : Int32))])) rfl (hb hby d_jdk_42m155_2)
  obtain ⟨_, _, ⟨T_2, L_2, k_2, n_2⟩, -, X_2, ⟨Lc_2, hQ_2, l_2, y_2, z_2⟩, st_2⟩ := Jvm.LawKit.callS X_1 hx (y := MN28) hown (mvT hZ (ow hw 199 rfl)) (mvT hZ (ow hw 200 rfl)) (mvT hZ (ow hw 198 rfl)) (mvT hZ (ow hw 201 rfl)) (by decide) (backOf (W := 0) (rm_pcir l Z a0 hw [] fm h0 n0 Z0 ) hZ (ow hw 201 rfl) (ow hw 198 rfl) (by decide) (by decide)) (g := (mkF mM 5 #[.val (.int (41 : Int32)), .val (.int (42 : Int32))] [(.ref fm), (.int (42 : Int32)), (.int (41 : Int32))])) rfl (by rw [hml]; rfl) (argsL := [(.int (41 : Int32)), (.int (42 : Int32)), (.ref fm)]) (rest := []) (lenOf pd_23 rfl) rfl (by show 2 * 0 + _ ≤ _; exact Nat.le_of_eq rfl) (hb hby d_jdk_42m155_5) (fun _ _ => ⟨rfl, e_1, (by decide : 0 + 0 ≤ _), (by decide : 0 + 0 ≤ _)⟩)
  dsimp only [Pt.U, Pt.locs, Pt.cells, Pt.slots] at X_2 l_2 y_2 z_2 st_2 hQ_2
  subst l_2 y_2 z_2
  obtain ⟨rfl, N_2q, eh_2⟩ := hQ_2
  have N_2 := Fr.app N0 N_2q
  obtain ⟨fs, hr, hrun, hended, hW, hsame⟩ := X_2.leave (v := none) (fun _ => rfl)
  refine ⟨_, _, pre0 _ ?_, hrun, hended, _, _, rfl, ?_, ⟨_, rfl⟩, hW, hsame.mono (by decide) (by decide)⟩
  · show oS pP eE below s₁ (mkF mM 0 #[.val (.int (41 : Int32)), .val (.int (42 : Int32))] []) _
    refine XS.iloadN X0.here hx rfl (hb hby d_jdk_42m155_0) rfl ?_
    refine XS.iloadN X0.here hx rfl (hb hby d_jdk_42m155_1) rfl ?_
    show oS pP eE below s₁ (mkF mM 2 #[.val (.int (41 : Int32)), .val (.int (42 : Int32))] [(.int (42 : Int32)), (.int (41 : Int32))]) _
    refine st_1 _ ?_
    show oS pP eE below T_1 (mkF mM 5 #[.val (.int (41 : Int32)), .val (.int (42 : Int32))] [(.ref fm), (.int (42 : Int32)), (.int (41 : Int32))]) _
    refine st_2 _ ?_
    show oS pP eE below T_2 (mkF mM 8 #[.val (.int (41 : Int32)), .val (.int (42 : Int32))] [(.int (41 : Int32))]) _
    refine XT.pop X_2.here hx rfl (hb hby d_jdk_42m155_8) rfl rfl ?_
    show oS pP eE below T_2 (mkF mM 9 #[.val (.int (41 : Int32)), .val (.int (42 : Int32))] []) _
    exact X_2.returnOut hx Bd.returns (hb hby d_jdk_42m155_9) hr
  · show Q_scir Z fm h0 n0 _ T_2.heap _
    rw [eh_2]
    exact ⟨rfl, N_2, rfl⟩
theorem d_jdk_43m2_0 : decode jdk_43_method_2_code 0 = .ok (.iload_n 1, 1) := by decide +kernel
theorem d_jdk_43m2_1 : decode jdk_43_method_2_code 1 = .ok (.aload_n 0, 1) := by decide +kernel
theorem d_jdk_43m2_2 : decode jdk_43_method_2_code 2 = .ok (.arraylength, 1) := by decide +kernel
theorem d_jdk_43m2_3 : decode jdk_43_method_2_code 3 = .ok (.invokestatic 9, 3) := by decide +kernel
abbrev MN29 : MethodName := ⟨"java/lang/String", "checkIndex", "(II)V"⟩
theorem d_jdk_43m2_6 : decode jdk_43_method_2_code 6 = .ok (.aload_n 0, 1) := by decide +kernel
theorem d_jdk_43m2_7 : decode jdk_43_method_2_code 7 = .ok (.iload_n 1, 1) := by decide +kernel
theorem d_jdk_43m2_8 : decode jdk_43_method_2_code 8 = .ok (.baload, 1) := by decide +kernel
theorem d_jdk_43m2_9 : decode jdk_43_method_2_code 9 = .ok (.sipush 255, 3) := by decide +kernel
theorem d_jdk_43m2_12 : decode jdk_43_method_2_code 12 = .ok (.iand, 1) := by decide +kernel
theorem d_jdk_43m2_13 : decode jdk_43_method_2_code 13 = .ok (.i2c, 1) := by decide +kernel
theorem d_jdk_43m2_14 : decode jdk_43_method_2_code 14 = .ok (.ireturn, 1) := by decide +kernel
theorem ef_lcar (mM : MethodId) (x0 : Addr) (x1 : Int32) : entryFrame mM #[(.ref x0), (.int x1)] 2 = mkF mM 0 #[.val (.ref x0), .val (.int x1)] [] := by first | (simp [entryFrame, mkF, argsToLocals, Value.category]; done) | rfl
def Q_lcar (Z : State) (fm : Addr) (d : Addr) (k : ClassId) (x0 : Int32) (h0 : Heap) (n0 : Nat) (v_ : Option Value) (h_ : Heap) (L_ : List Loc) : Prop := v_ = some (.int (nar .char ((x0 &&& (255 : Int32)).toUInt32.toUInt16.toUInt32.toInt32))) ∧ Fr n0 L_ ∧ h_ = h0
set_option maxRecDepth 65536 in
set_option maxHeartbeats 40000000 in
theorem rm_lcar (l : Launch) (Z : State) (a0 : Array Value) (hw : ∀ d ∈ tables_1, d.before a0 Z = true) (ws : List Jvm.Cond) (fm : Addr) (d : Addr) (k : ClassId) (x0 : Int32) (h0 : Heap) (n0 : Nat) (Z0 : n0 ≤ h0.size) (S_Preconditions_SIOOBE_FORMATTER : Sta Z h0 "jdk/internal/util/Preconditions" "SIOOBE_FORMATTER" "Ljava/util/function/BiFunction;" (.ref fm)) (V_d : Arv Z h0 d k .byte (42 : Int32) [(.int (83 : Int32)), (.int (69 : Int32)), (.int (84 : Int32)), (.int (32 : Int32)), (.int (83 : Int32)), (.int (84 : Int32)), (.int (65 : Int32)), (.int (84 : Int32)), (.int (69 : Int32)), (.int (77 : Int32)), (.int (69 : Int32)), (.int (78 : Int32)), (.int (84 : Int32)), (.int (32 : Int32)), (.int (102 : Int32)), (.int (111 : Int32)), (.int (114 : Int32)), (.int (101 : Int32)), (.int (105 : Int32)), (.int (103 : Int32)), (.int (110 : Int32)), (.int (95 : Int32)), (.int (107 : Int32)), (.int (101 : Int32)), (.int (121 : Int32)), (.int (95 : Int32)), (.int (99 : Int32)), (.int (104 : Int32)), (.int (101 : Int32)), (.int (99 : Int32)), (.int (107 : Int32)), (.int (115 : Int32)), (.int (32 : Int32)), (.int (61 : Int32)), (.int (32 : Int32)), (.int (48 : Int32)), (.int (32 : Int32)), (.int (70 : Int32)), (.int (79 : Int32)), (.int (82 : Int32)), (.int (32 : Int32)), (.int x0)] (.int (0 : Int32))) :
    MetFree l (⟨"java/lang/StringLatin1", "charAt", "([BI)C"⟩ : MethodName) (head1 (Jvm.Cond.code (⟨"java/lang/StringLatin1", "charAt", "([BI)C"⟩ : MethodName) jdk_43_method_2_code 2 (some .char) :: ws) ({ frames := 2, cells := 0, slots := 0, locals := 27 } : Room)) (fun aa_ U_ => aa_ = #[(.ref d), (.int (41 : Int32))] ∧ Z.Warmed39 U_.vm ∧ U_.heap = h0) (fun _ _ _ _ _ => True) (fun _ U_ o_ U'_ => ∃ v_ L_, o_ = .returned v_ ∧ Q_lcar Z fm d k x0 h0 n0 v_ U'_.heap L_ ∧ FrameEnd U_ o_ U'_ L_ ({ frames := 2, cells := 0, slots := 0, locals := 27 } : Room).cells ({ frames := 2, cells := 0, slots := 0, locals := 27 } : Room).slots) := by
  refine MetFree.of_bodySF (plainFor_of_name pn_1) hisR ?_
  intro pP eE sS mM argsA below meth cC s₁ Bd hml0 hP hK
  obtain ⟨rfl, hZ, hh⟩ := hP
  have hx := Bd.exec
  have hby := Bd.bytes
  have hml : cC.maxLocals = 2 := hml0
  have hown : sS.vm.findClass "java/lang/StringLatin1" = some mM.cls := findClass_of_methodNamed Bd.named
  have hnm := (name_of_methodNamed Bd.named Bd.method).1
  have X0 : Stand pP l eE ({ frames := 2, cells := 0, slots := 0, locals := 27 } : Room) sS mM #[(.ref d), (.int (41 : Int32))] below meth cC s₁ [] 0 0 := Stand.of_body Bd
  have e0 : s₁.heap = h0 := by rw [← hh, Bd.state]; rfl
  have N0 := Fr.nil n0
  have pre0 : ∀ t_, Steps pP.tables eE below (s₁.setTop (mkF mM 0 #[.val (.ref d), .val (.int (41 : Int32))] [])) t_ → Steps pP.tables eE below (s₁.setTop (entryFrame mM #[(.ref d), (.int (41 : Int32))] 2)) t_ := fun t_ k_ => castTop (ef_lcar mM d (41 : Int32)) k_
  obtain ⟨cl_1, Ar_1, -, Sa_1, Na_1, -, -⟩ := id V_d
  obtain ⟨_, _, ⟨T_2, L_2, k_2, n_2⟩, -, X_2, ⟨Lc_2, hQ_2, l_2, y_2, z_2⟩, st_2⟩ := Jvm.LawKit.callS X0 hx (y := MN29) hown (mvT hZ (ow hw 194 rfl)) (mvT hZ (ow hw 195 rfl)) (mvT hZ (ow hw 24 rfl)) (mvT hZ (ow hw 196 rfl)) (by decide) (backOf (W := 0) (rm_scir l Z a0 hw [] fm h0 n0 Z0 S_Preconditions_SIOOBE_FORMATTER) hZ (ow hw 196 rfl) (ow hw 24 rfl) (by decide) (by decide)) (g := (mkF mM 3 #[.val (.ref d), .val (.int (41 : Int32))] [(.int (42 : Int32)), (.int (41 : Int32))])) rfl (by rw [hml]; rfl) (argsL := [(.int (41 : Int32)), (.int (42 : Int32))]) (rest := []) (lenOf pd_14 rfl) rfl (by show 2 * 0 + _ ≤ _; exact Nat.le_of_eq rfl) (hb hby d_jdk_43m2_3) (fun _ _ => ⟨rfl, e0, (by decide : 0 + 0 ≤ _), (by decide : 0 + 0 ≤ _)⟩)
  dsimp only [Pt.U, Pt.locs, Pt.cells, Pt.slots] at X_2 l_2 y_2 z_2 st_2 hQ_2
  subst l_2 y_2 z_2
  obtain ⟨rfl, N_2q, eh_2⟩ := hQ_2
  have N_2 := Fr.app N0 N_2q
  obtain ⟨cl_3, Ar_3, qa_3, Sa_3, Na_3, Ha_3, Ga_3⟩ := id V_d
  have hin_3 : ¬ ((41 : Int32) < 0 ∨ cl_3.slots.size ≤ ((41 : Int32)).toNatClampNeg) := inb_of Sa_3 ⟨by decide, by decide⟩
  have hat_3 : cl_3.slots[((41 : Int32)).toNatClampNeg]? = some (.int x0) := Has.at Ha_3 hin_3 rfl
  obtain ⟨fs, hr, hrun, hended, hW, hsame⟩ := X_2.leave (v := some (.int (nar .char ((x0 &&& (255 : Int32)).toUInt32.toUInt16.toUInt32.toInt32)))) (fun h => by rw [Bd.returns] at h; cases h)
  refine ⟨_, _, pre0 _ ?_, hrun, hended, _, _, rfl, ?_, ⟨_, rfl⟩, hW, hsame.mono (by decide) (by decide)⟩
  · show oS pP eE below s₁ (mkF mM 0 #[.val (.ref d), .val (.int (41 : Int32))] []) _
    refine XS.iloadN X0.here hx rfl (hb hby d_jdk_43m2_0) rfl ?_
    refine XS.aloadN X0.here hx rfl (hb hby d_jdk_43m2_1) rfl rfl ?_
    show oS pP eE below s₁ (mkF mM 2 #[.val (.ref d), .val (.int (41 : Int32))] [(.ref d), (.int (41 : Int32))]) _
    refine X0.arraylength hx (by rw [e0]; exact Ar_1.1) (State.isArrayOf_alike hZ.alike Ar_1.2.1) (g := (mkF mM 2 #[.val (.ref d), .val (.int (41 : Int32))] [(.ref d), (.int (41 : Int32))])) rfl rfl (hb hby d_jdk_43m2_2) _ ?_
    rw [len_of Sa_1 Na_1]
    show oS pP eE below s₁ (mkF mM 3 #[.val (.ref d), .val (.int (41 : Int32))] [(.int (42 : Int32)), (.int (41 : Int32))]) _
    refine st_2 _ ?_
    show oS pP eE below T_2 (mkF mM 6 #[.val (.ref d), .val (.int (41 : Int32))] []) _
    refine XS.aloadN X_2.here hx rfl (hb hby d_jdk_43m2_6) rfl rfl ?_
    refine XS.iloadN X_2.here hx rfl (hb hby d_jdk_43m2_7) rfl ?_
    show oS pP eE below T_2 (mkF mM 8 #[.val (.ref d), .val (.int (41 : Int32))] [(.int (41 : Int32)), (.ref d)]) _
    refine X_2.baloadBytes hx (j := (41 : Int32)) (v := (.int x0)) (by rw [eh_2]; exact Ar_3.1) (State.isArrayOf_alike hZ.alike Ar_3.2.1) Ar_3.2.2 hin_3 hat_3 (g := (mkF mM 8 #[.val (.ref d), .val (.int (41 : Int32))] [(.int (41 : Int32)), (.ref d)])) rfl rfl (hb hby d_jdk_43m2_8) _ ?_
    refine XS.sipush X_2.here hx rfl (hb hby d_jdk_43m2_9) ?_
    show oS pP eE below T_2 (mkF mM 12 #[.val (.ref d), .val (.int (41 : Int32))] [(.int (255 : Int32)), (.int x0)]) _
    refine XS.iand X_2.here hx rfl (hb hby d_jdk_43m2_12) rfl ?_
    show oS pP eE below T_2 (mkF mM 13 #[.val (.ref d), .val (.int (41 : Int32))] [(.int (x0 &&& (255 : Int32)))]) _
    refine XT.i2c X_2.here hx rfl (hb hby d_jdk_43m2_13) rfl ?_
    show oS pP eE below T_2 (mkF mM 14 #[.val (.ref d), .val (.int (41 : Int32))] [(.int ((x0 &&& (255 : Int32)).toUInt32.toUInt16.toUInt32.toInt32))]) _
    exact retN X_2 hx (t := .char) Bd.returns (by simp) (hb hby d_jdk_43m2_14) hr
  · show Q_lcar Z fm d k x0 h0 n0 _ T_2.heap _
    rw [eh_2]
    exact ⟨rfl, N_2, rfl⟩
theorem d_jdk_42m154_0 : decode jdk_42_method_154_code 0 = .ok (.getstatic 38, 3) := by decide +kernel
theorem d_jdk_42m154_3 : decode jdk_42_method_154_code 3 = .ok (.ifCond .eq 14, 3) := by decide +kernel
theorem d_jdk_42m154_6 : decode jdk_42_method_154_code 6 = .ok (.aload_n 0, 1) := by decide +kernel
theorem d_jdk_42m154_7 : decode jdk_42_method_154_code 7 = .ok (.getfield 15, 3) := by decide +kernel
theorem d_jdk_42m154_10 : decode jdk_42_method_154_code 10 = .ok (.ifCond .ne 7, 3) := by decide +kernel
theorem d_jdk_42m154_13 : decode jdk_42_method_154_code 13 = .ok (.iconst 1, 1) := by decide +kernel
theorem d_jdk_42m154_14 : decode jdk_42_method_154_code 14 = .ok (.goto 4, 3) := by decide +kernel
theorem d_jdk_42m154_18 : decode jdk_42_method_154_code 18 = .ok (.ireturn, 1) := by decide +kernel
theorem ef_sil (mM : MethodId) (x0 : Addr) : entryFrame mM #[(.ref x0)] 1 = mkF mM 0 #[.val (.ref x0)] [] := by first | (simp [entryFrame, mkF, argsToLocals, Value.category]; done) | rfl
def Q_sil (Z : State) (a : Addr) (cs : Int32) (h0 : Heap) (n0 : Nat) (v_ : Option Value) (h_ : Heap) (L_ : List Loc) : Prop := v_ = some (.int (1 : Int32)) ∧ Fr n0 L_ ∧ h_ = h0
set_option maxRecDepth 65536 in
set_option maxHeartbeats 40000000 in
theorem rm_sil (l : Launch) (Z : State) (a0 : Array Value) (hw : ∀ d ∈ tables_1, d.before a0 Z = true) (ws : List Jvm.Cond) (a : Addr) (cs : Int32) (h0 : Heap) (n0 : Nat) (Z0 : n0 ≤ h0.size) (F_coder_a : Fld Z h0 a "java/lang/String" "coder" "B" (.int (0 : Int32))) (S_String_COMPACT_STRINGS : Sta Z h0 "java/lang/String" "COMPACT_STRINGS" "Z" (.int cs)) (hcs : ¬ cs = 0) :
    MetFree l (⟨"java/lang/String", "isLatin1", "()Z"⟩ : MethodName) (head1 (Jvm.Cond.code (⟨"java/lang/String", "isLatin1", "()Z"⟩ : MethodName) jdk_42_method_154_code 1 (some .boolean) :: ws) ({ frames := 0, cells := 0, slots := 0, locals := 0 } : Room)) (fun aa_ U_ => aa_ = #[(.ref a)] ∧ Z.Warmed39 U_.vm ∧ U_.heap = h0) (fun _ _ _ _ _ => True) (fun _ U_ o_ U'_ => ∃ v_ L_, o_ = .returned v_ ∧ Q_sil Z a cs h0 n0 v_ U'_.heap L_ ∧ FrameEnd U_ o_ U'_ L_ ({ frames := 0, cells := 0, slots := 0, locals := 0 } : Room).cells ({ frames := 0, cells := 0, slots := 0, locals := 0 } : Room).slots) := by
  refine MetFree.of_bodySF (plainFor_of_name pn_2) hisR ?_
  intro pP eE sS mM argsA below meth cC s₁ Bd hml0 hP hK
  obtain ⟨rfl, hZ, hh⟩ := hP
  have hx := Bd.exec
  have hby := Bd.bytes
  have hml : cC.maxLocals = 1 := hml0
  have hown : sS.vm.findClass "java/lang/String" = some mM.cls := findClass_of_methodNamed Bd.named
  have hnm := (name_of_methodNamed Bd.named Bd.method).1
  have X0 : Stand pP l eE ({ frames := 0, cells := 0, slots := 0, locals := 0 } : Room) sS mM #[(.ref a)] below meth cC s₁ [] 0 0 := Stand.of_body Bd
  have e0 : s₁.heap = h0 := by rw [← hh, Bd.state]; rfl
  have N0 := Fr.nil n0
  have pre0 : ∀ t_, Steps pP.tables eE below (s₁.setTop (mkF mM 0 #[.val (.ref a)] [])) t_ → Steps pP.tables eE below (s₁.setTop (entryFrame mM #[(.ref a)] 1)) t_ := fun t_ k_ => castTop (ef_sil mM a) k_
  obtain ⟨T_1, X_1, e_1, st_1⟩ := getS2 X0 hx hZ hown (host := "") (Or.inl (ow hw 26 rfl)) Via.refl e0 S_String_COMPACT_STRINGS (g := (mkF mM 0 #[.val (.ref a)] [])) rfl (hb hby d_jdk_42m154_0)
  obtain ⟨T_2, X_2, e_2, st_2⟩ := getF X_1 hx hZ hown (host := "") (Or.inl (ow hw 46 rfl)) Via.refl e_1 F_coder_a (g := (mkF mM 7 #[.val (.ref a)] [(.ref a)])) rfl rfl (hb hby d_jdk_42m154_7)
  obtain ⟨fs, hr, hrun, hended, hW, hsame⟩ := X_2.leave (v := some (.int (1 : Int32))) (fun h => by rw [Bd.returns] at h; cases h)
  refine ⟨_, _, pre0 _ ?_, hrun, hended, _, _, rfl, ?_, ⟨_, rfl⟩, hW, hsame.mono (by decide) (by decide)⟩
  · show oS pP eE below s₁ (mkF mM 0 #[.val (.ref a)] []) _
    refine st_1 _ ?_
    show oS pP eE below T_1 (mkF mM 3 #[.val (.ref a)] [(.int cs)]) _
    refine XS.ifNo X_1.here hx rfl (hb hby d_jdk_42m154_3) rfl (XT.i0_eq_f hcs) ?_
    refine XS.aloadN X_1.here hx rfl (hb hby d_jdk_42m154_6) rfl rfl ?_
    show oS pP eE below T_1 (mkF mM 7 #[.val (.ref a)] [(.ref a)]) _
    refine st_2 _ ?_
    show oS pP eE below T_2 (mkF mM 10 #[.val (.ref a)] [(.int (0 : Int32))]) _
    refine XS.ifNo X_2.here hx rfl (hb hby d_jdk_42m154_10) rfl (by decide) ?_
    refine XS.iconst X_2.here hx rfl (hb hby d_jdk_42m154_13) ?_
    refine XS.goto X_2.here hx rfl (pc0 := 14) (pc' := 18) rfl (hb hby d_jdk_42m154_14) (by decide) (by decide) ?_
    show oS pP eE below T_2 (mkF mM 18 #[.val (.ref a)] [(.int (1 : Int32))]) _
    exact retN X_2 hx (t := .boolean) Bd.returns (by simp) (hb hby d_jdk_42m154_18) hr
  · show Q_sil Z a cs h0 n0 _ T_2.heap _
    rw [e_2]
    exact ⟨rfl, N0, rfl⟩
theorem d_jdk_42m56_0 : decode jdk_42_method_56_code 0 = .ok (.aload_n 0, 1) := by decide +kernel
theorem d_jdk_42m56_1 : decode jdk_42_method_56_code 1 = .ok (.invokevirtual 492, 3) := by decide +kernel
abbrev MN30 : MethodName := ⟨"java/lang/String", "isLatin1", "()Z"⟩
theorem d_jdk_42m56_4 : decode jdk_42_method_56_code 4 = .ok (.ifCond .eq 12, 3) := by decide +kernel
theorem d_jdk_42m56_7 : decode jdk_42_method_56_code 7 = .ok (.aload_n 0, 1) := by decide +kernel
theorem d_jdk_42m56_8 : decode jdk_42_method_56_code 8 = .ok (.getfield 9, 3) := by decide +kernel
theorem d_jdk_42m56_11 : decode jdk_42_method_56_code 11 = .ok (.iload_n 1, 1) := by decide +kernel
theorem d_jdk_42m56_12 : decode jdk_42_method_56_code 12 = .ok (.invokestatic 495, 3) := by decide +kernel
theorem pd_24 : parseMethodDescriptor "([BI)C" = some ⟨[(.array .byte), .int], some .char⟩ := by decide +kernel
abbrev MN31 : MethodName := ⟨"java/lang/StringLatin1", "charAt", "([BI)C"⟩
theorem d_jdk_42m56_15 : decode jdk_42_method_56_code 15 = .ok (.ireturn, 1) := by decide +kernel
theorem ef_chatr (mM : MethodId) (x0 : Addr) (x1 : Int32) : entryFrame mM #[(.ref x0), (.int x1)] 2 = mkF mM 0 #[.val (.ref x0), .val (.int x1)] [] := by first | (simp [entryFrame, mkF, argsToLocals, Value.category]; done) | rfl
def Q_chatr (Z : State) (fm : Addr) (a : Addr) (d : Addr) (k : ClassId) (x0 : Int32) (cs : Int32) (h0 : Heap) (n0 : Nat) (v_ : Option Value) (h_ : Heap) (L_ : List Loc) : Prop := v_ = some (.int (nar .char (nar .char ((x0 &&& (255 : Int32)).toUInt32.toUInt16.toUInt32.toInt32)))) ∧ Fr n0 L_ ∧ h_ = h0
set_option maxRecDepth 65536 in
set_option maxHeartbeats 40000000 in
theorem rm_chatr (l : Launch) (Z : State) (a0 : Array Value) (hw : ∀ d ∈ tables_1, d.before a0 Z = true) (ws : List Jvm.Cond) (fm : Addr) (a : Addr) (d : Addr) (k : ClassId) (x0 : Int32) (cs : Int32) (h0 : Heap) (n0 : Nat) (Z0 : n0 ≤ h0.size) (S_Preconditions_SIOOBE_FORMATTER : Sta Z h0 "jdk/internal/util/Preconditions" "SIOOBE_FORMATTER" "Ljava/util/function/BiFunction;" (.ref fm)) (F_value_a : Fld Z h0 a "java/lang/String" "value" "[B" (.ref d)) (F_coder_a : Fld Z h0 a "java/lang/String" "coder" "B" (.int (0 : Int32))) (E_a : Exa Z h0 a "java/lang/String") (V_d : Arv Z h0 d k .byte (42 : Int32) [(.int (83 : Int32)), (.int (69 : Int32)), (.int (84 : Int32)), (.int (32 : Int32)), (.int (83 : Int32)), (.int (84 : Int32)), (.int (65 : Int32)), (.int (84 : Int32)), (.int (69 : Int32)), (.int (77 : Int32)), (.int (69 : Int32)), (.int (78 : Int32)), (.int (84 : Int32)), (.int (32 : Int32)), (.int (102 : Int32)), (.int (111 : Int32)), (.int (114 : Int32)), (.int (101 : Int32)), (.int (105 : Int32)), (.int (103 : Int32)), (.int (110 : Int32)), (.int (95 : Int32)), (.int (107 : Int32)), (.int (101 : Int32)), (.int (121 : Int32)), (.int (95 : Int32)), (.int (99 : Int32)), (.int (104 : Int32)), (.int (101 : Int32)), (.int (99 : Int32)), (.int (107 : Int32)), (.int (115 : Int32)), (.int (32 : Int32)), (.int (61 : Int32)), (.int (32 : Int32)), (.int (48 : Int32)), (.int (32 : Int32)), (.int (70 : Int32)), (.int (79 : Int32)), (.int (82 : Int32)), (.int (32 : Int32)), (.int x0)] (.int (0 : Int32))) (S_String_COMPACT_STRINGS : Sta Z h0 "java/lang/String" "COMPACT_STRINGS" "Z" (.int cs)) (hcs : ¬ cs = 0) :
    MetFree l (⟨"java/lang/String", "charAt", "(I)C"⟩ : MethodName) (head1 (Jvm.Cond.code (⟨"java/lang/String", "charAt", "(I)C"⟩ : MethodName) jdk_42_method_56_code 2 (some .char) :: ws) ({ frames := 3, cells := 0, slots := 0, locals := 40 } : Room)) (fun aa_ U_ => aa_ = #[(.ref a), (.int (41 : Int32))] ∧ Z.Warmed39 U_.vm ∧ U_.heap = h0) (fun _ _ _ _ _ => True) (fun _ U_ o_ U'_ => ∃ v_ L_, o_ = .returned v_ ∧ Q_chatr Z fm a d k x0 cs h0 n0 v_ U'_.heap L_ ∧ FrameEnd U_ o_ U'_ L_ ({ frames := 3, cells := 0, slots := 0, locals := 40 } : Room).cells ({ frames := 3, cells := 0, slots := 0, locals := 40 } : Room).slots) := by
  refine MetFree.of_bodySF (plainFor_of_name pn_2) hisR ?_
  intro pP eE sS mM argsA below meth cC s₁ Bd hml0 hP hK
  obtain ⟨rfl, hZ, hh⟩ := hP
  have hx := Bd.exec
  have hby := Bd.bytes
  have hml : cC.maxLocals = 2 := hml0
  have hown : sS.vm.findClass "java/lang/String" = some mM.cls := findClass_of_methodNamed Bd.named
  have hnm := (name_of_methodNamed Bd.named Bd.method).1
  have X0 : Stand pP l eE ({ frames := 3, cells := 0, slots := 0, locals := 40 } : Room) sS mM #[(.ref a), (.int (41 : Int32))] below meth cC s₁ [] 0 0 := Stand.of_body Bd
  have e0 : s₁.heap = h0 := by rw [← hh, Bd.state]; rfl
  have N0 := Fr.nil n0
  have pre0 : ∀ t_, Steps pP.tables eE below (s₁.setTop (mkF mM 0 #[.val (.ref a), .val (.int (41 : Int32))] [])) t_ → Steps pP.tables eE below (s₁.setTop (entryFrame mM #[(.ref a), (.int (41 : Int32))] 2)) t_ := fun t_ k_ => castTop (ef_chatr mM a (41 : Int32)) k_
  obtain ⟨cq_1, kq_1, q_1a, q_1b, q_1c⟩ := isOf hZ e0 E_a
  obtain ⟨_, _, ⟨T_1, L_1, k_1, n_1⟩, -, X_1, ⟨Lc_1, hQ_1, l_1, y_1, z_1⟩, st_1⟩ := X0.virtualBack hx (y := MN30) (z := MN30) hown (mvT hZ (ow hw 186 rfl)) (mvT hZ (ow hw 187 rfl)) (notFace_of_selects (args := #[]) (mvT hZ (ow hw 189 rfl))) (mvT hZ (ow hw 189 rfl)) (mvT hZ (ow hw 188 rfl)) (by decide) (backOf (W := 0) (rm_sil l Z a0 hw [] a cs h0 n0 Z0 F_coder_a S_String_COMPACT_STRINGS hcs) hZ (ow hw 190 rfl) (ow hw 24 rfl) (by decide) (by decide)) q_1a q_1c (g := (mkF mM 1 #[.val (.ref a), .val (.int (41 : Int32))] [(.ref a)])) rfl (by rw [hml]; rfl) (Steps.refl _) (argsL := []) (rest := []) (lenOf pd_17 rfl) rfl (by show 2 * 0 + _ ≤ _; exact Nat.le_of_eq rfl) (hb hby d_jdk_42m56_1) (fun _ _ => ⟨rfl, e0, (by decide : 0 + 0 ≤ _), (by decide : 0 + 0 ≤ _)⟩)
  dsimp only [Pt.U, Pt.locs, Pt.cells, Pt.slots] at X_1 l_1 y_1 z_1 st_1 hQ_1
  subst l_1 y_1 z_1
  obtain ⟨rfl, N_1q, eh_1⟩ := hQ_1
  have N_1 := Fr.app N0 N_1q
  obtain ⟨T_2, X_2, e_2, st_2⟩ := getF X_1 hx hZ hown (host := "") (Or.inl (ow hw 44 rfl)) Via.refl eh_1 F_value_a (g := (mkF mM 8 #[.val (.ref a), .val (.int (41 : Int32))] [(.ref a)])) rfl rfl (hb hby d_jdk_42m56_8)
  obtain ⟨_, _, ⟨T_3, L_3, k_3, n_3⟩, -, X_3, ⟨Lc_3, hQ_3, l_3, y_3, z_3⟩, st_3⟩ := Jvm.LawKit.callS X_2 hx (y := MN31) hown (mvT hZ (ow hw 191 rfl)) (mvT hZ (ow hw 192 rfl)) (mvT hZ (ow hw 29 rfl)) (mvT hZ (ow hw 193 rfl)) (by decide) (backOf (W := 0) (rm_lcar l Z a0 hw [] fm d k x0 h0 n0 Z0 S_Preconditions_SIOOBE_FORMATTER V_d) hZ (ow hw 193 rfl) (ow hw 29 rfl) (by decide) (by decide)) (g := (mkF mM 12 #[.val (.ref a), .val (.int (41 : Int32))] [(.int (41 : Int32)), (.ref d)])) rfl (by rw [hml]; rfl) (argsL := [(.ref d), (.int (41 : Int32))]) (rest := []) (lenOf pd_24 rfl) rfl (by show 2 * 0 + _ ≤ _; exact Nat.le_of_eq rfl) (hb hby d_jdk_42m56_12) (fun _ _ => ⟨rfl, e_2, (by decide : 0 + 0 ≤ _), (by decide : 0 + 0 ≤ _)⟩)
  dsimp only [Pt.U, Pt.locs, Pt.cells, Pt.slots] at X_3 l_3 y_3 z_3 st_3 hQ_3
  subst l_3 y_3 z_3
  obtain ⟨rfl, N_3q, eh_3⟩ := hQ_3
  have N_3 := Fr.app N_1 N_3q
  obtain ⟨fs, hr, hrun, hended, hW, hsame⟩ := X_3.leave (v := some (.int (nar .char (nar .char ((x0 &&& (255 : Int32)).toUInt32.toUInt16.toUInt32.toInt32))))) (fun h => by rw [Bd.returns] at h; cases h)
  refine ⟨_, _, pre0 _ ?_, hrun, hended, _, _, rfl, ?_, ⟨_, rfl⟩, hW, hsame.mono (by decide) (by decide)⟩
  · show oS pP eE below s₁ (mkF mM 0 #[.val (.ref a), .val (.int (41 : Int32))] []) _
    refine XS.aloadN X0.here hx rfl (hb hby d_jdk_42m56_0) rfl rfl ?_
    show oS pP eE below s₁ (mkF mM 1 #[.val (.ref a), .val (.int (41 : Int32))] [(.ref a)]) _
    refine st_1.trans ?_
    show oS pP eE below T_1 (mkF mM 4 #[.val (.ref a), .val (.int (41 : Int32))] [(.int (1 : Int32))]) _
    refine XS.ifNo X_1.here hx rfl (hb hby d_jdk_42m56_4) rfl (by decide) ?_
    refine XS.aloadN X_1.here hx rfl (hb hby d_jdk_42m56_7) rfl rfl ?_
    show oS pP eE below T_1 (mkF mM 8 #[.val (.ref a), .val (.int (41 : Int32))] [(.ref a)]) _
    refine st_2 _ ?_
    show oS pP eE below T_2 (mkF mM 11 #[.val (.ref a), .val (.int (41 : Int32))] [(.ref d)]) _
    refine XS.iloadN X_2.here hx rfl (hb hby d_jdk_42m56_11) rfl ?_
    show oS pP eE below T_2 (mkF mM 12 #[.val (.ref a), .val (.int (41 : Int32))] [(.int (41 : Int32)), (.ref d)]) _
    refine st_3 _ ?_
    show oS pP eE below T_3 (mkF mM 15 #[.val (.ref a), .val (.int (41 : Int32))] [(.int (nar .char ((x0 &&& (255 : Int32)).toUInt32.toUInt16.toUInt32.toInt32)))]) _
    exact retN X_3 hx (t := .char) Bd.returns (by simp) (hb hby d_jdk_42m56_15) hr
  · show Q_chatr Z fm a d k x0 cs h0 n0 _ T_3.heap _
    rw [eh_3]
    exact ⟨rfl, N_3, rfl⟩
theorem ef_pcin (mM : MethodId) (x0 : Int32) (x1 : Int32) : entryFrame mM #[(.int x0), (.int x1), .null] 3 = mkF mM 0 #[.val (.int x0), .val (.int x1), .val .null] [] := by first | (simp [entryFrame, mkF, argsToLocals, Value.category]; done) | rfl
def Q_pcin (Z : State)  (h0 : Heap) (n0 : Nat) (v_ : Option Value) (h_ : Heap) (L_ : List Loc) : Prop := v_ = some (.int (41 : Int32)) ∧ Fr n0 L_ ∧ h_ = h0
set_option maxRecDepth 65536 in
set_option maxHeartbeats 40000000 in
theorem rm_pcin (l : Launch) (Z : State) (a0 : Array Value) (hw : ∀ d ∈ tables_1, d.before a0 Z = true) (ws : List Jvm.Cond)  (h0 : Heap) (n0 : Nat) (Z0 : n0 ≤ h0.size) :
    MetFree l (⟨"jdk/internal/util/Preconditions", "checkIndex", "(IILjava/util/function/BiFunction;)I"⟩ : MethodName) (head1 (Jvm.Cond.code (⟨"jdk/internal/util/Preconditions", "checkIndex", "(IILjava/util/function/BiFunction;)I"⟩ : MethodName) jdk_41_method_11_code 3 (some .int) :: ws) ({ frames := 0, cells := 0, slots := 0, locals := 0 } : Room)) (fun aa_ U_ => aa_ = #[(.int (41 : Int32)), (.int (42 : Int32)), .null] ∧ Z.Warmed39 U_.vm ∧ U_.heap = h0) (fun _ _ _ _ _ => True) (fun _ U_ o_ U'_ => ∃ v_ L_, o_ = .returned v_ ∧ Q_pcin Z  h0 n0 v_ U'_.heap L_ ∧ FrameEnd U_ o_ U'_ L_ ({ frames := 0, cells := 0, slots := 0, locals := 0 } : Room).cells ({ frames := 0, cells := 0, slots := 0, locals := 0 } : Room).slots) := by
  refine MetFree.of_bodySF (plainFor_of_name pn_7) hisR ?_
  intro pP eE sS mM argsA below meth cC s₁ Bd hml0 hP hK
  obtain ⟨rfl, hZ, hh⟩ := hP
  have hx := Bd.exec
  have hby := Bd.bytes
  have hml : cC.maxLocals = 3 := hml0
  have hown : sS.vm.findClass "jdk/internal/util/Preconditions" = some mM.cls := findClass_of_methodNamed Bd.named
  have hnm := (name_of_methodNamed Bd.named Bd.method).1
  have X0 : Stand pP l eE ({ frames := 0, cells := 0, slots := 0, locals := 0 } : Room) sS mM #[(.int (41 : Int32)), (.int (42 : Int32)), .null] below meth cC s₁ [] 0 0 := Stand.of_body Bd
  have e0 : s₁.heap = h0 := by rw [← hh, Bd.state]; rfl
  have N0 := Fr.nil n0
  have pre0 : ∀ t_, Steps pP.tables eE below (s₁.setTop (mkF mM 0 #[.val (.int (41 : Int32)), .val (.int (42 : Int32)), .val .null] [])) t_ → Steps pP.tables eE below (s₁.setTop (entryFrame mM #[(.int (41 : Int32)), (.int (42 : Int32)), .null] 3)) t_ := fun t_ k_ => castTop (ef_pcin mM (41 : Int32) (42 : Int32)) k_
  obtain ⟨fs, hr, hrun, hended, hW, hsame⟩ := X0.leave (v := some (.int (41 : Int32))) (fun h => by rw [Bd.returns] at h; cases h)
  refine ⟨_, _, pre0 _ ?_, hrun, hended, _, _, rfl, ?_, ⟨_, rfl⟩, hW, hsame.mono (by decide) (by decide)⟩
  · show oS pP eE below s₁ (mkF mM 0 #[.val (.int (41 : Int32)), .val (.int (42 : Int32)), .val .null] []) _
    refine XS.iloadN X0.here hx rfl (hb hby d_jdk_41m11_0) rfl ?_
    refine XS.ifNo X0.here hx rfl (hb hby d_jdk_41m11_1) rfl (by decide) ?_
    refine XS.iloadN X0.here hx rfl (hb hby d_jdk_41m11_4) rfl ?_
    refine XS.iloadN X0.here hx rfl (hb hby d_jdk_41m11_5) rfl ?_
    show oS pP eE below s₁ (mkF mM 6 #[.val (.int (41 : Int32)), .val (.int (42 : Int32)), .val .null] [(.int (42 : Int32)), (.int (41 : Int32))]) _
    refine XS.icmpYes X0.here hx rfl (pc0 := 6) (pc' := 16) rfl (hb hby d_jdk_41m11_6) rfl (by decide) (by decide) (by decide) ?_
    refine XS.iloadN X0.here hx rfl (hb hby d_jdk_41m11_16) rfl ?_
    show oS pP eE below s₁ (mkF mM 17 #[.val (.int (41 : Int32)), .val (.int (42 : Int32)), .val .null] [(.int (41 : Int32))]) _
    exact retI X0 hx Bd.returns (hb hby d_jdk_41m11_17) hr
  · show Q_pcin Z  h0 n0 _ s₁.heap _
    rw [e0]
    exact ⟨rfl, N0, rfl⟩
theorem ef_scin (mM : MethodId) (x0 : Int32) (x1 : Int32) : entryFrame mM #[(.int x0), (.int x1)] 2 = mkF mM 0 #[.val (.int x0), .val (.int x1)] [] := by first | (simp [entryFrame, mkF, argsToLocals, Value.category]; done) | rfl
def Q_scin (Z : State)  (h0 : Heap) (n0 : Nat) (v_ : Option Value) (h_ : Heap) (L_ : List Loc) : Prop := v_ = none ∧ Fr n0 L_ ∧ h_ = h0
set_option maxRecDepth 65536 in
set_option maxHeartbeats 40000000 in
theorem rm_scin (l : Launch) (Z : State) (a0 : Array Value) (hw : ∀ d ∈ tables_1, d.before a0 Z = true) (ws : List Jvm.Cond)  (h0 : Heap) (n0 : Nat) (Z0 : n0 ≤ h0.size) (S_Preconditions_SIOOBE_FORMATTER : Sta Z h0 "jdk/internal/util/Preconditions" "SIOOBE_FORMATTER" "Ljava/util/function/BiFunction;" .null) :
    MetFree l (⟨"java/lang/String", "checkIndex", "(II)V"⟩ : MethodName) (head1 (Jvm.Cond.code (⟨"java/lang/String", "checkIndex", "(II)V"⟩ : MethodName) jdk_42_method_155_code 2 none :: ws) ({ frames := 1, cells := 0, slots := 0, locals := 14 } : Room)) (fun aa_ U_ => aa_ = #[(.int (41 : Int32)), (.int (42 : Int32))] ∧ Z.Warmed39 U_.vm ∧ U_.heap = h0) (fun _ _ _ _ _ => True) (fun _ U_ o_ U'_ => ∃ v_ L_, o_ = .returned v_ ∧ Q_scin Z  h0 n0 v_ U'_.heap L_ ∧ FrameEnd U_ o_ U'_ L_ ({ frames := 1, cells := 0, slots := 0, locals := 14 } : Room).cells ({ frames := 1, cells := 0, slots := 0, locals := 14 } : Room).slots) := by
  refine MetFree.of_bodySF (plainFor_of_name pn_2) hisR ?_
  intro pP eE sS mM argsA below meth cC s₁ Bd hml0 hP hK
  obtain ⟨rfl, hZ, hh⟩ := hP
  have hx := Bd.exec
  have hby := Bd.bytes
  have hml : cC.maxLocals = 2 := hml0
  have hown : sS.vm.findClass "java/lang/String" = some mM.cls := findClass_of_methodNamed Bd.named
  have hnm := (name_of_methodNamed Bd.named Bd.method).1
  have X0 : Stand pP l eE ({ frames := 1, cells := 0, slots := 0, locals := 14 } : Room) sS mM #[(.int (41 : Int32)), (.int (42 : Int32))] below meth cC s₁ [] 0 0 := Stand.of_body Bd
  have e0 : s₁.heap = h0 := by rw [← hh, Bd.state]; rfl
  have N0 := Fr.nil n0
  have pre0 : ∀ t_, Steps pP.tables eE below (s₁.setTop (mkF mM 0 #[.val (.int (41 : Int32)), .val (.int (42 : Int32))] [])) t_ → Steps pP.tables eE below (s₁.setTop (entryFrame mM #[(.int (41 : Int32)), (.int (42 : Int32))] 2)) t_ := fun t_ k_ => castTop (ef_scin mM (41 : Int32) (42 : Int32)) k_
  obtain ⟨T_1, X_1, e_1, st_1⟩ := getS2 X0 hx hZ hown (host := "") (Or.inl (ow hw 197 rfl)) Via.refl e0 S_Preconditions_SIOOBE_FORMATTER (g := (mkF mM 2 #[.val (.int (41 : Int32)), .val (.int (42 : Int32))] [(.int (42 : Int32)), (.int (41 : Int32))])) rfl (hb hby d_jdk_42m155_2)
  obtain ⟨_, _, ⟨T_2, L_2, k_2, n_2⟩, -, X_2, ⟨Lc_2, hQ_2, l_2, y_2, z_2⟩, st_2⟩ := Jvm.LawKit.callS X_1 hx (y := MN28) hown (mvT hZ (ow hw 199 rfl)) (mvT hZ (ow hw 200 rfl)) (mvT hZ (ow hw 198 rfl)) (mvT hZ (ow hw 201 rfl)) (by decide) (backOf (W := 0) (rm_pcin l Z a0 hw []  h0 n0 Z0 ) hZ (ow hw 201 rfl) (ow hw 198 rfl) (by decide) (by decide)) (g := (mkF mM 5 #[.val (.int (41 : Int32)), .val (.int (42 : Int32))] [.null, (.int (42 : Int32)), (.int (41 : Int32))])) rfl (by rw [hml]; rfl) (argsL := [(.int (41 : Int32)), (.int (42 : Int32)), .null]) (rest := []) (lenOf pd_23 rfl) rfl (by show 2 * 0 + _ ≤ _; exact Nat.le_of_eq rfl) (hb hby d_jdk_42m155_5) (fun _ _ => ⟨rfl, e_1, (by decide : 0 + 0 ≤ _), (by decide : 0 + 0 ≤ _)⟩)
  dsimp only [Pt.U, Pt.locs, Pt.cells, Pt.slots] at X_2 l_2 y_2 z_2 st_2 hQ_2
  subst l_2 y_2 z_2
  obtain ⟨rfl, N_2q, eh_2⟩ := hQ_2
  have N_2 := Fr.app N0 N_2q
  obtain ⟨fs, hr, hrun, hended, hW, hsame⟩ := X_2.leave (v := none) (fun _ => rfl)
  refine ⟨_, _, pre0 _ ?_, hrun, hended, _, _, rfl, ?_, ⟨_, rfl⟩, hW, hsame.mono (by decide) (by decide)⟩
  · show oS pP eE below s₁ (mkF mM 0 #[.val (.int (41 : Int32)), .val (.int (42 : Int32))] []) _
    refine XS.iloadN X0.here hx rfl (hb hby d_jdk_42m155_0) rfl ?_
    refine XS.iloadN X0.here hx rfl (hb hby d_jdk_42m155_1) rfl ?_
    show oS pP eE below s₁ (mkF mM 2 #[.val (.int (41 : Int32)), .val (.int (42 : Int32))] [(.int (42 : Int32)), (.int (41 : Int32))]) _
    refine st_1 _ ?_
    show oS pP eE below T_1 (mkF mM 5 #[.val (.int (41 : Int32)), .val (.int (42 : Int32))] [.null, (.int (42 : Int32)), (.int (41 : Int32))]) _
    refine st_2 _ ?_
    show oS pP eE below T_2 (mkF mM 8 #[.val (.int (41 : Int32)), .val (.int (42 : Int32))] [(.int (41 : Int32))]) _
    refine XT.pop X_2.here hx rfl (hb hby d_jdk_42m155_8) rfl rfl ?_
    show oS pP eE below T_2 (mkF mM 9 #[.val (.int (41 : Int32)), .val (.int (42 : Int32))] []) _
    exact X_2.returnOut hx Bd.returns (hb hby d_jdk_42m155_9) hr
  · show Q_scin Z  h0 n0 _ T_2.heap _
    rw [eh_2]
    exact ⟨rfl, N_2, rfl⟩
theorem ef_lcan (mM : MethodId) (x0 : Addr) (x1 : Int32) : entryFrame mM #[(.ref x0), (.int x1)] 2 = mkF mM 0 #[.val (.ref x0), .val (.int x1)] [] := by first | (simp [entryFrame, mkF, argsToLocals, Value.category]; done) | rfl
def Q_lcan (Z : State) (d : Addr) (k : ClassId) (x0 : Int32) (h0 : Heap) (n0 : Nat) (v_ : Option Value) (h_ : Heap) (L_ : List Loc) : Prop := v_ = some (.int (nar .char ((x0 &&& (255 : Int32)).toUInt32.toUInt16.toUInt32.toInt32))) ∧ Fr n0 L_ ∧ h_ = h0
set_option maxRecDepth 65536 in
set_option maxHeartbeats 40000000 in
theorem rm_lcan (l : Launch) (Z : State) (a0 : Array Value) (hw : ∀ d ∈ tables_1, d.before a0 Z = true) (ws : List Jvm.Cond) (d : Addr) (k : ClassId) (x0 : Int32) (h0 : Heap) (n0 : Nat) (Z0 : n0 ≤ h0.size) (S_Preconditions_SIOOBE_FORMATTER : Sta Z h0 "jdk/internal/util/Preconditions" "SIOOBE_FORMATTER" "Ljava/util/function/BiFunction;" .null) (V_d : Arv Z h0 d k .byte (42 : Int32) [(.int (83 : Int32)), (.int (69 : Int32)), (.int (84 : Int32)), (.int (32 : Int32)), (.int (83 : Int32)), (.int (84 : Int32)), (.int (65 : Int32)), (.int (84 : Int32)), (.int (69 : Int32)), (.int (77 : Int32)), (.int (69 : Int32)), (.int (78 : Int32)), (.int (84 : Int32)), (.int (32 : Int32)), (.int (102 : Int32)), (.int (111 : Int32)), (.int (114 : Int32)), (.int (101 : Int32)), (.int (105 : Int32)), (.int (103 : Int32)), (.int (110 : Int32)), (.int (95 : Int32)), (.int (107 : Int32)), (.int (101 : Int32)), (.int (121 : Int32)), (.int (95 : Int32)), (.int (99 : Int32)), (.int (104 : Int32)), (.int (101 : Int32)), (.int (99 : Int32)), (.int (107 : Int32)), (.int (115 : Int32)), (.int (32 : Int32)), (.int (61 : Int32)), (.int (32 : Int32)), (.int (48 : Int32)), (.int (32 : Int32)), (.int (70 : Int32)), (.int (79 : Int32)), (.int (82 : Int32)), (.int (32 : Int32)), (.int x0)] (.int (0 : Int32))) :
    MetFree l (⟨"java/lang/StringLatin1", "charAt", "([BI)C"⟩ : MethodName) (head1 (Jvm.Cond.code (⟨"java/lang/StringLatin1", "charAt", "([BI)C"⟩ : MethodName) jdk_43_method_2_code 2 (some .char) :: ws) ({ frames := 2, cells := 0, slots := 0, locals := 27 } : Room)) (fun aa_ U_ => aa_ = #[(.ref d), (.int (41 : Int32))] ∧ Z.Warmed39 U_.vm ∧ U_.heap = h0) (fun _ _ _ _ _ => True) (fun _ U_ o_ U'_ => ∃ v_ L_, o_ = .returned v_ ∧ Q_lcan Z d k x0 h0 n0 v_ U'_.heap L_ ∧ FrameEnd U_ o_ U'_ L_ ({ frames := 2, cells := 0, slots := 0, locals := 27 } : Room).cells ({ frames := 2, cells := 0, slots := 0, locals := 27 } : Room).slots) := by
  refine MetFree.of_bodySF (plainFor_of_name pn_1) hisR ?_
  intro pP eE sS mM argsA below meth cC s₁ Bd hml0 hP hK
  obtain ⟨rfl, hZ, hh⟩ := hP
  have hx := Bd.exec
  have hby := Bd.bytes
  have hml : cC.maxLocals = 2 := hml0
  have hown : sS.vm.findClass "java/lang/StringLatin1" = some mM.cls := findClass_of_methodNamed Bd.named
  have hnm := (name_of_methodNamed Bd.named Bd.method).1
  have X0 : Stand pP l eE ({ frames := 2, cells := 0, slots := 0, locals := 27 } : Room) sS mM #[(.ref d), (.int (41 : Int32))] below meth cC s₁ [] 0 0 := Stand.of_body Bd
  have e0 : s₁.heap = h0 := by rw [← hh, Bd.state]; rfl
  have N0 := Fr.nil n0
  have pre0 : ∀ t_, Steps pP.tables eE below (s₁.setTop (mkF mM 0 #[.val (.ref d), .val (.int (41 : Int32))] [])) t_ → Steps pP.tables eE below (s₁.setTop (entryFrame mM #[(.ref d), (.int (41 : Int32))] 2)) t_ := fun t_ k_ => castTop (ef_lcan mM d (41 : Int32)) k_
  obtain ⟨cl_1, Ar_1, -, Sa_1, Na_1, -, -⟩ := id V_d
  obtain ⟨_, _, ⟨T_2, L_2, k_2, n_2⟩, -, X_2, ⟨Lc_2, hQ_2, l_2, y_2, z_2⟩, st_2⟩ := Jvm.LawKit.callS X0 hx (y := MN29) hown (mvT hZ (ow hw 194 rfl)) (mvT hZ (ow hw 195 rfl)) (mvT hZ (ow hw 24 rfl)) (mvT hZ (ow hw 196 rfl)) (by decide) (backOf (W := 0) (rm_scin l Z a0 hw []  h0 n0 Z0 S_Preconditions_SIOOBE_FORMATTER) hZ (ow hw 196 rfl) (ow hw 24 rfl) (by decide) (by decide)) (g := (mkF mM 3 #[.val (.ref d), .val (.int (41 : Int32))] [(.int (42 : Int32)), (.int (41 : Int32))])) rfl (by rw [hml]; rfl) (argsL := [(.int (41 : Int32)), (.int (42 : Int32))]) (rest := []) (lenOf pd_14 rfl) rfl (by show 2 * 0 + _ ≤ _; exact Nat.le_of_eq rfl) (hb hby d_jdk_43m2_3) (fun _ _ => ⟨rfl, e0, (by decide : 0 + 0 ≤ _), (by decide : 0 + 0 ≤ _)⟩)
  dsimp only [Pt.U, Pt.locs, Pt.cells, Pt.slots] at X_2 l_2 y_2 z_2 st_2 hQ_2
  subst l_2 y_2 z_2
  obtain ⟨rfl, N_2q, eh_2⟩ := hQ_2
  have N_2 := Fr.app N0 N_2q
  obtain ⟨cl_3, Ar_3, qa_3, Sa_3, Na_3, Ha_3, Ga_3⟩ := id V_d
  have hin_3 : ¬ ((41 : Int32) < 0 ∨ cl_3.slots.size ≤ ((41 : Int32)).toNatClampNeg) := inb_of Sa_3 ⟨by decide, by decide⟩
  have hat_3 : cl_3.slots[((41 : Int32)).toNatClampNeg]? = some (.int x0) := Has.at Ha_3 hin_3 rfl
  obtain ⟨fs, hr, hrun, hended, hW, hsame⟩ := X_2.leave (v := some (.int (nar .char ((x0 &&& (255 : Int32)).toUInt32.toUInt16.toUInt32.toInt32)))) (fun h => by rw [Bd.returns] at h; cases h)
  refine ⟨_, _, pre0 _ ?_, hrun, hended, _, _, rfl, ?_, ⟨_, rfl⟩, hW, hsame.mono (by decide) (by decide)⟩
  · show oS pP eE below s₁ (mkF mM 0 #[.val (.ref d), .val (.int (41 : Int32))] []) _
    refine XS.iloadN X0.here hx rfl (hb hby d_jdk_43m2_0) rfl ?_
    refine XS.aloadN X0.here hx rfl (hb hby d_jdk_43m2_1) rfl rfl ?_
    show oS pP eE below s₁ (mkF mM 2 #[.val (.ref d), .val (.int (41 : Int32))] [(.ref d), (.int (41 : Int32))]) _
    refine X0.arraylength hx (by rw [e0]; exact Ar_1.1) (State.isArrayOf_alike hZ.alike Ar_1.2.1) (g := (mkF mM 2 #[.val (.ref d), .val (.int (41 : Int32))] [(.ref d), (.int (41 : Int32))])) rfl rfl (hb hby d_jdk_43m2_2) _ ?_
    rw [len_of Sa_1 Na_1]
    show oS pP eE below s₁ (mkF mM 3 #[.val (.ref d), .val (.int (41 : Int32))] [(.int (42 : Int32)), (.int (41 : Int32))]) _
    refine st_2 _ ?_
    show oS pP eE below T_2 (mkF mM 6 #[.val (.ref d), .val (.int (41 : Int32))] []) _
    refine XS.aloadN X_2.here hx rfl (hb hby d_jdk_43m2_6) rfl rfl ?_
    refine XS.iloadN X_2.here hx rfl (hb hby d_jdk_43m2_7) rfl ?_
    show oS pP eE below T_2 (mkF mM 8 #[.val (.ref d), .val (.int (41 : Int32))] [(.int (41 : Int32)), (.ref d)]) _
    refine X_2.baloadBytes hx (j := (41 : Int32)) (v := (.int x0)) (by rw [eh_2]; exact Ar_3.1) (State.isArrayOf_alike hZ.alike Ar_3.2.1) Ar_3.2.2 hin_3 hat_3 (g := (mkF mM 8 #[.val (.ref d), .val (.int (41 : Int32))] [(.int (41 : Int32)), (.ref d)])) rfl rfl (hb hby d_jdk_43m2_8) _ ?_
    refine XS.sipush X_2.here hx rfl (hb hby d_jdk_43m2_9) ?_
    show oS pP eE below T_2 (mkF mM 12 #[.val (.ref d), .val (.int (41 : Int32))] [(.int (255 : Int32)), (.int x0)]) _
    refine XS.iand X_2.here hx rfl (hb hby d_jdk_43m2_12) rfl ?_
    show oS pP eE below T_2 (mkF mM 13 #[.val (.ref d), .val (.int (41 : Int32))] [(.int (x0 &&& (255 : Int32)))]) _
    refine XT.i2c X_2.here hx rfl (hb hby d_jdk_43m2_13) rfl ?_
    show oS pP eE below T_2 (mkF mM 14 #[.val (.ref d), .val (.int (41 : Int32))] [(.int ((x0 &&& (255 : Int32)).toUInt32.toUInt16.toUInt32.toInt32))]) _
    exact retN X_2 hx (t := .char) Bd.returns (by simp) (hb hby d_jdk_43m2_14) hr
  · show Q_lcan Z d k x0 h0 n0 _ T_2.heap _
    rw [eh_2]
    exact ⟨rfl, N_2, rfl⟩
theorem ef_chatn (mM : MethodId) (x0 : Addr) (x1 : Int32) : entryFrame mM #[(.ref x0), (.int x1)] 2 = mkF mM 0 #[.val (.ref x0), .val (.int x1)] [] := by first | (simp [entryFrame, mkF, argsToLocals, Value.category]; done) | rfl
def Q_chatn (Z : State) (a : Addr) (d : Addr) (k : ClassId) (x0 : Int32) (cs : Int32) (h0 : Heap) (n0 : Nat) (v_ : Option Value) (h_ : Heap) (L_ : List Loc) : Prop := v_ = some (.int (nar .char (nar .char ((x0 &&& (255 : Int32)).toUInt32.toUInt16.toUInt32.toInt32)))) ∧ Fr n0 L_ ∧ h_ = h0
set_option maxRecDepth 65536 in
set_option maxHeartbeats 40000000 in
theorem rm_chatn (l : Launch) (Z : State) (a0 : Array Value) (hw : ∀ d ∈ tables_1, d.before a0 Z = true) (ws : List Jvm.Cond) (a : Addr) (d : Addr) (k : ClassId) (x0 : Int32) (cs : Int32) (h0 : Heap) (n0 : Nat) (Z0 : n0 ≤ h0.size) (S_Preconditions_SIOOBE_FORMATTER : Sta Z h0 "jdk/internal/util/Preconditions" "SIOOBE_FORMATTER" "Ljava/util/function/BiFunction;" .null) (F_value_a : Fld Z h0 a "java/lang/String" "value" "[B" (.ref d)) (F_coder_a : Fld Z h0 a "java/lang/String" "coder" "B" (.int (0 : Int32))) (E_a : Exa Z h0 a "java/lang/String") (V_d : Arv Z h0 d k .byte (42 : Int32) [(.int (83 : Int32)), (.int (69 : Int32)), (.int (84 : Int32)), (.int (32 : Int32)), (.int (83 : Int32)), (.int (84 : Int32)), (.int (65 : Int32)), (.int (84 : Int32)), (.int (69 : Int32)), (.int (77 : Int32)), (.int (69 : Int32)), (.int (78 : Int32)), (.int (84 : Int32)), (.int (32 : Int32)), (.int (102 : Int32)), (.int (111 : Int32)), (.int (114 : Int32)), (.int (101 : Int32)), (.int (105 : Int32)), (.int (103 : Int32)), (.int (110 : Int32)), (.int (95 : Int32)), (.int (107 : Int32)), (.int (101 : Int32)), (.int (121 : Int32)), (.int (95 : Int32)), (.int (99 : Int32)), (.int (104 : Int32)), (.int (101 : Int32)), (.int (99 : Int32)), (.int (107 : Int32)), (.int (115 : Int32)), (.int (32 : Int32)), (.int (61 : Int32)), (.int (32 : Int32)), (.int (48 : Int32)), (.int (32 : Int32)), (.int (70 : Int32)), (.int (79 : Int32)), (.int (82 : Int32)), (.int (32 : Int32)), (.int x0)] (.int (0 : Int32))) (S_String_COMPACT_STRINGS : Sta Z h0 "java/lang/String" "COMPACT_STRINGS" "Z" (.int cs)) (hcs : ¬ cs = 0) :
    MetFree l (⟨"java/lang/String", "charAt", "(I)C"⟩ : MethodName) (head1 (Jvm.Cond.code (⟨"java/lang/String", "charAt", "(I)C"⟩ : MethodName) jdk_42_method_56_code 2 (some .char) :: ws) ({ frames := 3, cells := 0, slots := 0, locals := 40 } : Room)) (fun aa_ U_ => aa_ = #[(.ref a), (.int (41 : Int32))] ∧ Z.Warmed39 U_.vm ∧ U_.heap = h0) (fun _ _ _ _ _ => True) (fun _ U_ o_ U'_ => ∃ v_ L_, o_ = .returned v_ ∧ Q_chatn Z a d k x0 cs h0 n0 v_ U'_.heap L_ ∧ FrameEnd U_ o_ U'_ L_ ({ frames := 3, cells := 0, slots := 0, locals := 40 } : Room).cells ({ frames := 3, cells := 0, slots := 0, locals := 40 } : Room).slots) := by
  refine MetFree.of_bodySF (plainFor_of_name pn_2) hisR ?_
  intro pP eE sS mM argsA below meth cC s₁ Bd hml0 hP hK
  obtain ⟨rfl, hZ, hh⟩ := hP
  have hx := Bd.exec
  have hby := Bd.bytes
  have hml : cC.maxLocals = 2 := hml0
  have hown : sS.vm.findClass "java/lang/String" = some mM.cls := findClass_of_methodNamed Bd.named
  have hnm := (name_of_methodNamed Bd.named Bd.method).1
  have X0 : Stand pP l eE ({ frames := 3, cells := 0, slots := 0, locals := 40 } : Room) sS mM #[(.ref a), (.int (41 : Int32))] below meth cC s₁ [] 0 0 := Stand.of_body Bd
  have e0 : s₁.heap = h0 := by rw [← hh, Bd.state]; rfl
  have N0 := Fr.nil n0
  have pre0 : ∀ t_, Steps pP.tables eE below (s₁.setTop (mkF mM 0 #[.val (.ref a), .val (.int (41 : Int32))] [])) t_ → Steps pP.tables eE below (s₁.setTop (entryFrame mM #[(.ref a), (.int (41 : Int32))] 2)) t_ := fun t_ k_ => castTop (ef_chatn mM a (41 : Int32)) k_
  obtain ⟨cq_1, kq_1, q_1a, q_1b, q_1c⟩ := isOf hZ e0 E_a
  obtain ⟨_, _, ⟨T_1, L_1, k_1, n_1⟩, -, X_1, ⟨Lc_1, hQ_1, l_1, y_1, z_1⟩, st_1⟩ := X0.virtualBack hx (y := MN30) (z := MN30) hown (mvT hZ (ow hw 186 rfl)) (mvT hZ (ow hw 187 rfl)) (notFace_of_selects (args := #[]) (mvT hZ (ow hw 189 rfl))) (mvT hZ (ow hw 189 rfl)) (mvT hZ (ow hw 188 rfl)) (by decide) (backOf (W := 0) (rm_sil l Z a0 hw [] a cs h0 n0 Z0 F_coder_a S_String_COMPACT_STRINGS hcs) hZ (ow hw 190 rfl) (ow hw 24 rfl) (by decide) (by decide)) q_1a q_1c (g := (mkF mM 1 #[.val (.ref a), .val (.int (41 : Int32))] [(.ref a)])) rfl (by rw [hml]; rfl) (Steps.refl _) (argsL := []) (rest := []) (lenOf pd_17 rfl) rfl (by show 2 * 0 + _ ≤ _; exact Nat.le_of_eq rfl) (hb hby d_jdk_42m56_1) (fun _ _ => ⟨rfl, e0, (by decide : 0 + 0 ≤ _), (by decide : 0 + 0 ≤ _)⟩)
  dsimp only [Pt.U, Pt.locs, Pt.cells, Pt.slots] at X_1 l_1 y_1 z_1 st_1 hQ_1
  subst l_1 y_1 z_1
  obtain ⟨rfl, N_1q, eh_1⟩ := hQ_1
  have N_1 := Fr.app N0 N_1q
  obtain ⟨T_2, X_2, e_2, st_2⟩ := getF X_1 hx hZ hown (host := "") (Or.inl (ow hw 44 rfl)) Via.refl eh_1 F_value_a (g := (mkF mM 8 #[.val (.ref a), .val (.int (41 : Int32))] [(.ref a)])) rfl rfl (hb hby d_jdk_42m56_8)
  obtain ⟨_, _, ⟨T_3, L_3, k_3, n_3⟩, -, X_3, ⟨Lc_3, hQ_3, l_3, y_3, z_3⟩, st_3⟩ := Jvm.LawKit.callS X_2 hx (y := MN31) hown (mvT hZ (ow hw 191 rfl)) (mvT hZ (ow hw 192 rfl)) (mvT hZ (ow hw 29 rfl)) (mvT hZ (ow hw 193 rfl)) (by decide) (backOf (W := 0) (rm_lcan l Z a0 hw [] d k x0 h0 n0 Z0 S_Preconditions_SIOOBE_FORMATTER V_d) hZ (ow hw 193 rfl) (ow hw 29 rfl) (by decide) (by decide)) (g := (mkF mM 12 #[.val (.ref a), .val (.int (41 : Int32))] [(.int (41 : Int32)), (.ref d)])) rfl (by rw [hml]; rfl) (argsL := [(.ref d), (.int (41 : Int32))]) (rest := []) (lenOf pd_24 rfl) rfl (by show 2 * 0 + _ ≤ _; exact Nat.le_of_eq rfl) (hb hby d_jdk_42m56_12) (fun _ _ => ⟨rfl, e_2, (by decide : 0 + 0 ≤ _), (by decide : 0 + 0 ≤ _)⟩)
  dsimp only [Pt.U, Pt.locs, Pt.cells, Pt.slots] at X_3 l_3 y_3 z_3 st_3 hQ_3
  subst l_3 y_3 z_3
  obtain ⟨rfl, N_3q, eh_3⟩ := hQ_3
  have N_3 := Fr.app N_1 N_3q
  obtain ⟨fs, hr, hrun, hended, hW, hsame⟩ := X_3.leave (v := some (.int (nar .char (nar .char ((x0 &&& (255 : Int32)).toUInt32.toUInt16.toUInt32.toInt32))))) (fun h => by rw [Bd.returns] at h; cases h)
  refine ⟨_, _, pre0 _ ?_, hrun, hended, _, _, rfl, ?_, ⟨_, rfl⟩, hW, hsame.mono (by decide) (by decide)⟩
  · show oS pP eE below s₁ (mkF mM 0 #[.val (.ref a), .val (.int (41 : Int32))] []) _
    refine XS.aloadN X0.here hx rfl (hb hby d_jdk_42m56_0) rfl rfl ?_
    show oS pP eE below s₁ (mkF mM 1 #[.val (.ref a), .val (.int (41 : Int32))] [(.ref a)]) _
    refine st_1.trans ?_
    show oS pP eE below T_1 (mkF mM 4 #[.val (.ref a), .val (.int (41 : Int32))] [(.int (1 : Int32))]) _
    refine XS.ifNo X_1.here hx rfl (hb hby d_jdk_42m56_4) rfl (by decide) ?_
    refine XS.aloadN X_1.here hx rfl (hb hby d_jdk_42m56_7) rfl rfl ?_
    show oS pP eE below T_1 (mkF mM 8 #[.val (.ref a), .val (.int (41 : Int32))] [(.ref a)]) _
    refine st_2 _ ?_
    show oS pP eE below T_2 (mkF mM 11 #[.val (.ref a), .val (.int (41 : Int32))] [(.ref d)]) _
    refine XS.iloadN X_2.here hx rfl (hb hby d_jdk_42m56_11) rfl ?_
    show oS pP eE below T_2 (mkF mM 12 #[.val (.ref a), .val (.int (41 : Int32))] [(.int (41 : Int32)), (.ref d)]) _
    refine st_3 _ ?_
    show oS pP eE below T_3 (mkF mM 15 #[.val (.ref a), .val (.int (41 : Int32))] [(.int (nar .char ((x0 &&& (255 : Int32)).toUInt32.toUInt16.toUInt32.toInt32)))]) _
    exact retN X_3 hx (t := .char) Bd.returns (by simp) (hb hby d_jdk_42m56_15) hr
  · show Q_chatn Z a d k x0 cs h0 n0 _ T_3.heap _
    rw [eh_3]
    exact ⟨rfl, N_3, rfl⟩
abbrev lc10 (p1 : Int32) (p2 : Int32) : Array Slot := #[.val (.int p1), .val (.int p2), .unset, .unset, .unset, .unset, .unset, .unset]
abbrev lc11 (p1 : Int32) (p2 : Int32) : Array Slot := #[.val (.int p1), .val (.int p2), .val (.int (0 : Int32)), .unset, .unset, .unset, .unset, .unset]
abbrev lc12 (p1 : Int32) (p2 : Int32) (a : Addr) : Array Slot := #[.val (.int p1), .val (.int p2), .val (.int (0 : Int32)), .val (.ref a), .unset, .unset, .unset, .unset]
abbrev lc13 (p1 : Int32) (p2 : Int32) (a : Addr) : Array Slot := #[.val (.int p1), .val (.int p2), .val (.int (0 : Int32)), .val (.ref a), .val (.int (0 : Int32)), .unset, .unset, .unset]
abbrev MN32 : MethodName := ⟨"com/example/casebook/casebook/database/Dialect", "deletesWithoutForeignKeyChecks", "()Z"⟩
abbrev lc14 (p1 : Int32) (p2 : Int32) (a : Addr) : Array Slot := #[.val (.int p1), .val (.int p2), .val (.int (0 : Int32)), .val (.ref a), .val (.int (0 : Int32)), .val (.int (0 : Int32)), .unset, .unset]
abbrev MN33 : MethodName := ⟨"com/example/casebook/casebook/database/Dialect", "referencingKeysQuery", "()Ljava/lang/String;"⟩
theorem pn_8 : plainName "com/example/casebook/casebook/database/DialectDeletesWithoutForeignKeyChecksPinLaw" = true := by first | (simp [plainName, overriddenIn]; done) | decide +kernel
theorem ef_law0 (mM : MethodId) (x0 : Int32) (x1 : Int32) : entryFrame mM #[(.int x0), (.int x1)] maxLocals = mkF mM 0 #[.val (.int x0), .val (.int x1), .unset, .unset, .unset, .unset, .unset, .unset] [] := by first | (simp [entryFrame, mkF, argsToLocals, Value.category, maxLocals]; done) | rfl
def Q_law0 (Z : State) (p1 : Int32) (p2 : Int32) (a : Addr) (h0 : Heap) (n0 : Nat) (v_ : Option Value) (h_ : Heap) (L_ : List Loc) : Prop := v_ = some (.int (1 : Int32)) ∧ Fr n0 L_
set_option maxRecDepth 65536 in
set_option maxHeartbeats 40000000 in
theorem rm_law0 (l : Launch) (Z : State) (a0 : Array Value) (hw : ∀ d ∈ tables_1, d.before a0 Z = true) (ws : List Jvm.Cond) (p1 : Int32) (p2 : Int32) (a : Addr) (h0 : Heap) (n0 : Nat) (Z0 : n0 ≤ h0.size) (hk : ((p1 &&& (2147483647 : Int32)) % (3 : Int32)) = (0 : Int32)) (S_Dialect_POSTGRESQL : Sta Z h0 "com/example/casebook/casebook/database/Dialect" "POSTGRESQL" "Lcom/example/casebook/casebook/database/Dialect;" (.ref a)) (E_a : Exa Z h0 a "com/example/casebook/casebook/database/Dialect") (F_uncheckedPrefix_a : Fld Z h0 a "com/example/casebook/casebook/database/Dialect" "uncheckedPrefix" "Ljava/lang/String;" .null) (F_referencingKeysQuery_a : Fld Z h0 a "com/example/casebook/casebook/database/Dialect" "referencingKeysQuery" "Ljava/lang/String;" .null) :
    MetFree l x (head1 (Jvm.Cond.code x code maxLocals ret :: ws) room_1) (fun aa_ U_ => aa_ = #[(.int p1), (.int p2)] ∧ Z.Warmed39 U_.vm ∧ U_.heap = h0) (fun _ _ _ _ _ => True) (fun _ U_ o_ U'_ => ∃ v_ L_, o_ = .returned v_ ∧ Q_law0 Z p1 p2 a h0 n0 v_ U'_.heap L_ ∧ FrameEnd U_ o_ U'_ L_ 0 0) := by
  refine MetFree.of_bodySF (plainFor_of_name pn_8) hisR ?_
  intro pP eE sS mM argsA below meth cC s₁ Bd hml0 hP hK
  obtain ⟨rfl, hZ, hh⟩ := hP
  have hx := Bd.exec
  have hby := Bd.bytes
  have hml : cC.maxLocals = 8 := hml0
  have hown : sS.vm.findClass "com/example/casebook/casebook/database/DialectDeletesWithoutForeignKeyChecksPinLaw" = some mM.cls := findClass_of_methodNamed Bd.named
  have hnm := (name_of_methodNamed Bd.named Bd.method).1
  have X0 : Stand pP l eE room_1 sS mM #[(.int p1), (.int p2)] below meth cC s₁ [] 0 0 := Stand.of_body Bd
  have e0 : s₁.heap = h0 := by rw [← hh, Bd.state]; rfl
  have N0 := Fr.nil n0
  have pre0 : ∀ t_, Steps pP.tables eE below (s₁.setTop (mkF mM 0 #[.val (.int p1), .val (.int p2), .unset, .unset, .unset, .unset, .unset, .unset] [])) t_ → Steps pP.tables eE below (s₁.setTop (entryFrame mM #[(.int p1), (.int p2)] maxLocals)) t_ := fun t_ k_ => castTop (ef_law0 mM p1 p2) k_
  obtain ⟨T_1, X_1, e_1, st_1⟩ := getS2 X0 hx hZ hown (host := "") (Or.inl (ow hw 1 rfl)) Via.refl e0 S_Dialect_POSTGRESQL (g := (mkF mM 11 (lc11 p1 p2) [])) rfl (hb hby at_11)
  obtain ⟨cq_2, kq_2, q_2a, q_2b, q_2c⟩ := isOf hZ e_1 E_a
  obtain ⟨_, _, ⟨T_2, L_2, k_2, n_2⟩, -, X_2, ⟨Lc_2, hQ_2, l_2, y_2, z_2⟩, st_2⟩ := X_1.virtualBack hx (y := MN32) (z := MN32) hown (mvT hZ (ow hw 4 rfl)) (mvT hZ (ow hw 5 rfl)) (notFace_of_selects (args := #[]) (mvT hZ (ow hw 7 rfl))) (mvT hZ (ow hw 7 rfl)) (mvT hZ (ow hw 6 rfl)) (by decide) (backOf (W := 0) (rm_deln l Z a0 hw [] a h0 n0 Z0 F_uncheckedPrefix_a) hZ (ow hw 8 rfl) (ow hw 2 rfl) (by decide) (by decide)) q_2a q_2c (g := (mkF mM 45 (lc13 p1 p2 a) [(.ref a)])) rfl (by rw [hml]; rfl) (Steps.refl _) (argsL := []) (rest := []) (lenOf pd_17 rfl) rfl (by show 2 * 0 + _ ≤ _; exact Nat.le_of_eq rfl) (hb hby at_45) (fun _ _ => ⟨rfl, e_1, (by decide : 0 + 0 ≤ _), (by decide : 0 + 0 ≤ _)⟩)
  dsimp only [Pt.U, Pt.locs, Pt.cells, Pt.slots] at X_2 l_2 y_2 z_2 st_2 hQ_2
  subst l_2 y_2 z_2
  obtain ⟨rfl, N_2q, eh_2⟩ := hQ_2
  have N_2 := Fr.app N0 N_2q
  obtain ⟨cq_3, kq_3, q_3a, q_3b, q_3c⟩ := isOf hZ eh_2 E_a
  obtain ⟨_, _, ⟨T_3, L_3, k_3, n_3⟩, -, X_3, ⟨Lc_3, hQ_3, l_3, y_3, z_3⟩, st_3⟩ := X_2.virtualBack hx (y := MN33) (z := MN33) hown (mvT hZ (ow hw 11 rfl)) (mvT hZ (ow hw 12 rfl)) (notFace_of_selects (args := #[]) (mvT hZ (ow hw 14 rfl))) (mvT hZ (ow hw 14 rfl)) (mvT hZ (ow hw 13 rfl)) (by decide) (backOf (W := 0) (rm_rkqn l Z a0 hw [] a h0 n0 Z0 F_referencingKeysQuery_a) hZ (ow hw 15 rfl) (ow hw 2 rfl) (by decide) (by decide)) q_3a q_3c (g := (mkF mM 60 (lc14 p1 p2 a) [(.ref a)])) rfl (by rw [hml]; rfl) (Steps.refl _) (argsL := []) (rest := []) (lenOf pd_22 rfl) rfl (by show 2 * 0 + _ ≤ _; exact Nat.le_of_eq rfl) (hb hby at_60) (fun _ _ => ⟨rfl, eh_2, (by decide : 0 + 0 ≤ _), (by decide : 0 + 0 ≤ _)⟩)
  dsimp only [Pt.U, Pt.locs, Pt.cells, Pt.slots] at X_3 l_3 y_3 z_3 st_3 hQ_3
  subst l_3 y_3 z_3
  obtain ⟨rfl, N_3q, eh_3⟩ := hQ_3
  have N_3 := Fr.app N_2 N_3q
  obtain ⟨fs, hr, hrun, hended, hW, hsame⟩ := X_3.leave (v := some (.int (1 : Int32))) (fun h => by rw [Bd.returns] at h; cases h)
  refine ⟨_, _, pre0 _ ?_, hrun, hended, _, _, rfl, ?_, ⟨_, rfl⟩, hW, hsame.mono (by decide) (by decide)⟩
  · show oS pP eE below s₁ (mkF mM 0 (lc10 p1 p2) []) _
    refine XS.iloadN X0.here hx rfl (hb hby at_0) rfl ?_
    show oS pP eE below s₁ (mkF mM 1 (lc10 p1 p2) [(.int p1)]) _
    refine X0.ldcI hx hown (mvT hZ (ow hw 0 rfl)) (g := (mkF mM 1 (lc10 p1 p2) [(.int p1)])) rfl (hb hby at_1) ?_
    show oS pP eE below s₁ (mkF mM 3 (lc10 p1 p2) [(.int (2147483647 : Int32)), (.int p1)]) _
    refine XS.iand X0.here hx rfl (hb hby at_3) rfl ?_
    refine XS.iconst X0.here hx rfl (hb hby at_4) ?_
    show oS pP eE below s₁ (mkF mM 5 (lc10 p1 p2) [(.int (3 : Int32)), (.int (p1 &&& (2147483647 : Int32)))]) _
    refine iremM X0 hx rfl (hb hby at_5) rfl (by decide) ?_
    show oS pP eE below s₁ (mkF mM 6 (lc10 p1 p2) [(.int ((p1 &&& (2147483647 : Int32)) % (3 : Int32)))]) _
    rw [hk]
    refine XS.istoreN X0.here hx rfl (hb hby at_6) rfl (l' := (lc11 p1 p2)) rfl ?_
    refine XS.iloadN X0.here hx rfl (hb hby at_7) rfl ?_
    refine XS.ifNo X0.here hx rfl (hb hby at_8) rfl (by decide) ?_
    show oS pP eE below s₁ (mkF mM 11 (lc11 p1 p2) []) _
    refine st_1 _ ?_
    show oS pP eE below T_1 (mkF mM 14 (lc11 p1 p2) [(.ref a)]) _
    refine XS.goto X_1.here hx rfl (pc0 := 14) (pc' := 31) rfl (hb hby at_14) (by decide) (by decide) ?_
    refine XS.astoreN X_1.here hx rfl (hb hby at_31) rfl rfl (l' := (lc12 p1 p2 a)) rfl ?_
    refine XS.iloadN X_1.here hx rfl (hb hby at_32) rfl ?_
    refine XS.iconst X_1.here hx rfl (hb hby at_33) ?_
    show oS pP eE below T_1 (mkF mM 34 (lc12 p1 p2 a) [(.int (1 : Int32)), (.int (0 : Int32))]) _
    refine XS.icmpYes X_1.here hx rfl (pc0 := 34) (pc' := 41) rfl (hb hby at_34) rfl (by decide) (by decide) (by decide) ?_
    refine XS.iconst X_1.here hx rfl (hb hby at_41) ?_
    refine XS.istore X_1.here hx rfl (hb hby at_42) rfl (l' := (lc13 p1 p2 a)) rfl ?_
    refine XS.aloadN X_1.here hx rfl (hb hby at_44) rfl rfl ?_
    show oS pP eE below T_1 (mkF mM 45 (lc13 p1 p2 a) [(.ref a)]) _
    refine st_2.trans ?_
    show oS pP eE below T_2 (mkF mM 48 (lc13 p1 p2 a) [(.int (0 : Int32))]) _
    refine XS.istore X_2.here hx rfl (hb hby at_48) rfl (l' := (lc14 p1 p2 a)) rfl ?_
    refine XS.iload X_2.here hx rfl (hb hby at_50) rfl ?_
    refine XS.iload X_2.here hx rfl (hb hby at_52) rfl ?_
    refine XS.icmpYes X_2.here hx rfl (pc0 := 54) (pc' := 59) rfl (hb hby at_54) rfl (by decide) (by decide) (by decide) ?_
    show oS pP eE below T_2 (mkF mM 59 (lc14 p1 p2 a) []) _
    refine XS.aloadN X_2.here hx rfl (hb hby at_59) rfl rfl ?_
    show oS pP eE below T_2 (mkF mM 60 (lc14 p1 p2 a) [(.ref a)]) _
    refine st_3.trans ?_
    show oS pP eE below T_3 (mkF mM 63 (lc14 p1 p2 a) [.null]) _
    refine XS.ifnullYes X_3.here hx rfl (pc0 := 63) (pc' := 70) rfl (hb hby at_63) rfl (by decide) (by decide) ?_
    refine XS.iconst X_3.here hx rfl (hb hby at_70) ?_
    refine XS.iload X_3.here hx rfl (hb hby at_71) rfl ?_
    refine XS.icmpYes X_3.here hx rfl (pc0 := 73) (pc' := 78) rfl (hb hby at_73) rfl (by decide) (by decide) (by decide) ?_
    show oS pP eE below T_3 (mkF mM 78 (lc14 p1 p2 a) []) _
    refine XS.iload X_3.here hx rfl (hb hby at_78) rfl ?_
    refine XS.ifNo X_3.here hx rfl (hb hby at_80) rfl (by decide) ?_
    refine XS.iconst X_3.here hx rfl (hb hby at_83) ?_
    show oS pP eE below T_3 (mkF mM 84 (lc14 p1 p2 a) [(.int (1 : Int32))]) _
    exact retN X_3 hx (t := .boolean) Bd.returns (by simp) (hb hby at_84) hr
  · show Q_law0 Z p1 p2 a h0 n0 _ T_3.heap _
    exact ⟨rfl, N_3⟩
abbrev lc15 (p1 : Int32) (p2 : Int32) : Array Slot := #[.val (.int p1), .val (.int p2), .val (.int (2 : Int32)), .unset, .unset, .unset, .unset, .unset]
abbrev lc16 (p1 : Int32) (p2 : Int32) (a : Addr) : Array Slot := #[.val (.int p1), .val (.int p2), .val (.int (2 : Int32)), .val (.ref a), .unset, .unset, .unset, .unset]
abbrev lc17 (p1 : Int32) (p2 : Int32) (a : Addr) : Array Slot := #[.val (.int p1), .val (.int p2), .val (.int (2 : Int32)), .val (.ref a), .val (.int (0 : Int32)), .unset, .unset, .unset]
abbrev lc18 (p1 : Int32) (p2 : Int32) (a : Addr) : Array Slot := #[.val (.int p1), .val (.int p2), .val (.int (2 : Int32)), .val (.ref a), .val (.int (0 : Int32)), .val (.int (0 : Int32)), .unset, .unset]
theorem ef_law2 (mM : MethodId) (x0 : Int32) (x1 : Int32) : entryFrame mM #[(.int x0), (.int x1)] maxLocals = mkF mM 0 #[.val (.int x0), .val (.int x1), .unset, .unset, .unset, .unset, .unset, .unset] [] := by first | (simp [entryFrame, mkF, argsToLocals, Value.category, maxLocals]; done) | rfl
def Q_law2 (Z : State) (p1 : Int32) (p2 : Int32) (a : Addr) (h0 : Heap) (n0 : Nat) (v_ : Option Value) (h_ : Heap) (L_ : List Loc) : Prop := v_ = some (.int (1 : Int32)) ∧ Fr n0 L_
set_option maxRecDepth 65536 in
set_option maxHeartbeats 40000000 in
theorem rm_law2 (l : Launch) (Z : State) (a0 : Array Value) (hw : ∀ d ∈ tables_1, d.before a0 Z = true) (ws : List Jvm.Cond) (p1 : Int32) (p2 : Int32) (a : Addr) (h0 : Heap) (n0 : Nat) (Z0 : n0 ≤ h0.size) (hk : ((p1 &&& (2147483647 : Int32)) % (3 : Int32)) = (2 : Int32)) (S_Dialect_PORTABLE : Sta Z h0 "com/example/casebook/casebook/database/Dialect" "PORTABLE" "Lcom/example/casebook/casebook/database/Dialect;" (.ref a)) (E_a : Exa Z h0 a "com/example/casebook/casebook/database/Dialect") (F_uncheckedPrefix_a : Fld Z h0 a "com/example/casebook/casebook/database/Dialect" "uncheckedPrefix" "Ljava/lang/String;" .null) (F_referencingKeysQuery_a : Fld Z h0 a "com/example/casebook/casebook/database/Dialect" "referencingKeysQuery" "Ljava/lang/String;" .null) :
    MetFree l x (head1 (Jvm.Cond.code x code maxLocals ret :: ws) room_1) (fun aa_ U_ => aa_ = #[(.int p1), (.int p2)] ∧ Z.Warmed39 U_.vm ∧ U_.heap = h0) (fun _ _ _ _ _ => True) (fun _ U_ o_ U'_ => ∃ v_ L_, o_ = .returned v_ ∧ Q_law2 Z p1 p2 a h0 n0 v_ U'_.heap L_ ∧ FrameEnd U_ o_ U'_ L_ 0 0) := by
  refine MetFree.of_bodySF (plainFor_of_name pn_8) hisR ?_
  intro pP eE sS mM argsA below meth cC s₁ Bd hml0 hP hK
  obtain ⟨rfl, hZ, hh⟩ := hP
  have hx := Bd.exec
  have hby := Bd.bytes
  have hml : cC.maxLocals = 8 := hml0
  have hown : sS.vm.findClass "com/example/casebook/casebook/database/DialectDeletesWithoutForeignKeyChecksPinLaw" = some mM.cls := findClass_of_methodNamed Bd.named
  have hnm := (name_of_methodNamed Bd.named Bd.method).1
  have X0 : Stand pP l eE room_1 sS mM #[(.int p1), (.int p2)] below meth cC s₁ [] 0 0 := Stand.of_body Bd
  have e0 : s₁.heap = h0 := by rw [← hh, Bd.state]; rfl
  have N0 := Fr.nil n0
  have pre0 : ∀ t_, Steps pP.tables eE below (s₁.setTop (mkF mM 0 #[.val (.int p1), .val (.int p2), .unset, .unset, .unset, .unset, .unset, .unset] [])) t_ → Steps pP.tables eE below (s₁.setTop (entryFrame mM #[(.int p1), (.int p2)] maxLocals)) t_ := fun t_ k_ => castTop (ef_law2 mM p1 p2) k_
  obtain ⟨T_1, X_1, e_1, st_1⟩ := getS2 X0 hx hZ hown (host := "") (Or.inl (ow hw 18 rfl)) Via.refl e0 S_Dialect_PORTABLE (g := (mkF mM 28 (lc15 p1 p2) [])) rfl (hb hby at_28)
  obtain ⟨cq_2, kq_2, q_2a, q_2b, q_2c⟩ := isOf hZ e_1 E_a
  obtain ⟨_, _, ⟨T_2, L_2, k_2, n_2⟩, -, X_2, ⟨Lc_2, hQ_2, l_2, y_2, z_2⟩, st_2⟩ := X_1.virtualBack hx (y := MN32) (z := MN32) hown (mvT hZ (ow hw 4 rfl)) (mvT hZ (ow hw 5 rfl)) (notFace_of_selects (args := #[]) (mvT hZ (ow hw 7 rfl))) (mvT hZ (ow hw 7 rfl)) (mvT hZ (ow hw 6 rfl)) (by decide) (backOf (W := 0) (rm_deln l Z a0 hw [] a h0 n0 Z0 F_uncheckedPrefix_a) hZ (ow hw 8 rfl) (ow hw 2 rfl) (by decide) (by decide)) q_2a q_2c (g := (mkF mM 45 (lc17 p1 p2 a) [(.ref a)])) rfl (by rw [hml]; rfl) (Steps.refl _) (argsL := []) (rest := []) (lenOf pd_17 rfl) rfl (by show 2 * 0 + _ ≤ _; exact Nat.le_of_eq rfl) (hb hby at_45) (fun _ _ => ⟨rfl, e_1, (by decide : 0 + 0 ≤ _), (by decide : 0 + 0 ≤ _)⟩)
  dsimp only [Pt.U, Pt.locs, Pt.cells, Pt.slots] at X_2 l_2 y_2 z_2 st_2 hQ_2
  subst l_2 y_2 z_2
  obtain ⟨rfl, N_2q, eh_2⟩ := hQ_2
  have N_2 := Fr.app N0 N_2q
  obtain ⟨cq_3, kq_3, q_3a, q_3b, q_3c⟩ := isOf hZ eh_2 E_a
  obtain ⟨_, _, ⟨T_3, L_3, k_3, n_3⟩, -, X_3, ⟨Lc_3, hQ_3, l_3, y_3, z_3⟩, st_3⟩ := X_2.virtualBack hx (y := MN33) (z := MN33) hown (mvT hZ (ow hw 11 rfl)) (mvT hZ (ow hw 12 rfl)) (notFace_of_selects (args := #[]) (mvT hZ (ow hw 14 rfl))) (mvT hZ (ow hw 14 rfl)) (mvT hZ (ow hw 13 rfl)) (by decide) (backOf (W := 0) (rm_rkqn l Z a0 hw [] a h0 n0 Z0 F_referencingKeysQuery_a) hZ (ow hw 15 rfl) (ow hw 2 rfl) (by decide) (by decide)) q_3a q_3c (g := (mkF mM 60 (lc18 p1 p2 a) [(.ref a)])) rfl (by rw [hml]; rfl) (Steps.refl _) (argsL := []) (rest := []) (lenOf pd_22 rfl) rfl (by show 2 * 0 + _ ≤ _; exact Nat.le_of_eq rfl) (hb hby at_60) (fun _ _ => ⟨rfl, eh_2, (by decide : 0 + 0 ≤ _), (by decide : 0 + 0 ≤ _)⟩)
  dsimp only [Pt.U, Pt.locs, Pt.cells, Pt.slots] at X_3 l_3 y_3 z_3 st_3 hQ_3
  subst l_3 y_3 z_3
  obtain ⟨rfl, N_3q, eh_3⟩ := hQ_3
  have N_3 := Fr.app N_2 N_3q
  obtain ⟨fs, hr, hrun, hended, hW, hsame⟩ := X_3.leave (v := some (.int (1 : Int32))) (fun h => by rw [Bd.returns] at h; cases h)
  refine ⟨_, _, pre0 _ ?_, hrun, hended, _, _, rfl, ?_, ⟨_, rfl⟩, hW, hsame.mono (by decide) (by decide)⟩
  · show oS pP eE below s₁ (mkF mM 0 (lc10 p1 p2) []) _
    refine XS.iloadN X0.here hx rfl (hb hby at_0) rfl ?_
    show oS pP eE below s₁ (mkF mM 1 (lc10 p1 p2) [(.int p1)]) _
    refine X0.ldcI hx hown (mvT hZ (ow hw 0 rfl)) (g := (mkF mM 1 (lc10 p1 p2) [(.int p1)])) rfl (hb hby at_1) ?_
    show oS pP eE below s₁ (mkF mM 3 (lc10 p1 p2) [(.int (2147483647 : Int32)), (.int p1)]) _
    refine XS.iand X0.here hx rfl (hb hby at_3) rfl ?_
    refine XS.iconst X0.here hx rfl (hb hby at_4) ?_
    show oS pP eE below s₁ (mkF mM 5 (lc10 p1 p2) [(.int (3 : Int32)), (.int (p1 &&& (2147483647 : Int32)))]) _
    refine iremM X0 hx rfl (hb hby at_5) rfl (by decide) ?_
    show oS pP eE below s₁ (mkF mM 6 (lc10 p1 p2) [(.int ((p1 &&& (2147483647 : Int32)) % (3 : Int32)))]) _
    rw [hk]
    refine XS.istoreN X0.here hx rfl (hb hby at_6) rfl (l' := (lc15 p1 p2)) rfl ?_
    refine XS.iloadN X0.here hx rfl (hb hby at_7) rfl ?_
    refine XS.ifYes X0.here hx rfl (pc0 := 8) (pc' := 17) rfl (hb hby at_8) rfl (by decide) (by decide) (by decide) ?_
    show oS pP eE below s₁ (mkF mM 17 (lc15 p1 p2) []) _
    refine XS.iloadN X0.here hx rfl (hb hby at_17) rfl ?_
    refine XS.iconst X0.here hx rfl (hb hby at_18) ?_
    refine XS.icmpYes X0.here hx rfl (pc0 := 19) (pc' := 28) rfl (hb hby at_19) rfl (by decide) (by decide) (by decide) ?_
    show oS pP eE below s₁ (mkF mM 28 (lc15 p1 p2) []) _
    refine st_1 _ ?_
    show oS pP eE below T_1 (mkF mM 31 (lc15 p1 p2) [(.ref a)]) _
    refine XS.astoreN X_1.here hx rfl (hb hby at_31) rfl rfl (l' := (lc16 p1 p2 a)) rfl ?_
    refine XS.iloadN X_1.here hx rfl (hb hby at_32) rfl ?_
    refine XS.iconst X_1.here hx rfl (hb hby at_33) ?_
    refine XS.icmpYes X_1.here hx rfl (pc0 := 34) (pc' := 41) rfl (hb hby at_34) rfl (by decide) (by decide) (by decide) ?_
    show oS pP eE below T_1 (mkF mM 41 (lc16 p1 p2 a) []) _
    refine XS.iconst X_1.here hx rfl (hb hby at_41) ?_
    refine XS.istore X_1.here hx rfl (hb hby at_42) rfl (l' := (lc17 p1 p2 a)) rfl ?_
    refine XS.aloadN X_1.here hx rfl (hb hby at_44) rfl rfl ?_
    show oS pP eE below T_1 (mkF mM 45 (lc17 p1 p2 a) [(.ref a)]) _
    refine st_2.trans ?_
    show oS pP eE below T_2 (mkF mM 48 (lc17 p1 p2 a) [(.int (0 : Int32))]) _
    refine XS.istore X_2.here hx rfl (hb hby at_48) rfl (l' := (lc18 p1 p2 a)) rfl ?_
    refine XS.iload X_2.here hx rfl (hb hby at_50) rfl ?_
    refine XS.iload X_2.here hx rfl (hb hby at_52) rfl ?_
    refine XS.icmpYes X_2.here hx rfl (pc0 := 54) (pc' := 59) rfl (hb hby at_54) rfl (by decide) (by decide) (by decide) ?_
    show oS pP eE below T_2 (mkF mM 59 (lc18 p1 p2 a) []) _
    refine XS.aloadN X_2.here hx rfl (hb hby at_59) rfl rfl ?_
    show oS pP eE below T_2 (mkF mM 60 (lc18 p1 p2 a) [(.ref a)]) _
    refine st_3.trans ?_
    show oS pP eE below T_3 (mkF mM 63 (lc18 p1 p2 a) [.null]) _
    refine XS.ifnullYes X_3.here hx rfl (pc0 := 63) (pc' := 70) rfl (hb hby at_63) rfl (by decide) (by decide) ?_
    refine XS.iconst X_3.here hx rfl (hb hby at_70) ?_
    refine XS.iload X_3.here hx rfl (hb hby at_71) rfl ?_
    refine XS.icmpYes X_3.here hx rfl (pc0 := 73) (pc' := 78) rfl (hb hby at_73) rfl (by decide) (by decide) (by decide) ?_
    show oS pP eE below T_3 (mkF mM 78 (lc18 p1 p2 a) []) _
    refine XS.iload X_3.here hx rfl (hb hby at_78) rfl ?_
    refine XS.ifNo X_3.here hx rfl (hb hby at_80) rfl (by decide) ?_
    refine XS.iconst X_3.here hx rfl (hb hby at_83) ?_
    show oS pP eE below T_3 (mkF mM 84 (lc18 p1 p2 a) [(.int (1 : Int32))]) _
    exact retN X_3 hx (t := .boolean) Bd.returns (by simp) (hb hby at_84) hr
  · show Q_law2 Z p1 p2 a h0 n0 _ T_3.heap _
    exact ⟨rfl, N_3⟩
abbrev lc19 (p1 : Int32) (p2 : Int32) : Array Slot := #[.val (.int p1), .val (.int p2), .val (.int (1 : Int32)), .unset, .unset, .unset, .unset, .unset]
abbrev lc20 (p1 : Int32) (p2 : Int32) (a : Addr) : Array Slot := #[.val (.int p1), .val (.int p2), .val (.int (1 : Int32)), .val (.ref a), .unset, .unset, .unset, .unset]
abbrev lc21 (p1 : Int32) (p2 : Int32) (a : Addr) : Array Slot := #[.val (.int p1), .val (.int p2), .val (.int (1 : Int32)), .val (.ref a), .val (.int (1 : Int32)), .unset, .unset, .unset]
abbrev lc22 (p1 : Int32) (p2 : Int32) (a : Addr) : Array Slot := #[.val (.int p1), .val (.int p2), .val (.int (1 : Int32)), .val (.ref a), .val (.int (1 : Int32)), .val (.int (1 : Int32)), .unset, .unset]
abbrev lc23 (p1 : Int32) (p2 : Int32) (a : Addr) : Array Slot := #[.val (.int p1), .val (.int p2), .val (.int (1 : Int32)), .val (.ref a), .val (.int (1 : Int32)), .val (.int (1 : Int32)), .val (.int ((p2 &&& (255 : Int32)).toUInt32.toUInt16.toUInt32.toInt32)), .unset]
theorem pd_25 : parseMethodDescriptor "(C)Ljava/lang/String;" = some ⟨[.char], some (.object "java/lang/String")⟩ := by decide +kernel
abbrev MN34 : MethodName := ⟨"java/lang/String", "valueOf", "(C)Ljava/lang/String;"⟩
theorem pd_26 : parseMethodDescriptor "(Ljava/lang/String;)Ljava/lang/String;" = some ⟨[(.object "java/lang/String")], some (.object "java/lang/String")⟩ := by decide +kernel
abbrev MN35 : MethodName := ⟨"com/example/casebook/casebook/database/Dialect", "withoutForeignKeyChecks", "(Ljava/lang/String;)Ljava/lang/String;"⟩
abbrev lc24 (p1 : Int32) (p2 : Int32) (a : Addr) (r__5 : Addr) : Array Slot := #[.val (.int p1), .val (.int p2), .val (.int (1 : Int32)), .val (.ref a), .val (.int (1 : Int32)), .val (.int (1 : Int32)), .val (.int ((p2 &&& (255 : Int32)).toUInt32.toUInt16.toUInt32.toInt32)), .val (.ref r__5)]
theorem pd_27 : parseMethodDescriptor "(I)C" = some ⟨[.int], some .char⟩ := by decide +kernel
abbrev MN36 : MethodName := ⟨"java/lang/String", "charAt", "(I)C"⟩
theorem ef_law1r (mM : MethodId) (x0 : Int32) (x1 : Int32) : entryFrame mM #[(.int x0), (.int x1)] maxLocals = mkF mM 0 #[.val (.int x0), .val (.int x1), .unset, .unset, .unset, .unset, .unset, .unset] [] := by first | (simp [entryFrame, mkF, argsToLocals, Value.category, maxLocals]; done) | rfl
def Q_law1r (Z : State) (p1 : Int32) (p2 : Int32) (a : Addr) (u : Addr) (uv : Addr) (ku : ClassId) (w : Addr) (cs : Int32) (fm : Addr) (h0 : Heap) (n0 : Nat) (v_ : Option Value) (h_ : Heap) (L_ : List Loc) : Prop := v_ = some (.int (1 : Int32)) ∧ Fr n0 L_
set_option maxRecDepth 65536 in
set_option maxHeartbeats 40000000 in
theorem rm_law1r (l : Launch) (Z : State) (a0 : Array Value) (hw : ∀ d ∈ tables_1, d.before a0 Z = true) (ws : List Jvm.Cond) (p1 : Int32) (p2 : Int32) (a : Addr) (u : Addr) (uv : Addr) (ku : ClassId) (w : Addr) (cs : Int32) (fm : Addr) (h0 : Heap) (n0 : Nat) (Z0 : n0 ≤ h0.size) (hk : ((p1 &&& (2147483647 : Int32)) % (3 : Int32)) = (1 : Int32)) (S_Dialect_MARIADB : Sta Z h0 "com/example/casebook/casebook/database/Dialect" "MARIADB" "Lcom/example/casebook/casebook/database/Dialect;" (.ref a)) (E_a : Exa Z h0 a "com/example/casebook/casebook/database/Dialect") (F_uncheckedPrefix_a : Fld Z h0 a "com/example/casebook/casebook/database/Dialect" "uncheckedPrefix" "Ljava/lang/String;" (.ref u)) (F_referencingKeysQuery_a : Fld Z h0 a "com/example/casebook/casebook/database/Dialect" "referencingKeysQuery" "Ljava/lang/String;" (.ref w)) (F_value_u : Fld Z h0 u "java/lang/String" "value" "[B" (.ref uv)) (F_coder_u : Fld Z h0 u "java/lang/String" "coder" "B" (.int (0 : Int32))) (E_u : Exa Z h0 u "java/lang/String") (V_uv : Arv Z h0 uv ku .byte (41 : Int32) [(.int (83 : Int32)), (.int (69 : Int32)), (.int (84 : Int32)), (.int (32 : Int32)), (.int (83 : Int32)), (.int (84 : Int32)), (.int (65 : Int32)), (.int (84 : Int32)), (.int (69 : Int32)), (.int (77 : Int32)), (.int (69 : Int32)), (.int (78 : Int32)), (.int (84 : Int32)), (.int (32 : Int32)), (.int (102 : Int32)), (.int (111 : Int32)), (.int (114 : Int32)), (.int (101 : Int32)), (.int (105 : Int32)), (.int (103 : Int32)), (.int (110 : Int32)), (.int (95 : Int32)), (.int (107 : Int32)), (.int (101 : Int32)), (.int (121 : Int32)), (.int (95 : Int32)), (.int (99 : Int32)), (.int (104 : Int32)), (.int (101 : Int32)), (.int (99 : Int32)), (.int (107 : Int32)), (.int (115 : Int32)), (.int (32 : Int32)), (.int (61 : Int32)), (.int (32 : Int32)), (.int (48 : Int32)), (.int (32 : Int32)), (.int (70 : Int32)), (.int (79 : Int32)), (.int (82 : Int32)), (.int (32 : Int32))] (.int (0 : Int32))) (S_String_COMPACT_STRINGS : Sta Z h0 "java/lang/String" "COMPACT_STRINGS" "Z" (.int cs)) (hcs : ¬ cs = 0) (S_Preconditions_SIOOBE_FORMATTER : Sta Z h0 "jdk/internal/util/Preconditions" "SIOOBE_FORMATTER" "Ljava/util/function/BiFunction;" (.ref fm)) :
    MetFree l x (head1 (Jvm.Cond.code x code maxLocals ret :: ws) room_1) (fun aa_ U_ => aa_ = #[(.int p1), (.int p2)] ∧ Z.Warmed39 U_.vm ∧ U_.heap = h0) (fun _ _ _ _ _ => True) (fun _ U_ o_ U'_ => ∃ v_ L_, o_ = .returned v_ ∧ Q_law1r Z p1 p2 a u uv ku w cs fm h0 n0 v_ U'_.heap L_ ∧ FrameEnd U_ o_ U'_ L_ 8 196) := by
  refine MetFree.of_bodySF (plainFor_of_name pn_8) hisR ?_
  intro pP eE sS mM argsA below meth cC s₁ Bd hml0 hP hK
  obtain ⟨rfl, hZ, hh⟩ := hP
  have hx := Bd.exec
  have hby := Bd.bytes
  have hml : cC.maxLocals = 8 := hml0
  have hown : sS.vm.findClass "com/example/casebook/casebook/database/DialectDeletesWithoutForeignKeyChecksPinLaw" = some mM.cls := findClass_of_methodNamed Bd.named
  have hnm := (name_of_methodNamed Bd.named Bd.method).1
  have X0 : Stand pP l eE room_1 sS mM #[(.int p1), (.int p2)] below meth cC s₁ [] 0 0 := Stand.of_body Bd
  have e0 : s₁.heap = h0 := by rw [← hh, Bd.state]; rfl
  have N0 := Fr.nil n0
  have pre0 : ∀ t_, Steps pP.tables eE below (s₁.setTop (mkF mM 0 #[.val (.int p1), .val (.int p2), .unset, .unset, .unset, .unset, .unset, .unset] [])) t_ → Steps pP.tables eE below (s₁.setTop (entryFrame mM #[(.int p1), (.int p2)] maxLocals)) t_ := fun t_ k_ => castTop (ef_law1r mM p1 p2) k_
  obtain ⟨T_1, X_1, e_1, st_1⟩ := getS2 X0 hx hZ hown (host := "") (Or.inl (ow hw 20 rfl)) Via.refl e0 S_Dialect_MARIADB (g := (mkF mM 22 (lc19 p1 p2) [])) rfl (hb hby at_22)
  obtain ⟨cq_2, kq_2, q_2a, q_2b, q_2c⟩ := isOf hZ e_1 E_a
  obtain ⟨_, _, ⟨T_2, L_2, k_2, n_2⟩, -, X_2, ⟨Lc_2, hQ_2, l_2, y_2, z_2⟩, st_2⟩ := X_1.virtualBack hx (y := MN32) (z := MN32) hown (mvT hZ (ow hw 4 rfl)) (mvT hZ (ow hw 5 rfl)) (notFace_of_selects (args := #[]) (mvT hZ (ow hw 7 rfl))) (mvT hZ (ow hw 7 rfl)) (mvT hZ (ow hw 6 rfl)) (by decide) (backOf (W := 0) (rm_delr l Z a0 hw [] a u h0 n0 Z0 F_uncheckedPrefix_a) hZ (ow hw 8 rfl) (ow hw 2 rfl) (by decide) (by decide)) q_2a q_2c (g := (mkF mM 45 (lc21 p1 p2 a) [(.ref a)])) rfl (by rw [hml]; rfl) (Steps.refl _) (argsL := []) (rest := []) (lenOf pd_17 rfl) rfl (by show 2 * 0 + _ ≤ _; exact Nat.le_of_eq rfl) (hb hby at_45) (fun _ _ => ⟨rfl, e_1, (by decide : 0 + 0 ≤ _), (by decide : 0 + 0 ≤ _)⟩)
  dsimp only [Pt.U, Pt.locs, Pt.cells, Pt.slots] at X_2 l_2 y_2 z_2 st_2 hQ_2
  subst l_2 y_2 z_2
  obtain ⟨rfl, N_2q, eh_2⟩ := hQ_2
  have N_2 := Fr.app N0 N_2q
  obtain ⟨cq_3, kq_3, q_3a, q_3b, q_3c⟩ := isOf hZ eh_2 E_a
  obtain ⟨_, _, ⟨T_3, L_3, k_3, n_3⟩, -, X_3, ⟨Lc_3, hQ_3, l_3, y_3, z_3⟩, st_3⟩ := X_2.virtualBack hx (y := MN33) (z := MN33) hown (mvT hZ (ow hw 11 rfl)) (mvT hZ (ow hw 12 rfl)) (notFace_of_selects (args := #[]) (mvT hZ (ow hw 14 rfl))) (mvT hZ (ow hw 14 rfl)) (mvT hZ (ow hw 13 rfl)) (by decide) (backOf (W := 0) (rm_rkqr l Z a0 hw [] a w h0 n0 Z0 F_referencingKeysQuery_a) hZ (ow hw 15 rfl) (ow hw 2 rfl) (by decide) (by decide)) q_3a q_3c (g := (mkF mM 60 (lc22 p1 p2 a) [(.ref a)])) rfl (by rw [hml]; rfl) (Steps.refl _) (argsL := []) (rest := []) (lenOf pd_22 rfl) rfl (by show 2 * 0 + _ ≤ _; exact Nat.le_of_eq rfl) (hb hby at_60) (fun _ _ => ⟨rfl, eh_2, (by decide : 0 + 0 ≤ _), (by decide : 0 + 0 ≤ _)⟩)
  dsimp only [Pt.U, Pt.locs, Pt.cells, Pt.slots] at X_3 l_3 y_3 z_3 st_3 hQ_3
  subst l_3 y_3 z_3
  obtain ⟨rfl, N_3q, eh_3⟩ := hQ_3
  have N_3 := Fr.app N_2 N_3q
  obtain ⟨_, _, ⟨T_4, L_4, k_4, n_4⟩, -, X_4, ⟨Lc_4, hQ_4, l_4, y_4, z_4⟩, st_4⟩ := Jvm.LawKit.callS X_3 hx (y := MN34) hown (mvT hZ (ow hw 22 rfl)) (mvT hZ (ow hw 23 rfl)) (mvT hZ (ow hw 24 rfl)) (mvT hZ (ow hw 25 rfl)) (by decide) (backOf (W := 1) (rm_valof l Z a0 hw [] ((p2 &&& (255 : Int32)).toUInt32.toUInt16.toUInt32.toInt32) cs h0 n0 Z0 S_String_COMPACT_STRINGS hcs (own_c255 p2)) hZ (ow hw 25 rfl) (ow hw 24 rfl) (by decide) (by decide)) (g := (mkF mM 96 (lc23 p1 p2 a) [(.int ((p2 &&& (255 : Int32)).toUInt32.toUInt16.toUInt32.toInt32)), (.ref a)])) rfl (by rw [hml]; rfl) (argsL := [(.int ((p2 &&& (255 : Int32)).toUInt32.toUInt16.toUInt32.toInt32))]) (rest := [(.ref a)]) (lenOf pd_25 rfl) rfl (by show 2 * 0 + _ ≤ _; exact Nat.le_of_eq rfl) (hb hby at_96) (fun _ _ => ⟨rfl, eh_3, (by decide : 0 + 2 ≤ _), (by decide : 0 + 5 ≤ _)⟩)
  dsimp only [Pt.U, Pt.locs, Pt.cells, Pt.slots] at X_4 l_4 y_4 z_4 st_4 hQ_4
  subst l_4 y_4 z_4
  obtain ⟨b__4, ⟨d__4, ⟨k__4, ⟨rfl, N_4q, Kc_4, pfsz_b_4, pfsz_d_4, pfE_b_4, pfF_value_b_4, pfF_coder_b_4, pfV_d_4⟩⟩⟩⟩ := hQ_4
  have Z_4 : n0 ≤ T_4.heap.size := (Nat.le_trans Z0 Kc_4.1)
  have K_4 : Keep h0 T_4.heap [] := (Keep.refl h0 []).trans Kc_4 all0
  have sz_b__4 : h0.size ≤ b__4 := Nat.le_trans (Keep.refl h0 []).1 pfsz_b_4
  have g_b__4 : n0 ≤ b__4 := Nat.le_trans Z0 pfsz_b_4
  have sz_d__4 : h0.size ≤ d__4 := Nat.le_trans (Keep.refl h0 []).1 pfsz_d_4
  have g_d__4 : n0 ≤ d__4 := Nat.le_trans Z0 pfsz_d_4
  have N_4 := Fr.app N_3 N_4q
  obtain ⟨cq_5, kq_5, q_5a, q_5b, q_5c⟩ := isOf hZ rfl (E_a.keep Kc_4)
  obtain ⟨_, _, ⟨T_5, L_5, k_5, n_5⟩, -, X_5, ⟨Lc_5, hQ_5, l_5, y_5, z_5⟩, st_5⟩ := X_4.virtualBack hx (y := MN35) (z := MN35) hown (mvT hZ (ow hw 48 rfl)) (mvT hZ (ow hw 49 rfl)) (notFace_of_selects (args := #[]) (mvT hZ (ow hw 51 rfl))) (mvT hZ (ow hw 51 rfl)) (mvT hZ (ow hw 50 rfl)) (by decide) (backOf (W := 0) (rm_wfk l Z a0 hw [] a b__4 d__4 k__4 u uv ku cs (nar .byte (((p2 &&& (255 : Int32)).toUInt32.toUInt16.toUInt32.toInt32).toInt8.toInt32)) T_4.heap n0 Z_4 (F_uncheckedPrefix_a.keep Kc_4 nin0) (F_value_u.keep Kc_4 nin0) (F_coder_u.keep Kc_4 nin0) (E_u.keep Kc_4) (V_uv.keep Kc_4 nin0) pfF_value_b_4 pfF_coder_b_4 pfE_b_4 pfV_d_4 (own_sta_keep S_String_COMPACT_STRINGS Kc_4 all0) hcs) hZ (ow hw 52 rfl) (ow hw 2 rfl) (by decide) (by decide)) q_5a q_5c (g := (mkF mM 99 (lc23 p1 p2 a) [(.ref b__4), (.ref a)])) rfl (by rw [hml]; rfl) (Steps.refl _) (argsL := [(.ref b__4)]) (rest := []) (lenOf pd_26 rfl) rfl (by show 2 * 0 + _ ≤ _; exact Nat.le_of_eq rfl) (hb hby at_99) (fun _ _ => ⟨rfl, rfl, (by decide : 2 + 6 ≤ _), (by decide : 5 + 191 ≤ _)⟩)
  dsimp only [Pt.U, Pt.locs, Pt.cells, Pt.slots] at X_5 l_5 y_5 z_5 st_5 hQ_5
  subst l_5 y_5 z_5
  obtain ⟨r__5, ⟨e__5, ⟨kk__5, ⟨rfl, N_5q, Kc_5, pfsz_r_5, pfsz_e_5, pfE_r_5, pfF_value_r_5, pfF_coder_r_5, pfV_e_5⟩⟩⟩⟩ := hQ_5
  have Z_5 : n0 ≤ T_5.heap.size := (Nat.le_trans Z_4 Kc_5.1)
  have K_5 : Keep h0 T_5.heap [] := K_4.trans Kc_5 all0
  have sz_r__5 : h0.size ≤ r__5 := Nat.le_trans K_4.1 pfsz_r_5
  have g_r__5 : n0 ≤ r__5 := Nat.le_trans Z_4 pfsz_r_5
  have sz_e__5 : h0.size ≤ e__5 := Nat.le_trans K_4.1 pfsz_e_5
  have g_e__5 : n0 ≤ e__5 := Nat.le_trans Z_4 pfsz_e_5
  have N_5 := Fr.app N_4 N_5q
  obtain ⟨cq_6, kq_6, q_6a, q_6b, q_6c⟩ := isOf hZ rfl pfE_r_5
  obtain ⟨_, _, ⟨T_6, L_6, k_6, n_6⟩, -, X_6, ⟨Lc_6, hQ_6, l_6, y_6, z_6⟩, st_6⟩ := X_5.virtualBack hx (y := MN12) (z := MN12) hown (mvT hZ (ow hw 180 rfl)) (mvT hZ (ow hw 82 rfl)) (notFace_of_selects (args := #[]) (mvT hZ (ow hw 84 rfl))) (mvT hZ (ow hw 84 rfl)) (mvT hZ (ow hw 83 rfl)) (by decide) (backOf (W := 0) (rm_len42 l Z a0 hw [] r__5 e__5 kk__5 cs (nar .byte (((p2 &&& (255 : Int32)).toUInt32.toUInt16.toUInt32.toInt32).toInt8.toInt32)) T_5.heap n0 Z_5 pfF_value_r_5 pfF_coder_r_5 pfE_r_5 pfV_e_5 (own_sta_keep (own_sta_keep S_String_COMPACT_STRINGS Kc_4 all0) Kc_5 all0) hcs) hZ (ow hw 85 rfl) (ow hw 24 rfl) (by decide) (by decide)) q_6a q_6c (g := (mkF mM 106 (lc24 p1 p2 a r__5) [(.ref r__5)])) rfl (by rw [hml]; rfl) (Steps.refl _) (argsL := []) (rest := []) (lenOf pd_11 rfl) rfl (by show 2 * 0 + _ ≤ _; exact Nat.le_of_eq rfl) (hb hby at_106) (fun _ _ => ⟨rfl, rfl, (by decide : 8 + 0 ≤ _), (by decide : 196 + 0 ≤ _)⟩)
  dsimp only [Pt.U, Pt.locs, Pt.cells, Pt.slots] at X_6 l_6 y_6 z_6 st_6 hQ_6
  subst l_6 y_6 z_6
  obtain ⟨rfl, N_6q, eh_6⟩ := hQ_6
  have N_6 := Fr.app N_5 N_6q
  obtain ⟨cq_7, kq_7, q_7a, q_7b, q_7c⟩ := isOf hZ eh_6 pfE_r_5
  obtain ⟨_, _, ⟨T_7, L_7, k_7, n_7⟩, -, X_7, ⟨Lc_7, hQ_7, l_7, y_7, z_7⟩, st_7⟩ := X_6.virtualBack hx (y := MN12) (z := MN12) hown (mvT hZ (ow hw 180 rfl)) (mvT hZ (ow hw 82 rfl)) (notFace_of_selects (args := #[]) (mvT hZ (ow hw 84 rfl))) (mvT hZ (ow hw 84 rfl)) (mvT hZ (ow hw 83 rfl)) (by decide) (backOf (W := 1) (rm_len42 l Z a0 hw [] r__5 e__5 kk__5 cs (nar .byte (((p2 &&& (255 : Int32)).toUInt32.toUInt16.toUInt32.toInt32).toInt8.toInt32)) T_5.heap n0 Z_5 pfF_value_r_5 pfF_coder_r_5 pfE_r_5 pfV_e_5 (own_sta_keep (own_sta_keep S_String_COMPACT_STRINGS Kc_4 all0) Kc_5 all0) hcs) hZ (ow hw 85 rfl) (ow hw 24 rfl) (by decide) (by decide)) q_7a q_7c (g := (mkF mM 117 (lc24 p1 p2 a r__5) [(.ref r__5), (.ref r__5)])) rfl (by rw [hml]; rfl) (Steps.refl _) (argsL := []) (rest := [(.ref r__5)]) (lenOf pd_11 rfl) rfl (by show 2 * 0 + _ ≤ _; exact Nat.le_of_eq rfl) (hb hby at_117) (fun _ _ => ⟨rfl, eh_6, (by decide : 8 + 0 ≤ _), (by decide : 196 + 0 ≤ _)⟩)
  dsimp only [Pt.U, Pt.locs, Pt.cells, Pt.slots] at X_7 l_7 y_7 z_7 st_7 hQ_7
  subst l_7 y_7 z_7
  obtain ⟨rfl, N_7q, eh_7⟩ := hQ_7
  have N_7 := Fr.app N_6 N_7q
  obtain ⟨cq_8, kq_8, q_8a, q_8b, q_8c⟩ := isOf hZ eh_7 pfE_r_5
  obtain ⟨_, _, ⟨T_8, L_8, k_8, n_8⟩, -, X_8, ⟨Lc_8, hQ_8, l_8, y_8, z_8⟩, st_8⟩ := X_7.virtualBack hx (y := MN36) (z := MN36) hown (mvT hZ (ow hw 181 rfl)) (mvT hZ (ow hw 182 rfl)) (notFace_of_selects (args := #[]) (mvT hZ (ow hw 184 rfl))) (mvT hZ (ow hw 184 rfl)) (mvT hZ (ow hw 183 rfl)) (by decide) (backOf (W := 0) (rm_chatr l Z a0 hw [] fm r__5 e__5 kk__5 (nar .byte (((p2 &&& (255 : Int32)).toUInt32.toUInt16.toUInt32.toInt32).toInt8.toInt32)) cs T_5.heap n0 Z_5 (own_sta_keep (own_sta_keep S_Preconditions_SIOOBE_FORMATTER Kc_4 all0) Kc_5 all0) pfF_value_r_5 pfF_coder_r_5 pfE_r_5 pfV_e_5 (own_sta_keep (own_sta_keep S_String_COMPACT_STRINGS Kc_4 all0) Kc_5 all0) hcs) hZ (ow hw 185 rfl) (ow hw 24 rfl) (by decide) (by decide)) q_8a q_8c (g := (mkF mM 122 (lc24 p1 p2 a r__5) [(.int (41 : Int32)), (.ref r__5)])) rfl (by rw [hml]; rfl) (Steps.refl _) (argsL := [(.int (41 : Int32))]) (rest := []) (lenOf pd_27 rfl) rfl (by show 2 * 0 + _ ≤ _; exact Nat.le_of_eq rfl) (hb hby at_122) (fun _ _ => ⟨rfl, eh_7, (by decide : 8 + 0 ≤ _), (by decide : 196 + 0 ≤ _)⟩)
  dsimp only [Pt.U, Pt.locs, Pt.cells, Pt.slots] at X_8 l_8 y_8 z_8 st_8 hQ_8
  subst l_8 y_8 z_8
  obtain ⟨rfl, N_8q, eh_8⟩ := hQ_8
  have N_8 := Fr.app N_7 N_8q
  obtain ⟨fs, hr, hrun, hended, hW, hsame⟩ := X_8.leave (v := some (.int (1 : Int32))) (fun h => by rw [Bd.returns] at h; cases h)
  refine ⟨_, _, pre0 _ ?_, hrun, hended, _, _, rfl, ?_, ⟨_, rfl⟩, hW, hsame.mono (by decide) (by decide)⟩
  · show oS pP eE below s₁ (mkF mM 0 (lc10 p1 p2) []) _
    refine XS.iloadN X0.here hx rfl (hb hby at_0) rfl ?_
    show oS pP eE below s₁ (mkF mM 1 (lc10 p1 p2) [(.int p1)]) _
    refine X0.ldcI hx hown (mvT hZ (ow hw 0 rfl)) (g := (mkF mM 1 (lc10 p1 p2) [(.int p1)])) rfl (hb hby at_1) ?_
    show oS pP eE below s₁ (mkF mM 3 (lc10 p1 p2) [(.int (2147483647 : Int32)), (.int p1)]) _
    refine XS.iand X0.here hx rfl (hb hby at_3) rfl ?_
    refine XS.iconst X0.here hx rfl (hb hby at_4) ?_
    show oS pP eE below s₁ (mkF mM 5 (lc10 p1 p2) [(.int (3 : Int32)), (.int (p1 &&& (2147483647 : Int32)))]) _
    refine iremM X0 hx rfl (hb hby at_5) rfl (by decide) ?_
    show oS pP eE below s₁ (mkF mM 6 (lc10 p1 p2) [(.int ((p1 &&& (2147483647 : Int32)) % (3 : Int32)))]) _
    rw [hk]
    refine XS.istoreN X0.here hx rfl (hb hby at_6) rfl (l' := (lc19 p1 p2)) rfl ?_
    refine XS.iloadN X0.here hx rfl (hb hby at_7) rfl ?_
    refine XS.ifYes X0.here hx rfl (pc0 := 8) (pc' := 17) rfl (hb hby at_8) rfl (by decide) (by decide) (by decide) ?_
    show oS pP eE below s₁ (mkF mM 17 (lc19 p1 p2) []) _
    refine XS.iloadN X0.here hx rfl (hb hby at_17) rfl ?_
    refine XS.iconst X0.here hx rfl (hb hby at_18) ?_
    refine XS.icmpNo X0.here hx rfl (hb hby at_19) rfl (by decide) ?_
    show oS pP eE below s₁ (mkF mM 22 (lc19 p1 p2) []) _
    refine st_1 _ ?_
    show oS pP eE below T_1 (mkF mM 25 (lc19 p1 p2) [(.ref a)]) _
    refine XS.goto X_1.here hx rfl (pc0 := 25) (pc' := 31) rfl (hb hby at_25) (by decide) (by decide) ?_
    refine XS.astoreN X_1.here hx rfl (hb hby at_31) rfl rfl (l' := (lc20 p1 p2 a)) rfl ?_
    refine XS.iloadN X_1.here hx rfl (hb hby at_32) rfl ?_
    refine XS.iconst X_1.here hx rfl (hb hby at_33) ?_
    show oS pP eE below T_1 (mkF mM 34 (lc20 p1 p2 a) [(.int (1 : Int32)), (.int (1 : Int32))]) _
    refine XS.icmpNo X_1.here hx rfl (hb hby at_34) rfl (by decide) ?_
    refine XS.iconst X_1.here hx rfl (hb hby at_37) ?_
    refine XS.goto X_1.here hx rfl (pc0 := 38) (pc' := 42) rfl (hb hby at_38) (by decide) (by decide) ?_
    refine XS.istore X_1.here hx rfl (hb hby at_42) rfl (l' := (lc21 p1 p2 a)) rfl ?_
    show oS pP eE below T_1 (mkF mM 44 (lc21 p1 p2 a) []) _
    refine XS.aloadN X_1.here hx rfl (hb hby at_44) rfl rfl ?_
    show oS pP eE below T_1 (mkF mM 45 (lc21 p1 p2 a) [(.ref a)]) _
    refine st_2.trans ?_
    show oS pP eE below T_2 (mkF mM 48 (lc21 p1 p2 a) [(.int (1 : Int32))]) _
    refine XS.istore X_2.here hx rfl (hb hby at_48) rfl (l' := (lc22 p1 p2 a)) rfl ?_
    refine XS.iload X_2.here hx rfl (hb hby at_50) rfl ?_
    refine XS.iload X_2.here hx rfl (hb hby at_52) rfl ?_
    refine XS.icmpYes X_2.here hx rfl (pc0 := 54) (pc' := 59) rfl (hb hby at_54) rfl (by decide) (by decide) (by decide) ?_
    show oS pP eE below T_2 (mkF mM 59 (lc22 p1 p2 a) []) _
    refine XS.aloadN X_2.here hx rfl (hb hby at_59) rfl rfl ?_
    show oS pP eE below T_2 (mkF mM 60 (lc22 p1 p2 a) [(.ref a)]) _
    refine st_3.trans ?_
    show oS pP eE below T_3 (mkF mM 63 (lc22 p1 p2 a) [(.ref w)]) _
    refine XS.ifnullNo X_3.here hx rfl (hb hby at_63) rfl ?_
    refine XS.iconst X_3.here hx rfl (hb hby at_66) ?_
    refine XS.goto X_3.here hx rfl (pc0 := 67) (pc' := 71) rfl (hb hby at_67) (by decide) (by decide) ?_
    refine XS.iload X_3.here hx rfl (hb hby at_71) rfl ?_
    show oS pP eE below T_3 (mkF mM 73 (lc22 p1 p2 a) [(.int (1 : Int32)), (.int (1 : Int32))]) _
    refine XS.icmpYes X_3.here hx rfl (pc0 := 73) (pc' := 78) rfl (hb hby at_73) rfl (by decide) (by decide) (by decide) ?_
    refine XS.iload X_3.here hx rfl (hb hby at_78) rfl ?_
    refine XS.ifYes X_3.here hx rfl (pc0 := 80) (pc' := 85) rfl (hb hby at_80) rfl (by decide) (by decide) (by decide) ?_
    refine XS.iloadN X_3.here hx rfl (hb hby at_85) rfl ?_
    show oS pP eE below T_3 (mkF mM 86 (lc22 p1 p2 a) [(.int p2)]) _
    refine XS.sipush X_3.here hx rfl (hb hby at_86) ?_
    show oS pP eE below T_3 (mkF mM 89 (lc22 p1 p2 a) [(.int (255 : Int32)), (.int p2)]) _
    refine XS.iand X_3.here hx rfl (hb hby at_89) rfl ?_
    show oS pP eE below T_3 (mkF mM 90 (lc22 p1 p2 a) [(.int (p2 &&& (255 : Int32)))]) _
    refine XT.i2c X_3.here hx rfl (hb hby at_90) rfl ?_
    refine XS.istore X_3.here hx rfl (hb hby at_91) rfl (l' := (lc23 p1 p2 a)) rfl ?_
    refine XS.aloadN X_3.here hx rfl (hb hby at_93) rfl rfl ?_
    refine XS.iload X_3.here hx rfl (hb hby at_94) rfl ?_
    show oS pP eE below T_3 (mkF mM 96 (lc23 p1 p2 a) [(.int ((p2 &&& (255 : Int32)).toUInt32.toUInt16.toUInt32.toInt32)), (.ref a)]) _
    refine st_4 _ ?_
    show oS pP eE below T_4 (mkF mM 99 (lc23 p1 p2 a) [(.ref b__4), (.ref a)]) _
    refine st_5.trans ?_
    show oS pP eE below T_5 (mkF mM 102 (lc23 p1 p2 a) [(.ref r__5)]) _
    refine XS.astore X_5.here hx rfl (hb hby at_102) rfl rfl (l' := (lc24 p1 p2 a r__5)) rfl ?_
    refine XS.aload X_5.here hx rfl (hb hby at_104) rfl rfl ?_
    show oS pP eE below T_5 (mkF mM 106 (lc24 p1 p2 a r__5) [(.ref r__5)]) _
    refine st_6.trans ?_
    show oS pP eE below T_6 (mkF mM 109 (lc24 p1 p2 a r__5) [(.int (42 : Int32))]) _
    refine XS.iconst X_6.here hx rfl (hb hby at_109) ?_
    refine XS.icmpNo X_6.here hx rfl (hb hby at_110) rfl (by decide) ?_
    refine XS.aload X_6.here hx rfl (hb hby at_113) rfl rfl ?_
    refine XS.aload X_6.here hx rfl (hb hby at_115) rfl rfl ?_
    show oS pP eE below T_6 (mkF mM 117 (lc24 p1 p2 a r__5) [(.ref r__5), (.ref r__5)]) _
    refine st_7.trans ?_
    show oS pP eE below T_7 (mkF mM 120 (lc24 p1 p2 a r__5) [(.int (42 : Int32)), (.ref r__5)]) _
    refine XS.iconst X_7.here hx rfl (hb hby at_120) ?_
    show oS pP eE below T_7 (mkF mM 121 (lc24 p1 p2 a r__5) [(.int (1 : Int32)), (.int (42 : Int32)), (.ref r__5)]) _
    refine XS.isub X_7.here hx rfl (hb hby at_121) rfl ?_
    show oS pP eE below T_7 (mkF mM 122 (lc24 p1 p2 a r__5) [(.int ((42 : Int32) - (1 : Int32))), (.ref r__5)]) _
    rw [(by decide : ((42 : Int32) - (1 : Int32)) = (41 : Int32))]
    show oS pP eE below T_7 (mkF mM 122 (lc24 p1 p2 a r__5) [(.int (41 : Int32)), (.ref r__5)]) _
    refine st_8.trans ?_
    show oS pP eE below T_8 (mkF mM 125 (lc24 p1 p2 a r__5) [(.int (nar .char (nar .char (((nar .byte (((p2 &&& (255 : Int32)).toUInt32.toUInt16.toUInt32.toInt32).toInt8.toInt32)) &&& (255 : Int32)).toUInt32.toUInt16.toUInt32.toInt32))))]) _
    refine XS.iload X_8.here hx rfl (hb hby at_125) rfl ?_
    refine XS.icmpNo X_8.here hx rfl (hb hby at_127) rfl (XT.ii_ne_f (own_back p2)) ?_
    refine XS.iconst X_8.here hx rfl (hb hby at_130) ?_
    refine XS.goto X_8.here hx rfl (pc0 := 131) (pc' := 135) rfl (hb hby at_131) (by decide) (by decide) ?_
    show oS pP eE below T_8 (mkF mM 135 (lc24 p1 p2 a r__5) [(.int (1 : Int32))]) _
    exact retN X_8 hx (t := .boolean) Bd.returns (by simp) (hb hby at_135) hr
  · show Q_law1r Z p1 p2 a u uv ku w cs fm h0 n0 _ T_8.heap _
    exact ⟨rfl, N_8⟩
theorem ef_law1n (mM : MethodId) (x0 : Int32) (x1 : Int32) : entryFrame mM #[(.int x0), (.int x1)] maxLocals = mkF mM 0 #[.val (.int x0), .val (.int x1), .unset, .unset, .unset, .unset, .unset, .unset] [] := by first | (simp [entryFrame, mkF, argsToLocals, Value.category, maxLocals]; done) | rfl
def Q_law1n (Z : State) (p1 : Int32) (p2 : Int32) (a : Addr) (u : Addr) (uv : Addr) (ku : ClassId) (w : Addr) (cs : Int32) (h0 : Heap) (n0 : Nat) (v_ : Option Value) (h_ : Heap) (L_ : List Loc) : Prop := v_ = some (.int (1 : Int32)) ∧ Fr n0 L_
set_option maxRecDepth 65536 in
set_option maxHeartbeats 40000000 in
theorem rm_law1n (l : Launch) (Z : State) (a0 : Array Value) (hw : ∀ d ∈ tables_1, d.before a0 Z = true) (ws : List Jvm.Cond) (p1 : Int32) (p2 : Int32) (a : Addr) (u : Addr) (uv : Addr) (ku : ClassId) (w : Addr) (cs : Int32) (h0 : Heap) (n0 : Nat) (Z0 : n0 ≤ h0.size) (hk : ((p1 &&& (2147483647 : Int32)) % (3 : Int32)) = (1 : Int32)) (S_Dialect_MARIADB : Sta Z h0 "com/example/casebook/casebook/database/Dialect" "MARIADB" "Lcom/example/casebook/casebook/database/Dialect;" (.ref a)) (E_a : Exa Z h0 a "com/example/casebook/casebook/database/Dialect") (F_uncheckedPrefix_a : Fld Z h0 a "com/example/casebook/casebook/database/Dialect" "uncheckedPrefix" "Ljava/lang/String;" (.ref u)) (F_referencingKeysQuery_a : Fld Z h0 a "com/example/casebook/casebook/database/Dialect" "referencingKeysQuery" "Ljava/lang/String;" (.ref w)) (F_value_u : Fld Z h0 u "java/lang/String" "value" "[B" (.ref uv)) (F_coder_u : Fld Z h0 u "java/lang/String" "coder" "B" (.int (0 : Int32))) (E_u : Exa Z h0 u "java/lang/String") (V_uv : Arv Z h0 uv ku .byte (41 : Int32) [(.int (83 : Int32)), (.int (69 : Int32)), (.int (84 : Int32)), (.int (32 : Int32)), (.int (83 : Int32)), (.int (84 : Int32)), (.int (65 : Int32)), (.int (84 : Int32)), (.int (69 : Int32)), (.int (77 : Int32)), (.int (69 : Int32)), (.int (78 : Int32)), (.int (84 : Int32)), (.int (32 : Int32)), (.int (102 : Int32)), (.int (111 : Int32)), (.int (114 : Int32)), (.int (101 : Int32)), (.int (105 : Int32)), (.int (103 : Int32)), (.int (110 : Int32)), (.int (95 : Int32)), (.int (107 : Int32)), (.int (101 : Int32)), (.int (121 : Int32)), (.int (95 : Int32)), (.int (99 : Int32)), (.int (104 : Int32)), (.int (101 : Int32)), (.int (99 : Int32)), (.int (107 : Int32)), (.int (115 : Int32)), (.int (32 : Int32)), (.int (61 : Int32)), (.int (32 : Int32)), (.int (48 : Int32)), (.int (32 : Int32)), (.int (70 : Int32)), (.int (79 : Int32)), (.int (82 : Int32)), (.int (32 : Int32))] (.int (0 : Int32))) (S_String_COMPACT_STRINGS : Sta Z h0 "java/lang/String" "COMPACT_STRINGS" "Z" (.int cs)) (hcs : ¬ cs = 0) (S_Preconditions_SIOOBE_FORMATTER : Sta Z h0 "jdk/internal/util/Preconditions" "SIOOBE_FORMATTER" "Ljava/util/function/BiFunction;" .null) :
    MetFree l x (head1 (Jvm.Cond.code x code maxLocals ret :: ws) room_1) (fun aa_ U_ => aa_ = #[(.int p1), (.int p2)] ∧ Z.Warmed39 U_.vm ∧ U_.heap = h0) (fun _ _ _ _ _ => True) (fun _ U_ o_ U'_ => ∃ v_ L_, o_ = .returned v_ ∧ Q_law1n Z p1 p2 a u uv ku w cs h0 n0 v_ U'_.heap L_ ∧ FrameEnd U_ o_ U'_ L_ 8 196) := by
  refine MetFree.of_bodySF (plainFor_of_name pn_8) hisR ?_
  intro pP eE sS mM argsA below meth cC s₁ Bd hml0 hP hK
  obtain ⟨rfl, hZ, hh⟩ := hP
  have hx := Bd.exec
  have hby := Bd.bytes
  have hml : cC.maxLocals = 8 := hml0
  have hown : sS.vm.findClass "com/example/casebook/casebook/database/DialectDeletesWithoutForeignKeyChecksPinLaw" = some mM.cls := findClass_of_methodNamed Bd.named
  have hnm := (name_of_methodNamed Bd.named Bd.method).1
  have X0 : Stand pP l eE room_1 sS mM #[(.int p1), (.int p2)] below meth cC s₁ [] 0 0 := Stand.of_body Bd
  have e0 : s₁.heap = h0 := by rw [← hh, Bd.state]; rfl
  have N0 := Fr.nil n0
  have pre0 : ∀ t_, Steps pP.tables eE below (s₁.setTop (mkF mM 0 #[.val (.int p1), .val (.int p2), .unset, .unset, .unset, .unset, .unset, .unset] [])) t_ → Steps pP.tables eE below (s₁.setTop (entryFrame mM #[(.int p1), (.int p2)] maxLocals)) t_ := fun t_ k_ => castTop (ef_law1n mM p1 p2) k_
  obtain ⟨T_1, X_1, e_1, st_1⟩ := getS2 X0 hx hZ hown (host := "") (Or.inl (ow hw 20 rfl)) Via.refl e0 S_Dialect_MARIADB (g := (mkF mM 22 (lc19 p1 p2) [])) rfl (hb hby at_22)
  obtain ⟨cq_2, kq_2, q_2a, q_2b, q_2c⟩ := isOf hZ e_1 E_a
  obtain ⟨_, _, ⟨T_2, L_2, k_2, n_2⟩, -, X_2, ⟨Lc_2, hQ_2, l_2, y_2, z_2⟩, st_2⟩ := X_1.virtualBack hx (y := MN32) (z := MN32) hown (mvT hZ (ow hw 4 rfl)) (mvT hZ (ow hw 5 rfl)) (notFace_of_selects (args := #[]) (mvT hZ (ow hw 7 rfl))) (mvT hZ (ow hw 7 rfl)) (mvT hZ (ow hw 6 rfl)) (by decide) (backOf (W := 0) (rm_delr l Z a0 hw [] a u h0 n0 Z0 F_uncheckedPrefix_a) hZ (ow hw 8 rfl) (ow hw 2 rfl) (by decide) (by decide)) q_2a q_2c (g := (mkF mM 45 (lc21 p1 p2 a) [(.ref a)])) rfl (by rw [hml]; rfl) (Steps.refl _) (argsL := []) (rest := []) (lenOf pd_17 rfl) rfl (by show 2 * 0 + _ ≤ _; exact Nat.le_of_eq rfl) (hb hby at_45) (fun _ _ => ⟨rfl, e_1, (by decide : 0 + 0 ≤ _), (by decide : 0 + 0 ≤ _)⟩)
  dsimp only [Pt.U, Pt.locs, Pt.cells, Pt.slots] at X_2 l_2 y_2 z_2 st_2 hQ_2
  subst l_2 y_2 z_2
  obtain ⟨rfl, N_2q, eh_2⟩ := hQ_2
  have N_2 := Fr.app N0 N_2q
  obtain ⟨cq_3, kq_3, q_3a, q_3b, q_3c⟩ := isOf hZ eh_2 E_a
  obtain ⟨_, _, ⟨T_3, L_3, k_3, n_3⟩, -, X_3, ⟨Lc_3, hQ_3, l_3, y_3, z_3⟩, st_3⟩ := X_2.virtualBack hx (y := MN33) (z := MN33) hown (mvT hZ (ow hw 11 rfl)) (mvT hZ (ow hw 12 rfl)) (notFace_of_selects (args := #[]) (mvT hZ (ow hw 14 rfl))) (mvT hZ (ow hw 14 rfl)) (mvT hZ (ow hw 13 rfl)) (by decide) (backOf (W := 0) (rm_rkqr l Z a0 hw [] a w h0 n0 Z0 F_referencingKeysQuery_a) hZ (ow hw 15 rfl) (ow hw 2 rfl) (by decide) (by decide)) q_3a q_3c (g := (mkF mM 60 (lc22 p1 p2 a) [(.ref a)])) rfl (by rw [hml]; rfl) (Steps.refl _) (argsL := []) (rest := []) (lenOf pd_22 rfl) rfl (by show 2 * 0 + _ ≤ _; exact Nat.le_of_eq rfl) (hb hby at_60) (fun _ _ => ⟨rfl, eh_2, (by decide : 0 + 0 ≤ _), (by decide : 0 + 0 ≤ _)⟩)
  dsimp only [Pt.U, Pt.locs, Pt.cells, Pt.slots] at X_3 l_3 y_3 z_3 st_3 hQ_3
  subst l_3 y_3 z_3
  obtain ⟨rfl, N_3q, eh_3⟩ := hQ_3
  have N_3 := Fr.app N_2 N_3q
  obtain ⟨_, _, ⟨T_4, L_4, k_4, n_4⟩, -, X_4, ⟨Lc_4, hQ_4, l_4, y_4, z_4⟩, st_4⟩ := Jvm.LawKit.callS X_3 hx (y := MN34) hown (mvT hZ (ow hw 22 rfl)) (mvT hZ (ow hw 23 rfl)) (mvT hZ (ow hw 24 rfl)) (mvT hZ (ow hw 25 rfl)) (by decide) (backOf (W := 1) (rm_valof l Z a0 hw [] ((p2 &&& (255 : Int32)).toUInt32.toUInt16.toUInt32.toInt32) cs h0 n0 Z0 S_String_COMPACT_STRINGS hcs (own_c255 p2)) hZ (ow hw 25 rfl) (ow hw 24 rfl) (by decide) (by decide)) (g := (mkF mM 96 (lc23 p1 p2 a) [(.int ((p2 &&& (255 : Int32)).toUInt32.toUInt16.toUInt32.toInt32)), (.ref a)])) rfl (by rw [hml]; rfl) (argsL := [(.int ((p2 &&& (255 : Int32)).toUInt32.toUInt16.toUInt32.toInt32))]) (rest := [(.ref a)]) (lenOf pd_25 rfl) rfl (by show 2 * 0 + _ ≤ _; exact Nat.le_of_eq rfl) (hb hby at_96) (fun _ _ => ⟨rfl, eh_3, (by decide : 0 + 2 ≤ _), (by decide : 0 + 5 ≤ _)⟩)
  dsimp only [Pt.U, Pt.locs, Pt.cells, Pt.slots] at X_4 l_4 y_4 z_4 st_4 hQ_4
  subst l_4 y_4 z_4
  obtain ⟨b__4, ⟨d__4, ⟨k__4, ⟨rfl, N_4q, Kc_4, pfsz_b_4, pfsz_d_4, pfE_b_4, pfF_value_b_4, pfF_coder_b_4, pfV_d_4⟩⟩⟩⟩ := hQ_4
  have Z_4 : n0 ≤ T_4.heap.size := (Nat.le_trans Z0 Kc_4.1)
  have K_4 : Keep h0 T_4.heap [] := (Keep.refl h0 []).trans Kc_4 all0
  have sz_b__4 : h0.size ≤ b__4 := Nat.le_trans (Keep.refl h0 []).1 pfsz_b_4
  have g_b__4 : n0 ≤ b__4 := Nat.le_trans Z0 pfsz_b_4
  have sz_d__4 : h0.size ≤ d__4 := Nat.le_trans (Keep.refl h0 []).1 pfsz_d_4
  have g_d__4 : n0 ≤ d__4 := Nat.le_trans Z0 pfsz_d_4
  have N_4 := Fr.app N_3 N_4q
  obtain ⟨cq_5, kq_5, q_5a, q_5b, q_5c⟩ := isOf hZ rfl (E_a.keep Kc_4)
  obtain ⟨_, _, ⟨T_5, L_5, k_5, n_5⟩, -, X_5, ⟨Lc_5, hQ_5, l_5, y_5, z_5⟩, st_5⟩ := X_4.virtualBack hx (y := MN35) (z := MN35) hown (mvT hZ (ow hw 48 rfl)) (mvT hZ (ow hw 49 rfl)) (notFace_of_selects (args := #[]) (mvT hZ (ow hw 51 rfl))) (mvT hZ (ow hw 51 rfl)) (mvT hZ (ow hw 50 rfl)) (by decide) (backOf (W := 0) (rm_wfk l Z a0 hw [] a b__4 d__4 k__4 u uv ku cs (nar .byte (((p2 &&& (255 : Int32)).toUInt32.toUInt16.toUInt32.toInt32).toInt8.toInt32)) T_4.heap n0 Z_4 (F_uncheckedPrefix_a.keep Kc_4 nin0) (F_value_u.keep Kc_4 nin0) (F_coder_u.keep Kc_4 nin0) (E_u.keep Kc_4) (V_uv.keep Kc_4 nin0) pfF_value_b_4 pfF_coder_b_4 pfE_b_4 pfV_d_4 (own_sta_keep S_String_COMPACT_STRINGS Kc_4 all0) hcs) hZ (ow hw 52 rfl) (ow hw 2 rfl) (by decide) (by decide)) q_5a q_5c (g := (mkF mM 99 (lc23 p1 p2 a) [(.ref b__4), (.ref a)])) rfl (by rw [hml]; rfl) (Steps.refl _) (argsL := [(.ref b__4)]) (rest := []) (lenOf pd_26 rfl) rfl (by show 2 * 0 + _ ≤ _; exact Nat.le_of_eq rfl) (hb hby at_99) (fun _ _ => ⟨rfl, rfl, (by decide : 2 + 6 ≤ _), (by decide : 5 + 191 ≤ _)⟩)
  dsimp only [Pt.U, Pt.locs, Pt.cells, Pt.slots] at X_5 l_5 y_5 z_5 st_5 hQ_5
  subst l_5 y_5 z_5
  obtain ⟨r__5, ⟨e__5, ⟨kk__5, ⟨rfl, N_5q, Kc_5, pfsz_r_5, pfsz_e_5, pfE_r_5, pfF_value_r_5, pfF_coder_r_5, pfV_e_5⟩⟩⟩⟩ := hQ_5
  have Z_5 : n0 ≤ T_5.heap.size := (Nat.le_trans Z_4 Kc_5.1)
  have K_5 : Keep h0 T_5.heap [] := K_4.trans Kc_5 all0
  have sz_r__5 : h0.size ≤ r__5 := Nat.le_trans K_4.1 pfsz_r_5
  have g_r__5 : n0 ≤ r__5 := Nat.le_trans Z_4 pfsz_r_5
  have sz_e__5 : h0.size ≤ e__5 := Nat.le_trans K_4.1 pfsz_e_5
  have g_e__5 : n0 ≤ e__5 := Nat.le_trans Z_4 pfsz_e_5
  have N_5 := Fr.app N_4 N_5q
  obtain ⟨cq_6, kq_6, q_6a, q_6b, q_6c⟩ := isOf hZ rfl pfE_r_5
  obtain ⟨_, _, ⟨T_6, L_6, k_6, n_6⟩, -, X_6, ⟨Lc_6, hQ_6, l_6, y_6, z_6⟩, st_6⟩ := X_5.virtualBack hx (y := MN12) (z := MN12) hown (mvT hZ (ow hw 180 rfl)) (mvT hZ (ow hw 82 rfl)) (notFace_of_selects (args := #[]) (mvT hZ (ow hw 84 rfl))) (mvT hZ (ow hw 84 rfl)) (mvT hZ (ow hw 83 rfl)) (by decide) (backOf (W := 0) (rm_len42 l Z a0 hw [] r__5 e__5 kk__5 cs (nar .byte (((p2 &&& (255 : Int32)).toUInt32.toUInt16.toUInt32.toInt32).toInt8.toInt32)) T_5.heap n0 Z_5 pfF_value_r_5 pfF_coder_r_5 pfE_r_5 pfV_e_5 (own_sta_keep (own_sta_keep S_String_COMPACT_STRINGS Kc_4 all0) Kc_5 all0) hcs) hZ (ow hw 85 rfl) (ow hw 24 rfl) (by decide) (by decide)) q_6a q_6c (g := (mkF mM 106 (lc24 p1 p2 a r__5) [(.ref r__5)])) rfl (by rw [hml]; rfl) (Steps.refl _) (argsL := []) (rest := []) (lenOf pd_11 rfl) rfl (by show 2 * 0 + _ ≤ _; exact Nat.le_of_eq rfl) (hb hby at_106) (fun _ _ => ⟨rfl, rfl, (by decide : 8 + 0 ≤ _), (by decide : 196 + 0 ≤ _)⟩)
  dsimp only [Pt.U, Pt.locs, Pt.cells, Pt.slots] at X_6 l_6 y_6 z_6 st_6 hQ_6
  subst l_6 y_6 z_6
  obtain ⟨rfl, N_6q, eh_6⟩ := hQ_6
  have N_6 := Fr.app N_5 N_6q
  obtain ⟨cq_7, kq_7, q_7a, q_7b, q_7c⟩ := isOf hZ eh_6 pfE_r_5
  obtain ⟨_, _, ⟨T_7, L_7, k_7, n_7⟩, -, X_7, ⟨Lc_7, hQ_7, l_7, y_7, z_7⟩, st_7⟩ := X_6.virtualBack hx (y := MN12) (z := MN12) hown (mvT hZ (ow hw 180 rfl)) (mvT hZ (ow hw 82 rfl)) (notFace_of_selects (args := #[]) (mvT hZ (ow hw 84 rfl))) (mvT hZ (ow hw 84 rfl)) (mvT hZ (ow hw 83 rfl)) (by decide) (backOf (W := 1) (rm_len42 l Z a0 hw [] r__5 e__5 kk__5 cs (nar .byte (((p2 &&& (255 : Int32)).toUInt32.toUInt16.toUInt32.toInt32).toInt8.toInt32)) T_5.heap n0 Z_5 pfF_value_r_5 pfF_coder_r_5 pfE_r_5 pfV_e_5 (own_sta_keep (own_sta_keep S_String_COMPACT_STRINGS Kc_4 all0) Kc_5 all0) hcs) hZ (ow hw 85 rfl) (ow hw 24 rfl) (by decide) (by decide)) q_7a q_7c (g := (mkF mM 117 (lc24 p1 p2 a r__5) [(.ref r__5), (.ref r__5)])) rfl (by rw [hml]; rfl) (Steps.refl _) (argsL := []) (rest := [(.ref r__5)]) (lenOf pd_11 rfl) rfl (by show 2 * 0 + _ ≤ _; exact Nat.le_of_eq rfl) (hb hby at_117) (fun _ _ => ⟨rfl, eh_6, (by decide : 8 + 0 ≤ _), (by decide : 196 + 0 ≤ _)⟩)
  dsimp only [Pt.U, Pt.locs, Pt.cells, Pt.slots] at X_7 l_7 y_7 z_7 st_7 hQ_7
  subst l_7 y_7 z_7
  obtain ⟨rfl, N_7q, eh_7⟩ := hQ_7
  have N_7 := Fr.app N_6 N_7q
  obtain ⟨cq_8, kq_8, q_8a, q_8b, q_8c⟩ := isOf hZ eh_7 pfE_r_5
  obtain ⟨_, _, ⟨T_8, L_8, k_8, n_8⟩, -, X_8, ⟨Lc_8, hQ_8, l_8, y_8, z_8⟩, st_8⟩ := X_7.virtualBack hx (y := MN36) (z := MN36) hown (mvT hZ (ow hw 181 rfl)) (mvT hZ (ow hw 182 rfl)) (notFace_of_selects (args := #[]) (mvT hZ (ow hw 184 rfl))) (mvT hZ (ow hw 184 rfl)) (mvT hZ (ow hw 183 rfl)) (by decide) (backOf (W := 0) (rm_chatn l Z a0 hw [] r__5 e__5 kk__5 (nar .byte (((p2 &&& (255 : Int32)).toUInt32.toUInt16.toUInt32.toInt32).toInt8.toInt32)) cs T_5.heap n0 Z_5 (own_sta_keep (own_sta_keep S_Preconditions_SIOOBE_FORMATTER Kc_4 all0) Kc_5 all0) pfF_value_r_5 pfF_coder_r_5 pfE_r_5 pfV_e_5 (own_sta_keep (own_sta_keep S_String_COMPACT_STRINGS Kc_4 all0) Kc_5 all0) hcs) hZ (ow hw 185 rfl) (ow hw 24 rfl) (by decide) (by decide)) q_8a q_8c (g := (mkF mM 122 (lc24 p1 p2 a r__5) [(.int (41 : Int32)), (.ref r__5)])) rfl (by rw [hml]; rfl) (Steps.refl _) (argsL := [(.int (41 : Int32))]) (rest := []) (lenOf pd_27 rfl) rfl (by show 2 * 0 + _ ≤ _; exact Nat.le_of_eq rfl) (hb hby at_122) (fun _ _ => ⟨rfl, eh_7, (by decide : 8 + 0 ≤ _), (by decide : 196 + 0 ≤ _)⟩)
  dsimp only [Pt.U, Pt.locs, Pt.cells, Pt.slots] at X_8 l_8 y_8 z_8 st_8 hQ_8
  subst l_8 y_8 z_8
  obtain ⟨rfl, N_8q, eh_8⟩ := hQ_8
  have N_8 := Fr.app N_7 N_8q
  obtain ⟨fs, hr, hrun, hended, hW, hsame⟩ := X_8.leave (v := some (.int (1 : Int32))) (fun h => by rw [Bd.returns] at h; cases h)
  refine ⟨_, _, pre0 _ ?_, hrun, hended, _, _, rfl, ?_, ⟨_, rfl⟩, hW, hsame.mono (by decide) (by decide)⟩
  · show oS pP eE below s₁ (mkF mM 0 (lc10 p1 p2) []) _
    refine XS.iloadN X0.here hx rfl (hb hby at_0) rfl ?_
    show oS pP eE below s₁ (mkF mM 1 (lc10 p1 p2) [(.int p1)]) _
    refine X0.ldcI hx hown (mvT hZ (ow hw 0 rfl)) (g := (mkF mM 1 (lc10 p1 p2) [(.int p1)])) rfl (hb hby at_1) ?_
    show oS pP eE below s₁ (mkF mM 3 (lc10 p1 p2) [(.int (2147483647 : Int32)), (.int p1)]) _
    refine XS.iand X0.here hx rfl (hb hby at_3) rfl ?_
    refine XS.iconst X0.here hx rfl (hb hby at_4) ?_
    show oS pP eE below s₁ (mkF mM 5 (lc10 p1 p2) [(.int (3 : Int32)), (.int (p1 &&& (2147483647 : Int32)))]) _
    refine iremM X0 hx rfl (hb hby at_5) rfl (by decide) ?_
    show oS pP eE below s₁ (mkF mM 6 (lc10 p1 p2) [(.int ((p1 &&& (2147483647 : Int32)) % (3 : Int32)))]) _
    rw [hk]
    refine XS.istoreN X0.here hx rfl (hb hby at_6) rfl (l' := (lc19 p1 p2)) rfl ?_
    refine XS.iloadN X0.here hx rfl (hb hby at_7) rfl ?_
    refine XS.ifYes X0.here hx rfl (pc0 := 8) (pc' := 17) rfl (hb hby at_8) rfl (by decide) (by decide) (by decide) ?_
    show oS pP eE below s₁ (mkF mM 17 (lc19 p1 p2) []) _
    refine XS.iloadN X0.here hx rfl (hb hby at_17) rfl ?_
    refine XS.iconst X0.here hx rfl (hb hby at_18) ?_
    refine XS.icmpNo X0.here hx rfl (hb hby at_19) rfl (by decide) ?_
    show oS pP eE below s₁ (mkF mM 22 (lc19 p1 p2) []) _
    refine st_1 _ ?_
    show oS pP eE below T_1 (mkF mM 25 (lc19 p1 p2) [(.ref a)]) _
    refine XS.goto X_1.here hx rfl (pc0 := 25) (pc' := 31) rfl (hb hby at_25) (by decide) (by decide) ?_
    refine XS.astoreN X_1.here hx rfl (hb hby at_31) rfl rfl (l' := (lc20 p1 p2 a)) rfl ?_
    refine XS.iloadN X_1.here hx rfl (hb hby at_32) rfl ?_
    refine XS.iconst X_1.here hx rfl (hb hby at_33) ?_
    show oS pP eE below T_1 (mkF mM 34 (lc20 p1 p2 a) [(.int (1 : Int32)), (.int (1 : Int32))]) _
    refine XS.icmpNo X_1.here hx rfl (hb hby at_34) rfl (by decide) ?_
    refine XS.iconst X_1.here hx rfl (hb hby at_37) ?_
    refine XS.goto X_1.here hx rfl (pc0 := 38) (pc' := 42) rfl (hb hby at_38) (by decide) (by decide) ?_
    refine XS.istore X_1.here hx rfl (hb hby at_42) rfl (l' := (lc21 p1 p2 a)) rfl ?_
    show oS pP eE below T_1 (mkF mM 44 (lc21 p1 p2 a) []) _
    refine XS.aloadN X_1.here hx rfl (hb hby at_44) rfl rfl ?_
    show oS pP eE below T_1 (mkF mM 45 (lc21 p1 p2 a) [(.ref a)]) _
    refine st_2.trans ?_
    show oS pP eE below T_2 (mkF mM 48 (lc21 p1 p2 a) [(.int (1 : Int32))]) _
    refine XS.istore X_2.here hx rfl (hb hby at_48) rfl (l' := (lc22 p1 p2 a)) rfl ?_
    refine XS.iload X_2.here hx rfl (hb hby at_50) rfl ?_
    refine XS.iload X_2.here hx rfl (hb hby at_52) rfl ?_
    refine XS.icmpYes X_2.here hx rfl (pc0 := 54) (pc' := 59) rfl (hb hby at_54) rfl (by decide) (by decide) (by decide) ?_
    show oS pP eE below T_2 (mkF mM 59 (lc22 p1 p2 a) []) _
    refine XS.aloadN X_2.here hx rfl (hb hby at_59) rfl rfl ?_
    show oS pP eE below T_2 (mkF mM 60 (lc22 p1 p2 a) [(.ref a)]) _
    refine st_3.trans ?_
    show oS pP eE below T_3 (mkF mM 63 (lc22 p1 p2 a) [(.ref w)]) _
    refine XS.ifnullNo X_3.here hx rfl (hb hby at_63) rfl ?_
    refine XS.iconst X_3.here hx rfl (hb hby at_66) ?_
    refine XS.goto X_3.here hx rfl (pc0 := 67) (pc' := 71) rfl (hb hby at_67) (by decide) (by decide) ?_
    refine XS.iload X_3.here hx rfl (hb hby at_71) rfl ?_
    show oS pP eE below T_3 (mkF mM 73 (lc22 p1 p2 a) [(.int (1 : Int32)), (.int (1 : Int32))]) _
    refine XS.icmpYes X_3.here hx rfl (pc0 := 73) (pc' := 78) rfl (hb hby at_73) rfl (by decide) (by decide) (by decide) ?_
    refine XS.iload X_3.here hx rfl (hb hby at_78) rfl ?_
    refine XS.ifYes X_3.here hx rfl (pc0 := 80) (pc' := 85) rfl (hb hby at_80) rfl (by decide) (by decide) (by decide) ?_
    refine XS.iloadN X_3.here hx rfl (hb hby at_85) rfl ?_
    show oS pP eE below T_3 (mkF mM 86 (lc22 p1 p2 a) [(.int p2)]) _
    refine XS.sipush X_3.here hx rfl (hb hby at_86) ?_
    show oS pP eE below T_3 (mkF mM 89 (lc22 p1 p2 a) [(.int (255 : Int32)), (.int p2)]) _
    refine XS.iand X_3.here hx rfl (hb hby at_89) rfl ?_
    show oS pP eE below T_3 (mkF mM 90 (lc22 p1 p2 a) [(.int (p2 &&& (255 : Int32)))]) _
    refine XT.i2c X_3.here hx rfl (hb hby at_90) rfl ?_
    refine XS.istore X_3.here hx rfl (hb hby at_91) rfl (l' := (lc23 p1 p2 a)) rfl ?_
    refine XS.aloadN X_3.here hx rfl (hb hby at_93) rfl rfl ?_
    refine XS.iload X_3.here hx rfl (hb hby at_94) rfl ?_
    show oS pP eE below T_3 (mkF mM 96 (lc23 p1 p2 a) [(.int ((p2 &&& (255 : Int32)).toUInt32.toUInt16.toUInt32.toInt32)), (.ref a)]) _
    refine st_4 _ ?_
    show oS pP eE below T_4 (mkF mM 99 (lc23 p1 p2 a) [(.ref b__4), (.ref a)]) _
    refine st_5.trans ?_
    show oS pP eE below T_5 (mkF mM 102 (lc23 p1 p2 a) [(.ref r__5)]) _
    refine XS.astore X_5.here hx rfl (hb hby at_102) rfl rfl (l' := (lc24 p1 p2 a r__5)) rfl ?_
    refine XS.aload X_5.here hx rfl (hb hby at_104) rfl rfl ?_
    show oS pP eE below T_5 (mkF mM 106 (lc24 p1 p2 a r__5) [(.ref r__5)]) _
    refine st_6.trans ?_
    show oS pP eE below T_6 (mkF mM 109 (lc24 p1 p2 a r__5) [(.int (42 : Int32))]) _
    refine XS.iconst X_6.here hx rfl (hb hby at_109) ?_
    refine XS.icmpNo X_6.here hx rfl (hb hby at_110) rfl (by decide) ?_
    refine XS.aload X_6.here hx rfl (hb hby at_113) rfl rfl ?_
    refine XS.aload X_6.here hx rfl (hb hby at_115) rfl rfl ?_
    show oS pP eE below T_6 (mkF mM 117 (lc24 p1 p2 a r__5) [(.ref r__5), (.ref r__5)]) _
    refine st_7.trans ?_
    show oS pP eE below T_7 (mkF mM 120 (lc24 p1 p2 a r__5) [(.int (42 : Int32)), (.ref r__5)]) _
    refine XS.iconst X_7.here hx rfl (hb hby at_120) ?_
    show oS pP eE below T_7 (mkF mM 121 (lc24 p1 p2 a r__5) [(.int (1 : Int32)), (.int (42 : Int32)), (.ref r__5)]) _
    refine XS.isub X_7.here hx rfl (hb hby at_121) rfl ?_
    show oS pP eE below T_7 (mkF mM 122 (lc24 p1 p2 a r__5) [(.int ((42 : Int32) - (1 : Int32))), (.ref r__5)]) _
    rw [(by decide : ((42 : Int32) - (1 : Int32)) = (41 : Int32))]
    show oS pP eE below T_7 (mkF mM 122 (lc24 p1 p2 a r__5) [(.int (41 : Int32)), (.ref r__5)]) _
    refine st_8.trans ?_
    show oS pP eE below T_8 (mkF mM 125 (lc24 p1 p2 a r__5) [(.int (nar .char (nar .char (((nar .byte (((p2 &&& (255 : Int32)).toUInt32.toUInt16.toUInt32.toInt32).toInt8.toInt32)) &&& (255 : Int32)).toUInt32.toUInt16.toUInt32.toInt32))))]) _
    refine XS.iload X_8.here hx rfl (hb hby at_125) rfl ?_
    refine XS.icmpNo X_8.here hx rfl (hb hby at_127) rfl (XT.ii_ne_f (own_back p2)) ?_
    refine XS.iconst X_8.here hx rfl (hb hby at_130) ?_
    refine XS.goto X_8.here hx rfl (pc0 := 131) (pc' := 135) rfl (hb hby at_131) (by decide) (by decide) ?_
    show oS pP eE below T_8 (mkF mM 135 (lc24 p1 p2 a r__5) [(.int (1 : Int32))]) _
    exact retN X_8 hx (t := .boolean) Bd.returns (by simp) (hb hby at_135) hr
  · show Q_law1n Z p1 p2 a u uv ku w cs h0 n0 _ T_8.heap _
    exact ⟨rfl, N_8⟩
theorem own_rem3 (x : Int32) : (x &&& (2147483647 : Int32)) % (3 : Int32) = 0 ∨ (x &&& (2147483647 : Int32)) % (3 : Int32) = 1 ∨ (x &&& (2147483647 : Int32)) % (3 : Int32) = 2 := by
  have e : (x &&& (2147483647 : Int32)).toInt = x.toInt % 2 ^ 31 := Jvm.Kit.i32_mask x 2147483647 (k := 31) (by decide) (by decide)
  have r : ((x &&& (2147483647 : Int32)) % (3 : Int32)).toInt = (x &&& (2147483647 : Int32)).toInt.tmod 3 := by rw [Int32.toInt_mod]; rfl
  have h0 : 0 ≤ (x &&& (2147483647 : Int32)).toInt := by rw [e]; omega
  rw [Int.tmod_eq_emod_of_nonneg h0] at r
  simp only [← Int32.toInt_inj]
  generalize ((x &&& (2147483647 : Int32)) % (3 : Int32)).toInt = z at *
  have q : z = 0 ∨ z = 1 ∨ z = 2 := by omega
  rcases q with rfl | rfl | rfl <;> decide
set_option maxRecDepth 65536 in
set_option maxHeartbeats 40000000 in
theorem comes_1 {Post : Tables → Env → Array Value → State → Outcome → State → Prop} (hpost : ∀ tb e args s v u, (limb_1_1.after args s (.returned v) u = true ∧ limb_1_2.after args s (.returned v) u = true ∧ True) → FrameEnd s (.returned v) u (Jvm.fieldLocs frame_1_writes args s ++ Jvm.arrayLocs frame_1_arrays args s ++ Jvm.staticLocs frame_1_statics s) 24 512 → Post tb e args s (.returned v) u) :
    ArmFor flags0 classFile x code maxLocals ret World_1 tables_1 room_1 Calls_1 rest_1 Pre_1 Post := by
  intro l hfl _ _ p e ha hc hk s m args below hf hA hF happ hP
  obtain ⟨hcalls, hrest, hpre⟩ := hP
  obtain ⟨-, -, -, hnamed, -, -, -, hat⟩ := (Spec.applies_iff hf).mp happ
  obtain ⟨hg, hn⟩ := and_e (Cond.before_iff.mp (show (Jvm.Cond.and given_1 narrow_1).before args s = true from hpre))
  obtain ⟨hg1, hg2⟩ := and_e hg
  obtain ⟨hg3, hg4⟩ := and_e hg2
  obtain ⟨w0, w1, rfl⟩ : ∃ w0 w1 : Value, args = #[w0, w1] := by
    have hs : args.size = 2 := by simpa [Cond.value, given_1] using hg1
    obtain ⟨L⟩ := args
    match L, hs with
    | [w0, w1], _ => exact ⟨w0, w1, rfl⟩
  obtain ⟨i0, ei0⟩ := is_v hg3
  obtain rfl : w0 = (.int i0) := Option.some.inj ei0
  obtain ⟨i1, ei1⟩ := is_v hg4
  obtain rfl : w1 = (.int i1) := Option.some.inj ei1
  have hw := fun d (hd : d ∈ tables_1) => atoms_spec (ws := Jvm.Cond.code x code maxLocals ret :: tables_1) hat d (List.mem_cons_of_mem _ hd)
  have hfit : Fit s := fun {y c} hc i hi => by
    obtain ⟨ha, rfl⟩ := Array.getElem?_eq_some_iff.mp hc
    have q := List.all_eq_true.mp ((Array.all_eq_true_iff_forall_mem.mp hF) _ (Array.getElem_mem ha)) i (List.mem_range.mpr hi)
    simpa [Array.getElem?_eq_getElem hi] using q
  obtain ⟨hsets, hown0⟩ := atoms_of _ (rest_1_c_eq ▸ (show rest_1_c.before _ s = true from hrest))
  obtain ⟨hn1, hn2⟩ := and_e hn
  obtain ⟨hn3, hn4⟩ := and_e hn2
  obtain ⟨hn5, hn6⟩ := and_e hn4
  obtain ⟨hn7, hn8⟩ := and_e hn6
  obtain ⟨hn9, hn10⟩ := and_e hn8
  obtain ⟨hn11, hn12⟩ := and_e hn10
  obtain ⟨hn13, hn14⟩ := and_e hn12
  obtain ⟨hn15, hn16⟩ := and_e hn14
  obtain ⟨hn17, hn18⟩ := and_e hn16
  obtain ⟨hn19, hn20⟩ := and_e hn18
  obtain ⟨hn21, hn22⟩ := and_e hn20
  obtain ⟨hn23, hn24⟩ := and_e hn22
  obtain ⟨hn25, hn26⟩ := and_e hn24
  obtain ⟨hn27, hn28⟩ := and_e hn26
  obtain ⟨hn29, hn30⟩ := and_e hn28
  obtain ⟨hn31, hn32⟩ := and_e hn30
  obtain ⟨hn33, hn34⟩ := and_e hn32
  obtain ⟨hn35, hn36⟩ := and_e hn34
  obtain ⟨hn37, hn38⟩ := and_e hn36
  obtain ⟨hn39, hn40⟩ := and_e hn38
  obtain ⟨hn41, hn42⟩ := and_e hn40
  obtain ⟨hn43, hn44⟩ := and_e hn42
  obtain ⟨hn45, hn46⟩ := and_e hn44
  obtain ⟨hn47, hn48⟩ := and_e hn46
  obtain ⟨hn49, hn50⟩ := and_e hn48
  obtain ⟨hn51, hn52⟩ := and_e hn50
  obtain ⟨hn53, hn54⟩ := and_e hn52
  obtain ⟨hn55, hn56⟩ := and_e hn54
  obtain ⟨hn57, hn58⟩ := and_e hn56
  obtain ⟨hn59, hn60⟩ := and_e hn58
  obtain ⟨hn61, hn62⟩ := and_e hn60
  obtain ⟨hn63, hn64⟩ := and_e hn62
  obtain ⟨hn65, hn66⟩ := and_e hn64
  obtain ⟨hn67, hn68⟩ := and_e hn66
  obtain ⟨hn69, hn70⟩ := and_e hn68
  obtain ⟨hn71, hn72⟩ := and_e hn70
  obtain ⟨hn73, hn74⟩ := and_e hn72
  obtain ⟨hn75, hn76⟩ := and_e hn74
  obtain ⟨hn77, hn78⟩ := and_e hn76
  obtain ⟨hn79, hn80⟩ := and_e hn78
  obtain ⟨hn81, hn82⟩ := and_e hn80
  obtain ⟨hn83, hn84⟩ := and_e hn82
  obtain ⟨hn85, hn86⟩ := and_e hn84
  obtain ⟨hn87, hn88⟩ := and_e hn86
  obtain ⟨hn89, hn90⟩ := and_e hn88
  obtain ⟨hn91, hn92⟩ := and_e hn90
  obtain ⟨hn93, hn94⟩ := and_e hn92
  obtain ⟨hn95, hn96⟩ := and_e hn94
  obtain ⟨hn97, hn98⟩ := and_e hn96
  obtain ⟨hn99, hn100⟩ := and_e hn98
  obtain ⟨hn101, hn102⟩ := and_e hn100
  obtain ⟨hn103, hn104⟩ := and_e hn102
  obtain ⟨hn105, hn106⟩ := and_e hn104
  obtain ⟨x_Dialect_POSTGRESQL, ev_x_Dialect_POSTGRESQL⟩ := exa_v hn1
  have E_x_Dialect_POSTGRESQL := Exa.start ev_x_Dialect_POSTGRESQL hn1
  have S_Dialect_POSTGRESQL := Sta.start ev_x_Dialect_POSTGRESQL (Or.inr ⟨(ow hw 2 rfl), (ow hw 3 rfl)⟩)
  have F_x_Dialect_POSTGRESQL_uncheckedPrefix := own_fld ev_x_Dialect_POSTGRESQL (null_v hn3)
  have F_x_Dialect_POSTGRESQL_referencingKeysQuery := own_fld ev_x_Dialect_POSTGRESQL (null_v hn5)
  obtain ⟨x_Dialect_PORTABLE, ev_x_Dialect_PORTABLE⟩ := exa_v hn7
  have E_x_Dialect_PORTABLE := Exa.start ev_x_Dialect_PORTABLE hn7
  have S_Dialect_PORTABLE := Sta.start ev_x_Dialect_PORTABLE (Or.inr ⟨(ow hw 2 rfl), (ow hw 19 rfl)⟩)
  have F_x_Dialect_PORTABLE_uncheckedPrefix := own_fld ev_x_Dialect_PORTABLE (null_v hn9)
  have F_x_Dialect_PORTABLE_referencingKeysQuery := own_fld ev_x_Dialect_PORTABLE (null_v hn11)
  obtain ⟨x_Dialect_MARIADB, ev_x_Dialect_MARIADB⟩ := exa_v hn13
  have E_x_Dialect_MARIADB := Exa.start ev_x_Dialect_MARIADB hn13
  have S_Dialect_MARIADB := Sta.start ev_x_Dialect_MARIADB (Or.inr ⟨(ow hw 2 rfl), (ow hw 21 rfl)⟩)
  obtain ⟨x_Dialect_MARIADB_uncheckedPrefix, ev_x_Dialect_MARIADB_uncheckedPrefix⟩ := exa_v hn15
  have E_x_Dialect_MARIADB_uncheckedPrefix := Exa.start ev_x_Dialect_MARIADB_uncheckedPrefix hn15
  have F_x_Dialect_MARIADB_uncheckedPrefix := own_fld ev_x_Dialect_MARIADB ev_x_Dialect_MARIADB_uncheckedPrefix
  obtain ⟨x_Dialect_MARIADB_referencingKeysQuery, ev_x_Dialect_MARIADB_referencingKeysQuery⟩ := exa_v hn17
  have E_x_Dialect_MARIADB_referencingKeysQuery := Exa.start ev_x_Dialect_MARIADB_referencingKeysQuery hn17
  have F_x_Dialect_MARIADB_referencingKeysQuery := own_fld ev_x_Dialect_MARIADB ev_x_Dialect_MARIADB_referencingKeysQuery
  obtain ⟨x_Dialect_MARIADB_uncheckedPrefix_value, ev_x_Dialect_MARIADB_uncheckedPrefix_value⟩ := exa_v hn21
  have E_x_Dialect_MARIADB_uncheckedPrefix_value := Exa.start ev_x_Dialect_MARIADB_uncheckedPrefix_value hn21
  have F_x_Dialect_MARIADB_uncheckedPrefix_value := own_fld ev_x_Dialect_MARIADB_uncheckedPrefix ev_x_Dialect_MARIADB_uncheckedPrefix_value
  have F_x_Dialect_MARIADB_uncheckedPrefix_coder := own_fld ev_x_Dialect_MARIADB_uncheckedPrefix (own_eqi hn25)
  obtain ⟨cA, AA⟩ := Arr.start ev_x_Dialect_MARIADB_uncheckedPrefix_value hn19
  obtain ⟨hl1, hl2⟩ := own_len ev_x_Dialect_MARIADB_uncheckedPrefix_value AA hn23
  have VA : Arv s s.heap x_Dialect_MARIADB_uncheckedPrefix_value cA.cls .byte (41 : Int32) [(.int (83 : Int32)), (.int (69 : Int32)), (.int (84 : Int32)), (.int (32 : Int32)), (.int (83 : Int32)), (.int (84 : Int32)), (.int (65 : Int32)), (.int (84 : Int32)), (.int (69 : Int32)), (.int (77 : Int32)), (.int (69 : Int32)), (.int (78 : Int32)), (.int (84 : Int32)), (.int (32 : Int32)), (.int (102 : Int32)), (.int (111 : Int32)), (.int (114 : Int32)), (.int (101 : Int32)), (.int (105 : Int32)), (.int (103 : Int32)), (.int (110 : Int32)), (.int (95 : Int32)), (.int (107 : Int32)), (.int (101 : Int32)), (.int (121 : Int32)), (.int (95 : Int32)), (.int (99 : Int32)), (.int (104 : Int32)), (.int (101 : Int32)), (.int (99 : Int32)), (.int (107 : Int32)), (.int (115 : Int32)), (.int (32 : Int32)), (.int (61 : Int32)), (.int (32 : Int32)), (.int (48 : Int32)), (.int (32 : Int32)), (.int (70 : Int32)), (.int (79 : Int32)), (.int (82 : Int32)), (.int (32 : Int32))] (.int (0 : Int32)) := Arv.start hfit AA hl1 hl2 (by decide) rfl ⟨own_elem ev_x_Dialect_MARIADB_uncheckedPrefix_value AA.1 hn27, own_elem ev_x_Dialect_MARIADB_uncheckedPrefix_value AA.1 hn29, own_elem ev_x_Dialect_MARIADB_uncheckedPrefix_value AA.1 hn31, own_elem ev_x_Dialect_MARIADB_uncheckedPrefix_value AA.1 hn33, own_elem ev_x_Dialect_MARIADB_uncheckedPrefix_value AA.1 hn35, own_elem ev_x_Dialect_MARIADB_uncheckedPrefix_value AA.1 hn37, own_elem ev_x_Dialect_MARIADB_uncheckedPrefix_value AA.1 hn39, own_elem ev_x_Dialect_MARIADB_uncheckedPrefix_value AA.1 hn41, own_elem ev_x_Dialect_MARIADB_uncheckedPrefix_value AA.1 hn43, own_elem ev_x_Dialect_MARIADB_uncheckedPrefix_value AA.1 hn45, own_elem ev_x_Dialect_MARIADB_uncheckedPrefix_value AA.1 hn47, own_elem ev_x_Dialect_MARIADB_uncheckedPrefix_value AA.1 hn49, own_elem ev_x_Dialect_MARIADB_uncheckedPrefix_value AA.1 hn51, own_elem ev_x_Dialect_MARIADB_uncheckedPrefix_value AA.1 hn53, own_elem ev_x_Dialect_MARIADB_uncheckedPrefix_value AA.1 hn55, own_elem ev_x_Dialect_MARIADB_uncheckedPrefix_value AA.1 hn57, own_elem ev_x_Dialect_MARIADB_uncheckedPrefix_value AA.1 hn59, own_elem ev_x_Dialect_MARIADB_uncheckedPrefix_value AA.1 hn61, own_elem ev_x_Dialect_MARIADB_uncheckedPrefix_value AA.1 hn63, own_elem ev_x_Dialect_MARIADB_uncheckedPrefix_value AA.1 hn65, own_elem ev_x_Dialect_MARIADB_uncheckedPrefix_value AA.1 hn67, own_elem ev_x_Dialect_MARIADB_uncheckedPrefix_value AA.1 hn69, own_elem ev_x_Dialect_MARIADB_uncheckedPrefix_value AA.1 hn71, own_elem ev_x_Dialect_MARIADB_uncheckedPrefix_value AA.1 hn73, own_elem ev_x_Dialect_MARIADB_uncheckedPrefix_value AA.1 hn75, own_elem ev_x_Dialect_MARIADB_uncheckedPrefix_value AA.1 hn77, own_elem ev_x_Dialect_MARIADB_uncheckedPrefix_value AA.1 hn79, own_elem ev_x_Dialect_MARIADB_uncheckedPrefix_value AA.1 hn81, own_elem ev_x_Dialect_MARIADB_uncheckedPrefix_value AA.1 hn83, own_elem ev_x_Dialect_MARIADB_uncheckedPrefix_value AA.1 hn85, own_elem ev_x_Dialect_MARIADB_uncheckedPrefix_value AA.1 hn87, own_elem ev_x_Dialect_MARIADB_uncheckedPrefix_value AA.1 hn89, own_elem ev_x_Dialect_MARIADB_uncheckedPrefix_value AA.1 hn91, own_elem ev_x_Dialect_MARIADB_uncheckedPrefix_value AA.1 hn93, own_elem ev_x_Dialect_MARIADB_uncheckedPrefix_value AA.1 hn95, own_elem ev_x_Dialect_MARIADB_uncheckedPrefix_value AA.1 hn97, own_elem ev_x_Dialect_MARIADB_uncheckedPrefix_value AA.1 hn99, own_elem ev_x_Dialect_MARIADB_uncheckedPrefix_value AA.1 hn101, own_elem ev_x_Dialect_MARIADB_uncheckedPrefix_value AA.1 hn103, own_elem ev_x_Dialect_MARIADB_uncheckedPrefix_value AA.1 hn105, own_elem ev_x_Dialect_MARIADB_uncheckedPrefix_value AA.1 hn106, trivial⟩
  obtain ⟨cs, ecs⟩ := is_v (Cond.before_iff.mp (hsets _ (List.mem_of_getElem? (i := 1) rfl)))
  have S1 := Sta.start ecs (Or.inl (hsets _ (List.mem_of_getElem? (i := 0) rfl)))
  have hcs : ¬ cs = 0 := fun q => by
    have h2 := not_v (Cond.before_iff.mp (hsets _ (List.mem_of_getElem? (i := 2) rfl)))
    have h3 := eq_i ecs (Term.int_eval (0)) (congrArg Value.int q) (o := none) (first := s)
    rw [h3] at h2; cases h2
  obtain ⟨fm, efm, hfm⟩ := isR_v (Cond.before_iff.mp (hsets _ (List.mem_of_getElem? (i := 8) rfl)))
  have S2 := Sta.start efm (Or.inl (hsets _ (List.mem_of_getElem? (i := 7) rfl)))
  rcases own_rem3 i0 with hcs3 | hcs3 | hcs3
  · obtain ⟨n, o, h1, h2, h3, _, L, rfl, ⟨rfl, N⟩, hq⟩ := rm_law0 l s _ hw tables_1 i0 i1 x_Dialect_POSTGRESQL s.heap s.heap.size (Nat.le_refl _) hcs3 S_Dialect_POSTGRESQL E_x_Dialect_POSTGRESQL F_x_Dialect_POSTGRESQL_uncheckedPrefix F_x_Dialect_POSTGRESQL_referencingKeysQuery p e ha hc hk s m _ below hf ((Spec.applies_iff_loose hf).mp happ).1 ⟨rfl, State.Warmed39.refl s, rfl⟩ trivial
    exact ⟨n, _, h1, h2, h3, hpost _ _ _ _ _ _ ⟨Cond.after_iff.mpr rfl, Cond.after_iff.mpr (eq_i res_at (Term.int_eval (1)) rfl), trivial⟩ ⟨hq.1, hq.2.1, (hq.2.2.sift fun y hy => Or.inr (N y hy)).mono (by decide) (by decide)⟩⟩
  · rcases ref_cases hfm with rfl | ⟨fma, rfl⟩
    · obtain ⟨n, o, h1, h2, h3, _, L, rfl, ⟨rfl, N⟩, hq⟩ := rm_law1n l s _ hw tables_1 i0 i1 x_Dialect_MARIADB x_Dialect_MARIADB_uncheckedPrefix x_Dialect_MARIADB_uncheckedPrefix_value cA.cls x_Dialect_MARIADB_referencingKeysQuery cs  s.heap s.heap.size (Nat.le_refl _) hcs3 S_Dialect_MARIADB E_x_Dialect_MARIADB F_x_Dialect_MARIADB_uncheckedPrefix F_x_Dialect_MARIADB_referencingKeysQuery F_x_Dialect_MARIADB_uncheckedPrefix_value F_x_Dialect_MARIADB_uncheckedPrefix_coder E_x_Dialect_MARIADB_uncheckedPrefix VA S1 hcs S2 p e ha hc hk s m _ below hf ((Spec.applies_iff_loose hf).mp happ).1 ⟨rfl, State.Warmed39.refl s, rfl⟩ trivial
      exact ⟨n, _, h1, h2, h3, hpost _ _ _ _ _ _ ⟨Cond.after_iff.mpr rfl, Cond.after_iff.mpr (eq_i res_at (Term.int_eval (1)) rfl), trivial⟩ ⟨hq.1, hq.2.1, (hq.2.2.sift fun y hy => Or.inr (N y hy)).mono (by decide) (by decide)⟩⟩
    · obtain ⟨n, o, h1, h2, h3, _, L, rfl, ⟨rfl, N⟩, hq⟩ := rm_law1r l s _ hw tables_1 i0 i1 x_Dialect_MARIADB x_Dialect_MARIADB_uncheckedPrefix x_Dialect_MARIADB_uncheckedPrefix_value cA.cls x_Dialect_MARIADB_referencingKeysQuery cs fma s.heap s.heap.size (Nat.le_refl _) hcs3 S_Dialect_MARIADB E_x_Dialect_MARIADB F_x_Dialect_MARIADB_uncheckedPrefix F_x_Dialect_MARIADB_referencingKeysQuery F_x_Dialect_MARIADB_uncheckedPrefix_value F_x_Dialect_MARIADB_uncheckedPrefix_coder E_x_Dialect_MARIADB_uncheckedPrefix VA S1 hcs S2 p e ha hc hk s m _ below hf ((Spec.applies_iff_loose hf).mp happ).1 ⟨rfl, State.Warmed39.refl s, rfl⟩ trivial
      exact ⟨n, _, h1, h2, h3, hpost _ _ _ _ _ _ ⟨Cond.after_iff.mpr rfl, Cond.after_iff.mpr (eq_i res_at (Term.int_eval (1)) rfl), trivial⟩ ⟨hq.1, hq.2.1, (hq.2.2.sift fun y hy => Or.inr (N y hy)).mono (by decide) (by decide)⟩⟩
  · obtain ⟨n, o, h1, h2, h3, _, L, rfl, ⟨rfl, N⟩, hq⟩ := rm_law2 l s _ hw tables_1 i0 i1 x_Dialect_PORTABLE s.heap s.heap.size (Nat.le_refl _) hcs3 S_Dialect_PORTABLE E_x_Dialect_PORTABLE F_x_Dialect_PORTABLE_uncheckedPrefix F_x_Dialect_PORTABLE_referencingKeysQuery p e ha hc hk s m _ below hf ((Spec.applies_iff_loose hf).mp happ).1 ⟨rfl, State.Warmed39.refl s, rfl⟩ trivial
    exact ⟨n, _, h1, h2, h3, hpost _ _ _ _ _ _ ⟨Cond.after_iff.mpr rfl, Cond.after_iff.mpr (eq_i res_at (Term.int_eval (1)) rfl), trivial⟩ ⟨hq.1, hq.2.1, (hq.2.2.sift fun y hy => Or.inr (N y hy)).mono (by decide) (by decide)⟩⟩
theorem main_1_1 : Claimed_1_1 := comes_1 fun _ _ _ _ _ _ h hF => ⟨h.1, hF⟩
theorem main_1_2 : Claimed_1_2 := comes_1 fun _ _ _ _ _ _ h hF => ⟨h.2.1, hF⟩
end Jvm.Pilot.@@N@@
namespace Jvm.Pilot.@@N@@
open Jvm Jvm.ClassFile Sem Op Lib Jvm.Free Jvm.Stand Jvm.Pilot.@@N@@.Jvm.D
/-! MADE BY PROGRAM (witnessworld.py) out of the Statement's table words and the real class files: 24 classes; the members and pool entries that the words name. The judged class is class 1, her method 1. -/
namespace start1
open Jvm.ClassFile
def u (s : String) : CpInfo := .utf8 (stringToUtf16 s)
/-- a pool by its gaps: so many unusable entries, then the entry; so many at the end -/
def gap : Nat → List CpInfo → List CpInfo
  | 0, r => r
  | n + 1, r => .unusable :: gap n r
def poolList (es : List (Nat × CpInfo)) (last : Nat) : List CpInfo := es.foldr (fun e r => gap e.1 (e.2 :: r)) (gap last [])
def pool (es : List (Nat × CpInfo)) (last : Nat) : Array CpInfo := ⟨poolList es last⟩
def fileOf (pool : Array CpInfo) (this : Nat) (attrs : Array Attribute := #[]) (ms : Array MethodInfo := #[]) (fl : Nat := 33) (sup : Nat := 0) (ifs : Array Nat := #[]) (fds : Array FieldInfo := #[]) : ClassFile where
  minorVersion := 0
  majorVersion := 65
  constantPool := pool
  accessFlags := fl
  thisClass := this
  superClass := sup
  interfaces := ifs
  fields := fds
  methods := ms
  attributes := attrs
def plain (name : String) (sup : Option ClassId) : Class where
  name := name
  kind := .ordinary
  loader := none
  accessFlags := 33
  super := sup
  interfaces := #[]
  cf := none
  fields := #[]
  methods := #[]
  instanceTypes := #[]
  staticTypes := #[]
  resolved := #[]
  callSites := []
  init := .initialized
  statics := none
  mirror := none

def pool0 : Array CpInfo := pool [(5, u "<init>"), (0, u "()V"), (1, .class_ 10), (1, u "java/lang/Object")] 113

def k0c0 : Code := { maxStack := 0, maxLocals := 1, code := object_method_1_code, exceptionTable := #[], attributes := #[] }
def k0m0 : Method := { name := "<init>", desc := "()V", sig := { parameters := [], returnType := none }, accessFlags := 1, code := some k0c0 }
/-- java/lang/Object -/
def k0 : Class := { plain "java/lang/Object" none with
  accessFlags := 33
  interfaces := #[]
  cf := some (fileOf pool0 8 #[] #[{ accessFlags := 1, nameIndex := 5, descriptorIndex := 6, attributes := #[] }] 33 0 #[] #[])
  fields := #[]
  methods := #[k0m0]
  instanceTypes := #[]
  staticTypes := #[]
  resolved := Array.replicate 124 none
  statics := none }

def pool1 : Array CpInfo := pool [(2, .class_ 4), (1, u "java/lang/Object"), (0, u "<init>"), (0, u "()V"), (0, .integer 2147483647), (0, .fieldref 9 10), (0, .class_ 11), (0, .nameAndType 12 13), (0, u "com/example/casebook/casebook/database/Dialect"), (0, u "POSTGRESQL"), (0, u "Lcom/example/casebook/casebook/database/Dialect;"), (0, .fieldref 9 15), (0, .nameAndType 16 13), (0, u "MARIADB"), (0, .fieldref 9 18), (0, .nameAndType 19 13), (0, u "PORTABLE"), (0, .methodref 9 21), (0, .nameAndType 22 23), (0, u "deletesWithoutForeignKeyChecks"), (0, u "()Z"), (0, .methodref 9 25), (0, .nameAndType 26 27), (0, u "referencingKeysQuery"), (0, u "()Ljava/lang/String;"), (0, .methodref 29 30), (0, .class_ 31), (0, .nameAndType 32 33), (0, u "java/lang/String"), (0, u "valueOf"), (0, u "(C)Ljava/lang/String;"), (0, .methodref 9 35), (0, .nameAndType 36 37), (0, u "withoutForeignKeyChecks"), (0, u "(Ljava/lang/String;)Ljava/lang/String;"), (0, .methodref 29 39), (0, .nameAndType 40 41), (0, u "length"), (0, u "()I"), (0, .methodref 29 43), (0, .nameAndType 44 45), (0, u "charAt"), (0, u "(I)C"), (0, .class_ 47), (0, u "com/example/casebook/casebook/database/DialectDeletesWithoutForeignKeyChecksPinLaw"), (2, u "law"), (0, u "(II)Z")] 3

def k1m0 : Method := { name := "<init>", desc := "()V", sig := { parameters := [], returnType := none }, accessFlags := 1, code := none }
def k1c1 : Code := { maxStack := 3, maxLocals := 8, code := code, exceptionTable := #[], attributes := #[] }
def k1m1 : Method := { name := "law", desc := "(II)Z", sig := { parameters := [.int, .int], returnType := some .boolean }, accessFlags := 9, code := some k1c1 }
/-- com/example/casebook/casebook/database/DialectDeletesWithoutForeignKeyChecksPinLaw -/
def k1 : Class := { plain "com/example/casebook/casebook/database/DialectDeletesWithoutForeignKeyChecksPinLaw" (some 0) with
  accessFlags := 49
  interfaces := #[]
  cf := some (fileOf pool1 46 #[] #[{ accessFlags := 1, nameIndex := 5, descriptorIndex := 6, attributes := #[] }, { accessFlags := 9, nameIndex := 50, descriptorIndex := 51, attributes := #[] }] 49 2 #[] #[])
  fields := #[]
  methods := #[k1m0, k1m1]
  instanceTypes := #[]
  staticTypes := #[]
  resolved := Array.replicate 55 none
  statics := none }

def pool2 : Array CpInfo := pool [(1, .class_ 2), (0, u "java/lang/constant/Constable"), (0, .class_ 4), (0, u "java/lang/Object")] 6

/-- java/lang/constant/Constable -/
def k2 : Class := { plain "java/lang/constant/Constable" (some 0) with
  accessFlags := 1537
  interfaces := #[]
  cf := some (fileOf pool2 1 #[] #[] 1537 3 #[] #[])
  fields := #[]
  methods := #[]
  instanceTypes := #[]
  staticTypes := #[]
  resolved := Array.replicate 11 none
  statics := none }

def pool3 : Array CpInfo := pool [(1, .class_ 2), (0, u "java/lang/Comparable"), (0, .class_ 4), (0, u "java/lang/Object")] 7

/-- java/lang/Comparable -/
def k3 : Class := { plain "java/lang/Comparable" (some 0) with
  accessFlags := 1537
  interfaces := #[]
  cf := some (fileOf pool3 1 #[] #[] 1537 3 #[] #[])
  fields := #[]
  methods := #[]
  instanceTypes := #[]
  staticTypes := #[]
  resolved := Array.replicate 12 none
  statics := none }

def pool4 : Array CpInfo := pool [(1, .class_ 2), (0, u "java/io/Serializable"), (0, .class_ 4), (0, u "java/lang/Object")] 2

/-- java/io/Serializable -/
def k4 : Class := { plain "java/io/Serializable" (some 0) with
  accessFlags := 1537
  interfaces := #[]
  cf := some (fileOf pool4 1 #[] #[] 1537 3 #[] #[])
  fields := #[]
  methods := #[]
  instanceTypes := #[]
  staticTypes := #[]
  resolved := Array.replicate 7 none
  statics := none }

def pool5 : Array CpInfo := pool [(2, .class_ 4), (1, u "java/lang/Enum"), (0, u "name"), (0, u "Ljava/lang/String;"), (2, u "ordinal"), (0, u "I"), (1, .class_ 14), (1, u "java/lang/Object"), (4, u "hash"), (86, .class_ 108), (1, u "java/lang/Enum$EnumDesc"), (2, .class_ 112), (0, u "java/lang/constant/Constable"), (0, .class_ 114), (0, u "java/lang/Comparable"), (0, .class_ 116), (0, u "java/io/Serializable")] 87

/-- java/lang/Enum -/
def k5 : Class := { plain "java/lang/Enum" (some 0) with
  accessFlags := 1057
  interfaces := #[2, 3, 4]
  cf := some (fileOf pool5 2 #[.nestMembers #[106]] #[] 1057 12 #[111, 113, 115] #[{ accessFlags := 18, nameIndex := 5, descriptorIndex := 6, attributes := #[] }, { accessFlags := 18, nameIndex := 9, descriptorIndex := 10, attributes := #[] }, { accessFlags := 2, nameIndex := 19, descriptorIndex := 10, attributes := #[] }])
  fields := #[{ name := "name", type := (.object "java/lang/String"), accessFlags := 18, slot := 0, constantValue := 0 }, { name := "ordinal", type := .int, accessFlags := 18, slot := 1, constantValue := 0 }, { name := "hash", type := .int, accessFlags := 2, slot := 2, constantValue := 0 }]
  methods := #[]
  instanceTypes := #[(.object "java/lang/String"), .int, .int]
  staticTypes := #[]
  resolved := Array.replicate 204 none
  statics := none }

def pool6 : Array CpInfo := pool [(1, .class_ 2), (0, u "com/example/casebook/casebook/database/Dialect"), (2, u "POSTGRESQL"), (0, u "Lcom/example/casebook/casebook/database/Dialect;"), (2, u "MARIADB"), (2, u "PORTABLE"), (2, u "$VALUES"), (0, u "[Lcom/example/casebook/casebook/database/Dialect;"), (6, .class_ 25), (1, u "java/lang/Enum"), (4, u "<init>"), (3, u "truncatesInTransaction"), (0, u "Z"), (2, u "rowsPerInsert"), (0, u "I"), (2, u "columnsQuery"), (0, u "Ljava/lang/String;"), (2, u "tableName"), (2, u "sqlTypes"), (0, u "Ljava/util/Map;"), (2, u "typesNumberedBySettings"), (0, u "Ljava/util/Set;"), (2, u "primaryKeysQuery"), (2, u "foreignKeysQuery"), (0, .fieldref 1 62), (0, .nameAndType 63 43), (0, u "referencingKeysQuery"), (0, .fieldref 1 65), (0, .nameAndType 66 43), (0, u "uncheckedPrefix"), (5, u "()Ljava/lang/String;"), (10, .class_ 84), (0, u "java/lang/StringBuilder"), (0, .methodref 83 86), (0, .nameAndType 30 87), (0, u "()V"), (2, .methodref 83 91), (0, .nameAndType 92 93), (0, u "append"), (0, u "(Ljava/lang/String;)Ljava/lang/StringBuilder;"), (6, .methodref 83 101), (0, .nameAndType 102 72), (0, u "toString"), (196, u "MOST_PARAMETERS"), (1, u "PATTERN_ESCAPE"), (0, u "NAMES"), (0, u "POSTGRESQL_TABLES"), (17, u "()Z"), (5, u "deletesWithoutForeignKeyChecks"), (0, u "withoutForeignKeyChecks"), (0, u "(Ljava/lang/String;)Ljava/lang/String;")] 7

def k6c0 : Code := { maxStack := 1, maxLocals := 1, code := prog_18_method_11_code, exceptionTable := #[], attributes := #[] }
def k6m0 : Method := { name := "referencingKeysQuery", desc := "()Ljava/lang/String;", sig := { parameters := [], returnType := some (.object "java/lang/String") }, accessFlags := 0, code := some k6c0 }
def k6c1 : Code := { maxStack := 1, maxLocals := 1, code := prog_18_method_12_code, exceptionTable := #[], attributes := #[] }
def k6m1 : Method := { name := "deletesWithoutForeignKeyChecks", desc := "()Z", sig := { parameters := [], returnType := some .boolean }, accessFlags := 0, code := some k6c1 }
def k6c2 : Code := { maxStack := 2, maxLocals := 2, code := prog_18_method_13_code, exceptionTable := #[], attributes := #[] }
def k6m2 : Method := { name := "withoutForeignKeyChecks", desc := "(Ljava/lang/String;)Ljava/lang/String;", sig := { parameters := [(.object "java/lang/String")], returnType := some (.object "java/lang/String") }, accessFlags := 0, code := some k6c2 }
/-- com/example/casebook/casebook/database/Dialect -/
def k6 : Class := { plain "com/example/casebook/casebook/database/Dialect" (some 5) with
  accessFlags := 16432
  interfaces := #[]
  cf := some (fileOf pool6 1 #[] #[{ accessFlags := 0, nameIndex := 63, descriptorIndex := 72, attributes := #[] }, { accessFlags := 0, nameIndex := 327, descriptorIndex := 321, attributes := #[] }, { accessFlags := 0, nameIndex := 328, descriptorIndex := 329, attributes := #[] }] 16432 23 #[] #[{ accessFlags := 16409, nameIndex := 5, descriptorIndex := 6, attributes := #[] }, { accessFlags := 16409, nameIndex := 9, descriptorIndex := 6, attributes := #[] }, { accessFlags := 16409, nameIndex := 12, descriptorIndex := 6, attributes := #[] }, { accessFlags := 26, nameIndex := 299, descriptorIndex := 39, attributes := #[] }, { accessFlags := 24, nameIndex := 301, descriptorIndex := 43, attributes := #[] }, { accessFlags := 26, nameIndex := 302, descriptorIndex := 43, attributes := #[] }, { accessFlags := 26, nameIndex := 303, descriptorIndex := 43, attributes := #[] }, { accessFlags := 18, nameIndex := 34, descriptorIndex := 35, attributes := #[] }, { accessFlags := 18, nameIndex := 38, descriptorIndex := 39, attributes := #[] }, { accessFlags := 18, nameIndex := 42, descriptorIndex := 43, attributes := #[] }, { accessFlags := 18, nameIndex := 46, descriptorIndex := 43, attributes := #[] }, { accessFlags := 18, nameIndex := 49, descriptorIndex := 50, attributes := #[] }, { accessFlags := 18, nameIndex := 53, descriptorIndex := 54, attributes := #[] }, { accessFlags := 18, nameIndex := 57, descriptorIndex := 43, attributes := #[] }, { accessFlags := 18, nameIndex := 60, descriptorIndex := 43, attributes := #[] }, { accessFlags := 18, nameIndex := 63, descriptorIndex := 43, attributes := #[] }, { accessFlags := 18, nameIndex := 66, descriptorIndex := 43, attributes := #[] }, { accessFlags := 4122, nameIndex := 15, descriptorIndex := 16, attributes := #[] }])
  fields := #[{ name := "POSTGRESQL", type := (.object "com/example/casebook/casebook/database/Dialect"), accessFlags := 16409, slot := 0, constantValue := 0 }, { name := "MARIADB", type := (.object "com/example/casebook/casebook/database/Dialect"), accessFlags := 16409, slot := 1, constantValue := 0 }, { name := "PORTABLE", type := (.object "com/example/casebook/casebook/database/Dialect"), accessFlags := 16409, slot := 2, constantValue := 0 }, { name := "MOST_PARAMETERS", type := .int, accessFlags := 26, slot := 3, constantValue := 0 }, { name := "PATTERN_ESCAPE", type := (.object "java/lang/String"), accessFlags := 24, slot := 4, constantValue := 0 }, { name := "NAMES", type := (.object "java/lang/String"), accessFlags := 26, slot := 5, constantValue := 0 }, { name := "POSTGRESQL_TABLES", type := (.object "java/lang/String"), accessFlags := 26, slot := 6, constantValue := 0 }, { name := "truncatesInTransaction", type := .boolean, accessFlags := 18, slot := 3, constantValue := 0 }, { name := "rowsPerInsert", type := .int, accessFlags := 18, slot := 4, constantValue := 0 }, { name := "columnsQuery", type := (.object "java/lang/String"), accessFlags := 18, slot := 5, constantValue := 0 }, { name := "tableName", type := (.object "java/lang/String"), accessFlags := 18, slot := 6, constantValue := 0 }, { name := "sqlTypes", type := (.object "java/util/Map"), accessFlags := 18, slot := 7, constantValue := 0 }, { name := "typesNumberedBySettings", type := (.object "java/util/Set"), accessFlags := 18, slot := 8, constantValue := 0 }, { name := "primaryKeysQuery", type := (.object "java/lang/String"), accessFlags := 18, slot := 9, constantValue := 0 }, { name := "foreignKeysQuery", type := (.object "java/lang/String"), accessFlags := 18, slot := 10, constantValue := 0 }, { name := "referencingKeysQuery", type := (.object "java/lang/String"), accessFlags := 18, slot := 11, constantValue := 0 }, { name := "uncheckedPrefix", type := (.object "java/lang/String"), accessFlags := 18, slot := 12, constantValue := 0 }, { name := "$VALUES", type := (.array (.object "com/example/casebook/casebook/database/Dialect")), accessFlags := 4122, slot := 7, constantValue := 0 }]
  methods := #[k6m0, k6m1, k6m2]
  instanceTypes := #[(.object "java/lang/String"), .int, .int, .boolean, .int, (.object "java/lang/String"), (.object "java/lang/String"), (.object "java/util/Map"), (.object "java/util/Set"), (.object "java/lang/String"), (.object "java/lang/String"), (.object "java/lang/String"), (.object "java/lang/String")]
  staticTypes := #[(.object "com/example/casebook/casebook/database/Dialect"), (.object "com/example/casebook/casebook/database/Dialect"), (.object "com/example/casebook/casebook/database/Dialect"), .int, (.object "java/lang/String"), (.object "java/lang/String"), (.object "java/lang/String"), (.array (.object "com/example/casebook/casebook/database/Dialect"))]
  resolved := Array.replicate 337 none
  statics := some 0 }

def pool7 : Array CpInfo := pool [(2, .class_ 4), (1, u "java/lang/CharSequence"), (42, .class_ 48), (0, u "java/lang/CharSequence$1CodePointIterator"), (10, .class_ 60), (0, u "java/lang/CharSequence$1CharIterator"), (5, .class_ 67), (0, u "java/lang/Object")] 63

/-- java/lang/CharSequence -/
def k7 : Class := { plain "java/lang/CharSequence" (some 0) with
  accessFlags := 1537
  interfaces := #[]
  cf := some (fileOf pool7 2 #[.nestMembers #[47, 59]] #[] 1537 66 #[] #[])
  fields := #[]
  methods := #[]
  instanceTypes := #[]
  staticTypes := #[]
  resolved := Array.replicate 131 none
  statics := none }

def pool8 : Array CpInfo := pool [(1, .class_ 2), (0, u "java/lang/constant/ConstantDesc"), (0, .class_ 4), (0, u "java/lang/Object")] 32

/-- java/lang/constant/ConstantDesc -/
def k8 : Class := { plain "java/lang/constant/ConstantDesc" (some 0) with
  accessFlags := 1537
  interfaces := #[]
  cf := some (fileOf pool8 1 #[] #[] 1537 3 #[] #[])
  fields := #[]
  methods := #[]
  instanceTypes := #[]
  staticTypes := #[]
  resolved := Array.replicate 37 none
  statics := none }

def pool9 : Array CpInfo := pool [(1, .methodref 2 3), (0, .class_ 4), (0, .nameAndType 5 6), (0, u "java/lang/Object"), (0, u "<init>"), (0, u "()V"), (2, .fieldref 10 11), (0, .class_ 12), (0, .nameAndType 13 14), (0, u "java/lang/String"), (0, u "value"), (0, u "[B"), (0, .fieldref 10 16), (0, .nameAndType 17 18), (0, u "coder"), (0, u "B"), (2, u "hash"), (0, u "I"), (2, u "hashIsZero"), (0, u "Z"), (11, .fieldref 10 39), (0, .nameAndType 40 26), (0, u "COMPACT_STRINGS"), (12, u "toBytes"), (0, .methodref 55 56), (0, .class_ 57), (0, .nameAndType 58 59), (0, u "java/util/Arrays"), (0, u "copyOfRange"), (0, u "([BII)[B"), (47, .class_ 109), (1, u "java/lang/StringLatin1"), (32, u "()Z"), (50, .class_ 195), (1, u "java/lang/System"), (13, .methodref 10 210), (0, .nameAndType 5 211), (0, u "([BB)V"), (0, .methodref 193 213), (0, .nameAndType 214 215), (0, u "arraycopy"), (0, u "(Ljava/lang/Object;ILjava/lang/Object;II)V"), (118, u "()I"), (0, .methodref 10 336), (0, .nameAndType 17 337), (0, u "()B"), (2, u "()[B"), (22, u "([BI)C"), (5, u "(C)Z"), (21, u "(II)V"), (35, u "(I)C"), (61, .methodref 10 490), (0, .nameAndType 5 491), (0, u "(Ljava/lang/AbstractStringBuilder;Ljava/lang/Void;)V"), (0, .methodref 10 493), (0, .nameAndType 494 142), (0, u "isLatin1"), (0, .methodref 107 496), (0, .nameAndType 497 363), (0, u "charAt"), (3, u "checkIndex"), (4, .nameAndType 507 334), (0, u "length"), (24, u "getBytes"), (16, .methodref 550 506), (0, .class_ 551), (0, u "java/lang/AbstractStringBuilder"), (0, .methodref 550 553), (0, .nameAndType 554 340), (0, u "getValue"), (20, .class_ 576), (0, u "java/lang/CharSequence"), (22, u "CASE_INSENSITIVE_ORDER"), (0, u "Ljava/util/Comparator;"), (181, u "valueOf"), (0, u "(C)Ljava/lang/String;"), (37, u "([BIB)V"), (193, .methodref 107 1016), (0, .nameAndType 1017 369), (0, u "canEncode"), (0, .methodref 107 1019), (0, .nameAndType 53 1020), (0, u "(C)[B"), (26, .methodref 550 493), (5, .fieldref 1054 1055), (0, .class_ 1056), (0, .nameAndType 1057 1058), (0, u "jdk/internal/util/Preconditions"), (0, u "SIOOBE_FORMATTER"), (0, u "Ljava/util/function/BiFunction;"), (0, .methodref 1054 1060), (0, .nameAndType 501 1061), (0, u "(IILjava/util/function/BiFunction;)I"), (39, u "serialPersistentFields"), (0, u "[Ljava/io/ObjectStreamField;"), (0, .class_ 1104), (0, u "java/lang/String$CaseInsensitiveComparator"), (1, .class_ 1107), (0, u "java/io/Serializable"), (0, .class_ 1109), (0, u "java/lang/Comparable"), (0, .class_ 1111), (0, u "java/lang/constant/Constable"), (0, .class_ 1113), (0, u "java/lang/constant/ConstantDesc"), (2, u "serialVersionUID"), (0, u "J"), (3, u "REPL"), (0, u "C"), (2, u "LATIN1"), (1, u "UTF16"), (105, u "(Ljava/lang/StringBuilder;)V")] 217

def k9m0 : Method := { name := "<init>", desc := "()V", sig := { parameters := [], returnType := none }, accessFlags := 1, code := none }
def k9c1 : Code := { maxStack := 3, maxLocals := 2, code := jdk_42_method_53_code, exceptionTable := #[], attributes := #[] }
def k9m1 : Method := { name := "<init>", desc := "(Ljava/lang/StringBuilder;)V", sig := { parameters := [(.object "java/lang/StringBuilder")], returnType := none }, accessFlags := 1, code := some k9c1 }
def k9c2 : Code := { maxStack := 2, maxLocals := 1, code := jdk_42_method_54_code, exceptionTable := #[], attributes := #[] }
def k9m2 : Method := { name := "length", desc := "()I", sig := { parameters := [], returnType := some .int }, accessFlags := 1, code := some k9c2 }
def k9c3 : Code := { maxStack := 2, maxLocals := 2, code := jdk_42_method_56_code, exceptionTable := #[], attributes := #[] }
def k9m3 : Method := { name := "charAt", desc := "(I)C", sig := { parameters := [.int], returnType := some .char }, accessFlags := 1, code := some k9c3 }
def k9c4 : Code := { maxStack := 4, maxLocals := 1, code := jdk_42_method_139_code, exceptionTable := #[], attributes := #[] }
def k9m4 : Method := { name := "valueOf", desc := "(C)Ljava/lang/String;", sig := { parameters := [.char], returnType := some (.object "java/lang/String") }, accessFlags := 9, code := some k9c4 }
def k9c5 : Code := { maxStack := 5, maxLocals := 4, code := jdk_42_method_147_code, exceptionTable := #[], attributes := #[] }
def k9m5 : Method := { name := "getBytes", desc := "([BIB)V", sig := { parameters := [(.array .byte), .int, .byte], returnType := none }, accessFlags := 0, code := some k9c5 }
def k9c6 : Code := { maxStack := 5, maxLocals := 5, code := jdk_42_method_150_code, exceptionTable := #[], attributes := #[] }
def k9m6 : Method := { name := "<init>", desc := "(Ljava/lang/AbstractStringBuilder;Ljava/lang/Void;)V", sig := { parameters := [(.object "java/lang/AbstractStringBuilder"), (.object "java/lang/Void")], returnType := none }, accessFlags := 0, code := some k9c6 }
def k9c7 : Code := { maxStack := 2, maxLocals := 3, code := jdk_42_method_151_code, exceptionTable := #[], attributes := #[] }
def k9m7 : Method := { name := "<init>", desc := "([BB)V", sig := { parameters := [(.array .byte), .byte], returnType := none }, accessFlags := 0, code := some k9c7 }
def k9c8 : Code := { maxStack := 1, maxLocals := 1, code := jdk_42_method_152_code, exceptionTable := #[], attributes := #[] }
def k9m8 : Method := { name := "coder", desc := "()B", sig := { parameters := [], returnType := some .byte }, accessFlags := 0, code := some k9c8 }
def k9c9 : Code := { maxStack := 1, maxLocals := 1, code := jdk_42_method_154_code, exceptionTable := #[], attributes := #[] }
def k9m9 : Method := { name := "isLatin1", desc := "()Z", sig := { parameters := [], returnType := some .boolean }, accessFlags := 0, code := some k9c9 }
def k9c10 : Code := { maxStack := 3, maxLocals := 2, code := jdk_42_method_155_code, exceptionTable := #[], attributes := #[] }
def k9m10 : Method := { name := "checkIndex", desc := "(II)V", sig := { parameters := [.int, .int], returnType := none }, accessFlags := 8, code := some k9c10 }
/-- java/lang/String -/
def k9 : Class := { plain "java/lang/String" (some 0) with
  accessFlags := 49
  interfaces := #[4, 3, 7, 2, 8]
  cf := some (fileOf pool9 10 #[.nestMembers #[1103]] #[{ accessFlags := 1, nameIndex := 5, descriptorIndex := 6, attributes := #[] }, { accessFlags := 1, nameIndex := 5, descriptorIndex := 1233, attributes := #[] }, { accessFlags := 1, nameIndex := 507, descriptorIndex := 334, attributes := #[] }, { accessFlags := 1, nameIndex := 497, descriptorIndex := 427, attributes := #[] }, { accessFlags := 9, nameIndex := 782, descriptorIndex := 783, attributes := #[] }, { accessFlags := 0, nameIndex := 532, descriptorIndex := 821, attributes := #[] }, { accessFlags := 0, nameIndex := 5, descriptorIndex := 491, attributes := #[] }, { accessFlags := 0, nameIndex := 5, descriptorIndex := 211, attributes := #[] }, { accessFlags := 0, nameIndex := 17, descriptorIndex := 337, attributes := #[] }, { accessFlags := 0, nameIndex := 494, descriptorIndex := 142, attributes := #[] }, { accessFlags := 8, nameIndex := 501, descriptorIndex := 391, attributes := #[] }] 49 2 #[1106, 1108, 575, 1110, 1112] #[{ accessFlags := 18, nameIndex := 13, descriptorIndex := 14, attributes := #[] }, { accessFlags := 18, nameIndex := 17, descriptorIndex := 18, attributes := #[] }, { accessFlags := 2, nameIndex := 21, descriptorIndex := 22, attributes := #[] }, { accessFlags := 2, nameIndex := 25, descriptorIndex := 26, attributes := #[] }, { accessFlags := 26, nameIndex := 1116, descriptorIndex := 1117, attributes := #[] }, { accessFlags := 24, nameIndex := 40, descriptorIndex := 26, attributes := #[] }, { accessFlags := 26, nameIndex := 1101, descriptorIndex := 1102, attributes := #[] }, { accessFlags := 26, nameIndex := 1121, descriptorIndex := 1122, attributes := #[] }, { accessFlags := 25, nameIndex := 599, descriptorIndex := 600, attributes := #[] }, { accessFlags := 24, nameIndex := 1125, descriptorIndex := 18, attributes := #[] }, { accessFlags := 24, nameIndex := 1127, descriptorIndex := 18, attributes := #[] }])
  fields := #[{ name := "value", type := (.array .byte), accessFlags := 18, slot := 0, constantValue := 0 }, { name := "coder", type := .byte, accessFlags := 18, slot := 1, constantValue := 0 }, { name := "hash", type := .int, accessFlags := 2, slot := 2, constantValue := 0 }, { name := "hashIsZero", type := .boolean, accessFlags := 2, slot := 3, constantValue := 0 }, { name := "serialVersionUID", type := .long, accessFlags := 26, slot := 0, constantValue := 0 }, { name := "COMPACT_STRINGS", type := .boolean, accessFlags := 24, slot := 1, constantValue := 0 }, { name := "serialPersistentFields", type := (.array (.object "java/io/ObjectStreamField")), accessFlags := 26, slot := 2, constantValue := 0 }, { name := "REPL", type := .char, accessFlags := 26, slot := 3, constantValue := 0 }, { name := "CASE_INSENSITIVE_ORDER", type := (.object "java/util/Comparator"), accessFlags := 25, slot := 4, constantValue := 0 }, { name := "LATIN1", type := .byte, accessFlags := 24, slot := 5, constantValue := 0 }, { name := "UTF16", type := .byte, accessFlags := 24, slot := 6, constantValue := 0 }]
  methods := #[k9m0, k9m1, k9m2, k9m3, k9m4, k9m5, k9m6, k9m7, k9m8, k9m9, k9m10]
  instanceTypes := #[(.array .byte), .byte, .int, .boolean]
  staticTypes := #[.long, .boolean, (.array (.object "java/io/ObjectStreamField")), .char, (.object "java/util/Comparator"), .byte, .byte]
  resolved := Array.replicate 1451 none
  statics := some 1 }

def pool10 : Array CpInfo := pool [(1, .class_ 2), (0, u "java/lang/String"), (1, .class_ 6), (1, u "java/lang/Object"), (0, u "<init>"), (0, u "()V"), (0, .methodref 1 10), (0, .nameAndType 11 12), (0, u "checkIndex"), (0, u "(II)V"), (1, .class_ 16), (1, u "java/lang/StringLatin1"), (36, u "([BI)C"), (36, u "canEncode"), (14, u "(C)Z"), (15, u "$assertionsDisabled"), (0, u "Z"), (98, .class_ 223), (1, u "java/lang/StringLatin1$LinesSpliterator"), (28, u "charAt"), (127, u "toBytes"), (1, u "(C)[B"), (7, .class_ 391), (0, u "java/lang/StringLatin1$CharsSpliterator")] 3

def k10m0 : Method := { name := "<init>", desc := "()V", sig := { parameters := [], returnType := none }, accessFlags := 0, code := none }
def k10c1 : Code := { maxStack := 2, maxLocals := 2, code := jdk_43_method_2_code, exceptionTable := #[], attributes := #[] }
def k10m1 : Method := { name := "charAt", desc := "([BI)C", sig := { parameters := [(.array .byte), .int], returnType := some .char }, accessFlags := 9, code := some k10c1 }
def k10c2 : Code := { maxStack := 2, maxLocals := 1, code := jdk_43_method_3_code, exceptionTable := #[], attributes := #[] }
def k10m2 : Method := { name := "canEncode", desc := "(C)Z", sig := { parameters := [.char], returnType := some .boolean }, accessFlags := 9, code := some k10c2 }
def k10c3 : Code := { maxStack := 4, maxLocals := 1, code := jdk_43_method_46_code, exceptionTable := #[], attributes := #[] }
def k10m3 : Method := { name := "toBytes", desc := "(C)[B", sig := { parameters := [.char], returnType := some (.array .byte) }, accessFlags := 9, code := some k10c3 }
/-- java/lang/StringLatin1 -/
def k10 : Class := { plain "java/lang/StringLatin1" (some 0) with
  accessFlags := 48
  interfaces := #[]
  cf := some (fileOf pool10 14 #[.nestMembers #[390, 221]] #[{ accessFlags := 0, nameIndex := 7, descriptorIndex := 8, attributes := #[] }, { accessFlags := 9, nameIndex := 252, descriptorIndex := 53, attributes := #[] }, { accessFlags := 9, nameIndex := 90, descriptorIndex := 105, attributes := #[] }, { accessFlags := 9, nameIndex := 380, descriptorIndex := 382, attributes := #[] }] 48 4 #[] #[{ accessFlags := 4120, nameIndex := 121, descriptorIndex := 122, attributes := #[] }])
  fields := #[{ name := "$assertionsDisabled", type := .boolean, accessFlags := 4120, slot := 0, constantValue := 0 }]
  methods := #[k10m0, k10m1, k10m2, k10m3]
  instanceTypes := #[]
  staticTypes := #[.boolean]
  resolved := Array.replicate 395 none
  statics := none }

def pool11 : Array CpInfo := pool [(1, .class_ 2), (0, u "java/lang/Appendable"), (0, .class_ 4), (0, u "java/lang/Object")] 9

/-- java/lang/Appendable -/
def k11 : Class := { plain "java/lang/Appendable" (some 0) with
  accessFlags := 1537
  interfaces := #[]
  cf := some (fileOf pool11 1 #[] #[] 1537 3 #[] #[])
  fields := #[]
  methods := #[]
  instanceTypes := #[]
  staticTypes := #[]
  resolved := Array.replicate 14 none
  statics := none }

def pool12 : Array CpInfo := pool [(1, .class_ 2), (0, u "java/lang/String"), (0, .methodref 4 5), (0, .class_ 6), (0, .nameAndType 7 8), (0, u "java/lang/Object"), (0, u "<init>"), (0, u "()V"), (1, .class_ 12), (1, u "java/lang/AbstractStringBuilder"), (0, u "EMPTYVALUE"), (0, u "[B"), (0, .fieldref 10 16), (0, .nameAndType 17 14), (0, u "value"), (0, .fieldref 1 19), (0, .nameAndType 20 21), (0, u "COMPACT_STRINGS"), (0, u "Z"), (0, .fieldref 10 23), (0, .nameAndType 24 25), (0, u "coder"), (0, u "B"), (6, .methodref 1 33), (0, .nameAndType 34 35), (0, u "length"), (0, u "()I"), (3, .integer 2147483647), (0, .methodref 1 41), (0, .nameAndType 24 42), (0, u "()B"), (2, u "append"), (0, u "(Ljava/lang/String;)Ljava/lang/AbstractStringBuilder;"), (1, .class_ 49), (0, u "java/lang/CharSequence"), (19, u "(Ljava/lang/String;)V"), (5, u "maybeLatin1"), (3, .fieldref 10 80), (0, .nameAndType 81 82), (0, u "count"), (0, u "I"), (2, u "isLatin1"), (0, u "()Z"), (13, .methodref 10 101), (0, .nameAndType 102 103), (0, u "ensureCapacityInternal"), (0, u "(I)V"), (0, .methodref 10 105), (0, .nameAndType 106 107), (0, u "newCapacity"), (0, u "(I)I"), (0, .methodref 109 110), (0, .class_ 111), (0, .nameAndType 112 113), (0, u "java/util/Arrays"), (0, u "copyOf"), (0, u "([BI)[B"), (0, .methodref 115 116), (0, .class_ 117), (0, .nameAndType 118 119), (0, u "jdk/internal/util/ArraysSupport"), (0, u "newLength"), (0, u "(III)I"), (88, .methodref 10 209), (0, .nameAndType 210 211), (0, u "putStringAt"), (0, u "(ILjava/lang/String;)V"), (5, u "inflateIfNeededFor"), (2, .nameAndType 221 222), (0, u "getBytes"), (0, u "([BIB)V"), (174, .methodref 10 398), (0, .nameAndType 217 69), (0, .methodref 1 220), (3, u "()[B"), (40, .class_ 445), (0, u "java/lang/Appendable"), (106, u "getValue")] 56

def k12m0 : Method := { name := "<init>", desc := "()V", sig := { parameters := [], returnType := none }, accessFlags := 0, code := none }
def k12c1 : Code := { maxStack := 2, maxLocals := 2, code := jdk_68_method_2_code, exceptionTable := #[], attributes := #[] }
def k12m1 : Method := { name := "<init>", desc := "(I)V", sig := { parameters := [.int], returnType := none }, accessFlags := 0, code := some k12c1 }
def k12c2 : Code := { maxStack := 1, maxLocals := 1, code := jdk_68_method_6_code, exceptionTable := #[], attributes := #[] }
def k12m2 : Method := { name := "length", desc := "()I", sig := { parameters := [], returnType := some .int }, accessFlags := 1, code := some k12c2 }
def k12c3 : Code := { maxStack := 4, maxLocals := 3, code := jdk_68_method_9_code, exceptionTable := #[], attributes := #[] }
def k12m3 : Method := { name := "ensureCapacityInternal", desc := "(I)V", sig := { parameters := [.int], returnType := none }, accessFlags := 2, code := some k12c3 }
def k12c4 : Code := { maxStack := 5, maxLocals := 6, code := jdk_68_method_10_code, exceptionTable := #[], attributes := #[] }
def k12m4 : Method := { name := "newCapacity", desc := "(I)I", sig := { parameters := [.int], returnType := some .int }, accessFlags := 2, code := some k12c4 }
def k12c5 : Code := { maxStack := 3, maxLocals := 3, code := jdk_68_method_22_code, exceptionTable := #[], attributes := #[] }
def k12m5 : Method := { name := "append", desc := "(Ljava/lang/String;)Ljava/lang/AbstractStringBuilder;", sig := { parameters := [(.object "java/lang/String")], returnType := some (.object "java/lang/AbstractStringBuilder") }, accessFlags := 1, code := some k12c5 }
def k12c6 : Code := { maxStack := 1, maxLocals := 1, code := jdk_68_method_64_code, exceptionTable := #[], attributes := #[] }
def k12m6 : Method := { name := "getValue", desc := "()[B", sig := { parameters := [], returnType := some (.array .byte) }, accessFlags := 16, code := some k12c6 }
def k12c7 : Code := { maxStack := 1, maxLocals := 1, code := jdk_68_method_68_code, exceptionTable := #[], attributes := #[] }
def k12m7 : Method := { name := "isLatin1", desc := "()Z", sig := { parameters := [], returnType := some .boolean }, accessFlags := 16, code := some k12c7 }
def k12c8 : Code := { maxStack := 2, maxLocals := 2, code := jdk_68_method_71_code, exceptionTable := #[], attributes := #[] }
def k12m8 : Method := { name := "inflateIfNeededFor", desc := "(Ljava/lang/String;)V", sig := { parameters := [(.object "java/lang/String")], returnType := none }, accessFlags := 2, code := some k12c8 }
def k12c9 : Code := { maxStack := 4, maxLocals := 3, code := jdk_68_method_73_code, exceptionTable := #[], attributes := #[] }
def k12m9 : Method := { name := "putStringAt", desc := "(ILjava/lang/String;)V", sig := { parameters := [.int, (.object "java/lang/String")], returnType := none }, accessFlags := 2, code := some k12c9 }
/-- java/lang/AbstractStringBuilder -/
def k12 : Class := { plain "java/lang/AbstractStringBuilder" (some 0) with
  accessFlags := 1056
  interfaces := #[11, 7]
  cf := some (fileOf pool12 10 #[] #[{ accessFlags := 0, nameIndex := 7, descriptorIndex := 8, attributes := #[] }, { accessFlags := 0, nameIndex := 7, descriptorIndex := 103, attributes := #[] }, { accessFlags := 1, nameIndex := 34, descriptorIndex := 35, attributes := #[] }, { accessFlags := 2, nameIndex := 102, descriptorIndex := 103, attributes := #[] }, { accessFlags := 2, nameIndex := 106, descriptorIndex := 107, attributes := #[] }, { accessFlags := 1, nameIndex := 45, descriptorIndex := 46, attributes := #[] }, { accessFlags := 16, nameIndex := 552, descriptorIndex := 403, attributes := #[] }, { accessFlags := 16, nameIndex := 85, descriptorIndex := 86, attributes := #[] }, { accessFlags := 2, nameIndex := 217, descriptorIndex := 69, attributes := #[] }, { accessFlags := 2, nameIndex := 210, descriptorIndex := 211, attributes := #[] }] 1056 4 #[444, 48] #[{ accessFlags := 0, nameIndex := 17, descriptorIndex := 14, attributes := #[] }, { accessFlags := 0, nameIndex := 24, descriptorIndex := 25, attributes := #[] }, { accessFlags := 0, nameIndex := 75, descriptorIndex := 21, attributes := #[] }, { accessFlags := 0, nameIndex := 81, descriptorIndex := 82, attributes := #[] }, { accessFlags := 26, nameIndex := 13, descriptorIndex := 14, attributes := #[] }])
  fields := #[{ name := "value", type := (.array .byte), accessFlags := 0, slot := 0, constantValue := 0 }, { name := "coder", type := .byte, accessFlags := 0, slot := 1, constantValue := 0 }, { name := "maybeLatin1", type := .boolean, accessFlags := 0, slot := 2, constantValue := 0 }, { name := "count", type := .int, accessFlags := 0, slot := 3, constantValue := 0 }, { name := "EMPTYVALUE", type := (.array .byte), accessFlags := 26, slot := 0, constantValue := 0 }]
  methods := #[k12m0, k12m1, k12m2, k12m3, k12m4, k12m5, k12m6, k12m7, k12m8, k12m9]
  instanceTypes := #[(.array .byte), .byte, .boolean, .int]
  staticTypes := #[(.array .byte)]
  resolved := Array.replicate 609 none
  statics := none }

def pool13 : Array CpInfo := pool [(1, .methodref 2 3), (0, .class_ 4), (0, .nameAndType 5 6), (0, u "java/lang/AbstractStringBuilder"), (0, u "<init>"), (0, u "(I)V"), (11, .class_ 20), (1, u "java/lang/String"), (3, .class_ 26), (1, u "java/lang/StringBuilder"), (0, u "append"), (0, u "(Ljava/lang/String;)Ljava/lang/StringBuilder;"), (0, .methodref 2 30), (0, .nameAndType 27 31), (0, u "(Ljava/lang/String;)Ljava/lang/AbstractStringBuilder;"), (105, .methodref 18 138), (0, .nameAndType 5 139), (0, u "(Ljava/lang/StringBuilder;)V"), (5, u "()V"), (10, u "()I"), (186, .methodref 2 344), (0, .nameAndType 345 156), (0, u "length"), (3, .class_ 350), (0, u "java/lang/Appendable"), (0, .class_ 352), (0, u "java/io/Serializable"), (0, .class_ 354), (0, u "java/lang/Comparable"), (0, .class_ 356), (0, u "java/lang/CharSequence"), (0, u "serialVersionUID"), (0, u "J"), (40, u "toString"), (0, u "()Ljava/lang/String;")] 21

def k13c0 : Code := { maxStack := 2, maxLocals := 1, code := jdk_67_method_1_code, exceptionTable := #[], attributes := #[] }
def k13m0 : Method := { name := "<init>", desc := "()V", sig := { parameters := [], returnType := none }, accessFlags := 1, code := some k13c0 }
def k13c1 : Code := { maxStack := 2, maxLocals := 2, code := jdk_67_method_7_code, exceptionTable := #[], attributes := #[] }
def k13m1 : Method := { name := "append", desc := "(Ljava/lang/String;)Ljava/lang/StringBuilder;", sig := { parameters := [(.object "java/lang/String")], returnType := some (.object "java/lang/StringBuilder") }, accessFlags := 1, code := some k13c1 }
def k13c2 : Code := { maxStack := 3, maxLocals := 1, code := jdk_67_method_42_code, exceptionTable := #[], attributes := #[] }
def k13m2 : Method := { name := "toString", desc := "()Ljava/lang/String;", sig := { parameters := [], returnType := some (.object "java/lang/String") }, accessFlags := 1, code := some k13c2 }
def k13c3 : Code := { maxStack := 1, maxLocals := 1, code := jdk_67_method_93_code, exceptionTable := #[], attributes := #[] }
def k13m3 : Method := { name := "length", desc := "()I", sig := { parameters := [], returnType := some .int }, accessFlags := 4161, code := some k13c3 }
/-- java/lang/StringBuilder -/
def k13 : Class := { plain "java/lang/StringBuilder" (some 12) with
  accessFlags := 49
  interfaces := #[11, 4, 3, 7]
  cf := some (fileOf pool13 24 #[] #[{ accessFlags := 1, nameIndex := 5, descriptorIndex := 145, attributes := #[] }, { accessFlags := 1, nameIndex := 27, descriptorIndex := 28, attributes := #[] }, { accessFlags := 1, nameIndex := 399, descriptorIndex := 400, attributes := #[] }, { accessFlags := 4161, nameIndex := 345, descriptorIndex := 156, attributes := #[] }] 49 2 #[349, 351, 353, 355] #[{ accessFlags := 24, nameIndex := 357, descriptorIndex := 358, attributes := #[] }])
  fields := #[{ name := "serialVersionUID", type := .long, accessFlags := 24, slot := 0, constantValue := 0 }]
  methods := #[k13m0, k13m1, k13m2, k13m3]
  instanceTypes := #[(.array .byte), .byte, .boolean, .int]
  staticTypes := #[.long]
  resolved := Array.replicate 422 none
  statics := none }

def pool14 : Array CpInfo := pool [(9, u "<init>"), (6, .class_ 18), (1, u "java/lang/Object"), (0, u "()V"), (1, .class_ 23), (1, u "jdk/internal/util/ArraysSupport"), (0, u "LOG2_ARRAY_LONG_INDEX_SCALE"), (0, u "I"), (2, u "U"), (0, u "Ljdk/internal/misc/Unsafe;"), (8, u "BIG_ENDIAN"), (0, u "Z"), (8, u "LOG2_BYTE_BIT_SIZE"), (4, u "LOG2_ARRAY_INT_INDEX_SCALE"), (54, u "JLA"), (0, u "Ljdk/internal/access/JavaLangAccess;"), (11, u "LOG2_ARRAY_BOOLEAN_INDEX_SCALE"), (9, u "LOG2_ARRAY_BYTE_INDEX_SCALE"), (5, u "LOG2_ARRAY_CHAR_INDEX_SCALE"), (5, u "LOG2_ARRAY_SHORT_INDEX_SCALE"), (18, u "LOG2_ARRAY_FLOAT_INDEX_SCALE"), (24, u "LOG2_ARRAY_DOUBLE_INDEX_SCALE"), (6, .methodref 195 196), (0, .class_ 197), (0, .nameAndType 198 199), (0, u "java/lang/Math"), (0, u "max"), (0, u "(II)I"), (0, .integer 2147483639), (76, u "T_BOOLEAN"), (2, u "T_CHAR"), (1, u "T_FLOAT"), (1, u "T_DOUBLE"), (1, u "T_BYTE"), (1, u "T_SHORT"), (1, u "T_INT"), (1, u "T_LONG"), (1, u "SOFT_MAX_ARRAY_LENGTH"), (56, u "newLength"), (0, u "(III)I")] 25

def k14m0 : Method := { name := "<init>", desc := "()V", sig := { parameters := [], returnType := none }, accessFlags := 2, code := none }
def k14c1 : Code := { maxStack := 3, maxLocals := 4, code := jdk_48_method_27_code, exceptionTable := #[], attributes := #[] }
def k14m1 : Method := { name := "newLength", desc := "(III)I", sig := { parameters := [.int, .int, .int], returnType := some .int }, accessFlags := 9, code := some k14c1 }
/-- jdk/internal/util/ArraysSupport -/
def k14 : Class := { plain "jdk/internal/util/ArraysSupport" (some 0) with
  accessFlags := 33
  interfaces := #[]
  cf := some (fileOf pool14 21 #[] #[{ accessFlags := 2, nameIndex := 9, descriptorIndex := 19, attributes := #[] }, { accessFlags := 9, nameIndex := 351, descriptorIndex := 352, attributes := #[] }] 33 16 #[] #[{ accessFlags := 24, nameIndex := 28, descriptorIndex := 29, attributes := #[] }, { accessFlags := 26, nameIndex := 38, descriptorIndex := 39, attributes := #[] }, { accessFlags := 25, nameIndex := 121, descriptorIndex := 25, attributes := #[] }, { accessFlags := 25, nameIndex := 131, descriptorIndex := 25, attributes := #[] }, { accessFlags := 25, nameIndex := 137, descriptorIndex := 25, attributes := #[] }, { accessFlags := 25, nameIndex := 143, descriptorIndex := 25, attributes := #[] }, { accessFlags := 25, nameIndex := 53, descriptorIndex := 25, attributes := #[] }, { accessFlags := 25, nameIndex := 24, descriptorIndex := 25, attributes := #[] }, { accessFlags := 25, nameIndex := 162, descriptorIndex := 25, attributes := #[] }, { accessFlags := 25, nameIndex := 187, descriptorIndex := 25, attributes := #[] }, { accessFlags := 26, nameIndex := 48, descriptorIndex := 25, attributes := #[] }, { accessFlags := 25, nameIndex := 277, descriptorIndex := 25, attributes := #[] }, { accessFlags := 25, nameIndex := 280, descriptorIndex := 25, attributes := #[] }, { accessFlags := 25, nameIndex := 282, descriptorIndex := 25, attributes := #[] }, { accessFlags := 25, nameIndex := 284, descriptorIndex := 25, attributes := #[] }, { accessFlags := 25, nameIndex := 286, descriptorIndex := 25, attributes := #[] }, { accessFlags := 25, nameIndex := 288, descriptorIndex := 25, attributes := #[] }, { accessFlags := 25, nameIndex := 290, descriptorIndex := 25, attributes := #[] }, { accessFlags := 25, nameIndex := 292, descriptorIndex := 25, attributes := #[] }, { accessFlags := 26, nameIndex := 108, descriptorIndex := 109, attributes := #[] }, { accessFlags := 25, nameIndex := 294, descriptorIndex := 25, attributes := #[] }])
  fields := #[{ name := "U", type := (.object "jdk/internal/misc/Unsafe"), accessFlags := 24, slot := 0, constantValue := 0 }, { name := "BIG_ENDIAN", type := .boolean, accessFlags := 26, slot := 1, constantValue := 0 }, { name := "LOG2_ARRAY_BOOLEAN_INDEX_SCALE", type := .int, accessFlags := 25, slot := 2, constantValue := 0 }, { name := "LOG2_ARRAY_BYTE_INDEX_SCALE", type := .int, accessFlags := 25, slot := 3, constantValue := 0 }, { name := "LOG2_ARRAY_CHAR_INDEX_SCALE", type := .int, accessFlags := 25, slot := 4, constantValue := 0 }, { name := "LOG2_ARRAY_SHORT_INDEX_SCALE", type := .int, accessFlags := 25, slot := 5, constantValue := 0 }, { name := "LOG2_ARRAY_INT_INDEX_SCALE", type := .int, accessFlags := 25, slot := 6, constantValue := 0 }, { name := "LOG2_ARRAY_LONG_INDEX_SCALE", type := .int, accessFlags := 25, slot := 7, constantValue := 0 }, { name := "LOG2_ARRAY_FLOAT_INDEX_SCALE", type := .int, accessFlags := 25, slot := 8, constantValue := 0 }, { name := "LOG2_ARRAY_DOUBLE_INDEX_SCALE", type := .int, accessFlags := 25, slot := 9, constantValue := 0 }, { name := "LOG2_BYTE_BIT_SIZE", type := .int, accessFlags := 26, slot := 10, constantValue := 0 }, { name := "T_BOOLEAN", type := .int, accessFlags := 25, slot := 11, constantValue := 0 }, { name := "T_CHAR", type := .int, accessFlags := 25, slot := 12, constantValue := 0 }, { name := "T_FLOAT", type := .int, accessFlags := 25, slot := 13, constantValue := 0 }, { name := "T_DOUBLE", type := .int, accessFlags := 25, slot := 14, constantValue := 0 }, { name := "T_BYTE", type := .int, accessFlags := 25, slot := 15, constantValue := 0 }, { name := "T_SHORT", type := .int, accessFlags := 25, slot := 16, constantValue := 0 }, { name := "T_INT", type := .int, accessFlags := 25, slot := 17, constantValue := 0 }, { name := "T_LONG", type := .int, accessFlags := 25, slot := 18, constantValue := 0 }, { name := "JLA", type := (.object "jdk/internal/access/JavaLangAccess"), accessFlags := 26, slot := 19, constantValue := 0 }, { name := "SOFT_MAX_ARRAY_LENGTH", type := .int, accessFlags := 25, slot := 20, constantValue := 0 }]
  methods := #[k14m0, k14m1]
  instanceTypes := #[]
  staticTypes := #[(.object "jdk/internal/misc/Unsafe"), .boolean, .int, .int, .int, .int, .int, .int, .int, .int, .int, .int, .int, .int, .int, .int, .int, .int, .int, (.object "jdk/internal/access/JavaLangAccess"), .int]
  resolved := Array.replicate 378 none
  statics := none }

def pool15 : Array CpInfo := pool [(1, .class_ 2), (0, u "java/lang/Math"), (1, .class_ 6), (1, u "java/lang/Object"), (0, u "<init>"), (0, u "()V"), (89, .class_ 100), (1, u "java/lang/Math$RandomNumberGeneratorHolder"), (71, u "negativeZeroFloatBits"), (0, u "J"), (2, u "negativeZeroDoubleBits"), (21, u "max"), (2, u "min"), (43, u "$assertionsDisabled"), (0, u "Z"), (88, u "(II)I"), (2, u "twoToTheDoubleScaleDown"), (0, u "D"), (4, u "twoToTheDoubleScaleUp"), (9, u "E"), (3, u "PI"), (2, u "TAU"), (2, u "DEGREES_TO_RADIANS"), (0, u "RADIANS_TO_DEGREES")] 94

def k15m0 : Method := { name := "<init>", desc := "()V", sig := { parameters := [], returnType := none }, accessFlags := 2, code := none }
def k15c1 : Code := { maxStack := 2, maxLocals := 2, code := jdk_29_method_65_code, exceptionTable := #[], attributes := #[] }
def k15m1 : Method := { name := "max", desc := "(II)I", sig := { parameters := [.int, .int], returnType := some .int }, accessFlags := 9, code := some k15c1 }
def k15c2 : Code := { maxStack := 2, maxLocals := 2, code := jdk_29_method_69_code, exceptionTable := #[], attributes := #[] }
def k15m2 : Method := { name := "min", desc := "(II)I", sig := { parameters := [.int, .int], returnType := some .int }, accessFlags := 9, code := some k15c2 }
/-- java/lang/Math -/
def k15 : Class := { plain "java/lang/Math" (some 0) with
  accessFlags := 49
  interfaces := #[]
  cf := some (fileOf pool15 1 #[.nestMembers #[98]] #[{ accessFlags := 2, nameIndex := 7, descriptorIndex := 8, attributes := #[] }, { accessFlags := 9, nameIndex := 198, descriptorIndex := 335, attributes := #[] }, { accessFlags := 9, nameIndex := 201, descriptorIndex := 335, attributes := #[] }] 49 4 #[] #[{ accessFlags := 25, nameIndex := 354, descriptorIndex := 339, attributes := #[] }, { accessFlags := 25, nameIndex := 358, descriptorIndex := 339, attributes := #[] }, { accessFlags := 25, nameIndex := 361, descriptorIndex := 339, attributes := #[] }, { accessFlags := 26, nameIndex := 364, descriptorIndex := 339, attributes := #[] }, { accessFlags := 26, nameIndex := 365, descriptorIndex := 339, attributes := #[] }, { accessFlags := 26, nameIndex := 172, descriptorIndex := 173, attributes := #[] }, { accessFlags := 26, nameIndex := 176, descriptorIndex := 173, attributes := #[] }, { accessFlags := 8, nameIndex := 344, descriptorIndex := 339, attributes := #[] }, { accessFlags := 8, nameIndex := 338, descriptorIndex := 339, attributes := #[] }, { accessFlags := 4120, nameIndex := 245, descriptorIndex := 246, attributes := #[] }])
  fields := #[{ name := "E", type := .double, accessFlags := 25, slot := 0, constantValue := 0 }, { name := "PI", type := .double, accessFlags := 25, slot := 1, constantValue := 0 }, { name := "TAU", type := .double, accessFlags := 25, slot := 2, constantValue := 0 }, { name := "DEGREES_TO_RADIANS", type := .double, accessFlags := 26, slot := 3, constantValue := 0 }, { name := "RADIANS_TO_DEGREES", type := .double, accessFlags := 26, slot := 4, constantValue := 0 }, { name := "negativeZeroFloatBits", type := .long, accessFlags := 26, slot := 5, constantValue := 0 }, { name := "negativeZeroDoubleBits", type := .long, accessFlags := 26, slot := 6, constantValue := 0 }, { name := "twoToTheDoubleScaleUp", type := .double, accessFlags := 8, slot := 7, constantValue := 0 }, { name := "twoToTheDoubleScaleDown", type := .double, accessFlags := 8, slot := 8, constantValue := 0 }, { name := "$assertionsDisabled", type := .boolean, accessFlags := 4120, slot := 9, constantValue := 0 }]
  methods := #[k15m0, k15m1, k15m2]
  instanceTypes := #[]
  staticTypes := #[.double, .double, .double, .double, .double, .long, .long, .double, .double, .boolean]
  resolved := Array.replicate 460 none
  statics := none }

def pool16 : Array CpInfo := pool [(2, .class_ 4), (1, u "java/lang/Object"), (0, u "<init>"), (0, u "()V"), (7, .class_ 16), (1, u "java/util/Arrays"), (57, .class_ 76), (1, u "java/util/Arrays$NaturalOrder"), (36, .class_ 115), (1, u "java/util/Arrays$LegacyMergeSort"), (1, u "Z"), (21, u "copyOfRange"), (10, .methodref 151 152), (0, .class_ 153), (0, .nameAndType 154 155), (0, u "java/lang/System"), (0, u "arraycopy"), (0, u "(Ljava/lang/Object;ILjava/lang/Object;II)V"), (146, u "copyOf"), (1, .methodref 305 306), (0, .class_ 307), (0, .nameAndType 308 309), (0, u "java/lang/Math"), (0, u "min"), (0, u "(II)I"), (29, .methodref 14 340), (0, .nameAndType 341 342), (0, u "copyOfRangeByte"), (0, u "([BII)[B"), (0, .methodref 14 344), (0, .nameAndType 345 346), (0, u "checkLength"), (0, u "(II)V"), (28, .class_ 376), (0, u "java/util/Arrays$ArrayList"), (68, u "$assertionsDisabled"), (269, u "MIN_ARRAY_SORT_GRAN"), (0, u "I"), (2, u "INSERTIONSORT_THRESHOLD"), (149, u "([BI)[B"), (105, .class_ 976), (0, u "java/util/Arrays$ArrayItr")] 52

def k16m0 : Method := { name := "<init>", desc := "()V", sig := { parameters := [], returnType := none }, accessFlags := 2, code := none }
def k16c1 : Code := { maxStack := 6, maxLocals := 3, code := jdk_65_method_121_code, exceptionTable := #[], attributes := #[] }
def k16m1 : Method := { name := "copyOf", desc := "([BI)[B", sig := { parameters := [(.array .byte), .int], returnType := some (.array .byte) }, accessFlags := 9, code := some k16c1 }
def k16c2 : Code := { maxStack := 4, maxLocals := 2, code := jdk_65_method_131_code, exceptionTable := #[], attributes := #[] }
def k16m2 : Method := { name := "checkLength", desc := "(II)V", sig := { parameters := [.int, .int], returnType := none }, accessFlags := 10, code := some k16c2 }
def k16c3 : Code := { maxStack := 3, maxLocals := 3, code := jdk_65_method_132_code, exceptionTable := #[], attributes := #[] }
def k16m3 : Method := { name := "copyOfRange", desc := "([BII)[B", sig := { parameters := [(.array .byte), .int, .int], returnType := some (.array .byte) }, accessFlags := 9, code := some k16c3 }
def k16c4 : Code := { maxStack := 6, maxLocals := 5, code := jdk_65_method_133_code, exceptionTable := #[], attributes := #[] }
def k16m4 : Method := { name := "copyOfRangeByte", desc := "([BII)[B", sig := { parameters := [(.array .byte), .int, .int], returnType := some (.array .byte) }, accessFlags := 10, code := some k16c4 }
/-- java/util/Arrays -/
def k16 : Class := { plain "java/util/Arrays" (some 0) with
  accessFlags := 49
  interfaces := #[]
  cf := some (fileOf pool16 14 #[.nestMembers #[975, 375, 113, 74]] #[{ accessFlags := 2, nameIndex := 5, descriptorIndex := 6, attributes := #[] }, { accessFlags := 9, nameIndex := 302, descriptorIndex := 869, attributes := #[] }, { accessFlags := 10, nameIndex := 345, descriptorIndex := 346, attributes := #[] }, { accessFlags := 9, nameIndex := 139, descriptorIndex := 342, attributes := #[] }, { accessFlags := 10, nameIndex := 341, descriptorIndex := 342, attributes := #[] }] 49 2 #[] #[{ accessFlags := 26, nameIndex := 715, descriptorIndex := 716, attributes := #[] }, { accessFlags := 26, nameIndex := 719, descriptorIndex := 716, attributes := #[] }, { accessFlags := 4120, nameIndex := 445, descriptorIndex := 117, attributes := #[] }])
  fields := #[{ name := "MIN_ARRAY_SORT_GRAN", type := .int, accessFlags := 26, slot := 0, constantValue := 0 }, { name := "INSERTIONSORT_THRESHOLD", type := .int, accessFlags := 26, slot := 1, constantValue := 0 }, { name := "$assertionsDisabled", type := .boolean, accessFlags := 4120, slot := 2, constantValue := 0 }]
  methods := #[k16m0, k16m1, k16m2, k16m3, k16m4]
  instanceTypes := #[]
  staticTypes := #[.int, .int, .boolean]
  resolved := Array.replicate 1029 none
  statics := none }

def pool17 : Array CpInfo := pool [(2, .class_ 4), (1, u "java/lang/Object"), (0, u "<init>"), (0, u "()V"), (1, .class_ 10), (1, u "java/lang/System"), (0, u "allowSecurityManager"), (0, u "I"), (16, u "cons"), (0, u "Ljava/io/Console;"), (77, .class_ 110), (1, u "java/lang/System$CallersHolder"), (43, u "initialErrStream"), (0, u "Ljava/io/PrintStream;"), (19, u "security"), (0, u "Ljava/lang/SecurityManager;"), (31, .class_ 209), (0, u "java/lang/System$1"), (7, u "props"), (0, u "Ljava/util/Properties;"), (2, u "lineSeparator"), (0, u "Ljava/lang/String;"), (96, .class_ 321), (1, u "java/lang/System$LoggerFinder"), (5, .class_ 328), (0, u "java/lang/System$Logger"), (67, u "err"), (2, u "out"), (91, u "notSupportedJnuEncoding"), (15, u "in"), (17, u "initialIn"), (0, u "Ljava/io/InputStream;"), (35, u "bootLayer"), (0, u "Ljava/lang/ModuleLayer;"), (99, .class_ 664), (0, u "java/lang/System$2"), (9, u "NEVER"), (2, u "MAYBE"), (49, u "arraycopy"), (0, u "(Ljava/lang/Object;ILjava/lang/Object;II)V"), (72, .class_ 802), (0, u "java/lang/System$Logger$Level")] 31

def k17m0 : Method := { name := "<init>", desc := "()V", sig := { parameters := [], returnType := none }, accessFlags := 2, code := none }
def k17m1 : Method := { name := "arraycopy", desc := "(Ljava/lang/Object;ILjava/lang/Object;II)V", sig := { parameters := [(.object "java/lang/Object"), .int, (.object "java/lang/Object"), .int, .int], returnType := none }, accessFlags := 265, code := none }
/-- java/lang/System -/
def k17 : Class := { plain "java/lang/System" (some 0) with
  accessFlags := 49
  interfaces := #[]
  cf := some (fileOf pool17 8 #[.nestMembers #[319, 327, 801, 108, 663, 208]] #[{ accessFlags := 2, nameIndex := 5, descriptorIndex := 6, attributes := #[] }, { accessFlags := 265, nameIndex := 727, descriptorIndex := 728, attributes := #[] }] 49 2 #[] #[{ accessFlags := 25, nameIndex := 507, descriptorIndex := 526, attributes := #[] }, { accessFlags := 25, nameIndex := 399, descriptorIndex := 155, attributes := #[] }, { accessFlags := 25, nameIndex := 396, descriptorIndex := 155, attributes := #[] }, { accessFlags := 10, nameIndex := 525, descriptorIndex := 526, attributes := #[] }, { accessFlags := 26, nameIndex := 674, descriptorIndex := 12, attributes := #[] }, { accessFlags := 26, nameIndex := 677, descriptorIndex := 12, attributes := #[] }, { accessFlags := 10, nameIndex := 11, descriptorIndex := 12, attributes := #[] }, { accessFlags := 74, nameIndex := 175, descriptorIndex := 176, attributes := #[] }, { accessFlags := 10, nameIndex := 491, descriptorIndex := 222, attributes := #[] }, { accessFlags := 74, nameIndex := 29, descriptorIndex := 30, attributes := #[] }, { accessFlags := 74, nameIndex := 154, descriptorIndex := 155, attributes := #[] }, { accessFlags := 10, nameIndex := 217, descriptorIndex := 218, attributes := #[] }, { accessFlags := 10, nameIndex := 221, descriptorIndex := 222, attributes := #[] }, { accessFlags := 8, nameIndex := 562, descriptorIndex := 563, attributes := #[] }])
  fields := #[{ name := "in", type := (.object "java/io/InputStream"), accessFlags := 25, slot := 0, constantValue := 0 }, { name := "out", type := (.object "java/io/PrintStream"), accessFlags := 25, slot := 1, constantValue := 0 }, { name := "err", type := (.object "java/io/PrintStream"), accessFlags := 25, slot := 2, constantValue := 0 }, { name := "initialIn", type := (.object "java/io/InputStream"), accessFlags := 10, slot := 3, constantValue := 0 }, { name := "NEVER", type := .int, accessFlags := 26, slot := 4, constantValue := 0 }, { name := "MAYBE", type := .int, accessFlags := 26, slot := 5, constantValue := 0 }, { name := "allowSecurityManager", type := .int, accessFlags := 10, slot := 6, constantValue := 0 }, { name := "security", type := (.object "java/lang/SecurityManager"), accessFlags := 74, slot := 7, constantValue := 0 }, { name := "notSupportedJnuEncoding", type := (.object "java/lang/String"), accessFlags := 10, slot := 8, constantValue := 0 }, { name := "cons", type := (.object "java/io/Console"), accessFlags := 74, slot := 9, constantValue := 0 }, { name := "initialErrStream", type := (.object "java/io/PrintStream"), accessFlags := 74, slot := 10, constantValue := 0 }, { name := "props", type := (.object "java/util/Properties"), accessFlags := 10, slot := 11, constantValue := 0 }, { name := "lineSeparator", type := (.object "java/lang/String"), accessFlags := 10, slot := 12, constantValue := 0 }, { name := "bootLayer", type := (.object "java/lang/ModuleLayer"), accessFlags := 8, slot := 13, constantValue := 0 }]
  methods := #[k17m0, k17m1]
  instanceTypes := #[]
  staticTypes := #[(.object "java/io/InputStream"), (.object "java/io/PrintStream"), (.object "java/io/PrintStream"), (.object "java/io/InputStream"), .int, .int, .int, (.object "java/lang/SecurityManager"), (.object "java/lang/String"), (.object "java/io/Console"), (.object "java/io/PrintStream"), (.object "java/util/Properties"), (.object "java/lang/String"), (.object "java/lang/ModuleLayer")]
  resolved := Array.replicate 834 none
  statics := none }

def pool18 : Array CpInfo := pool [(2, .class_ 4), (1, u "java/lang/Object"), (0, u "<init>"), (0, u "()V"), (17, .class_ 26), (1, u "jdk/internal/util/Preconditions"), (6, u "checkIndex"), (21, .class_ 56), (0, u "jdk/internal/util/Preconditions$4"), (57, .class_ 115), (0, u "jdk/internal/util/Preconditions$1"), (7, u "SIOOBE_FORMATTER"), (0, u "Ljava/util/function/BiFunction;"), (0, .class_ 126), (0, u "jdk/internal/util/Preconditions$2"), (3, u "AIOOBE_FORMATTER"), (0, .class_ 132), (0, u "jdk/internal/util/Preconditions$3"), (3, u "IOOBE_FORMATTER"), (41, u "(IILjava/util/function/BiFunction;)I")] 15

def k18m0 : Method := { name := "<init>", desc := "()V", sig := { parameters := [], returnType := none }, accessFlags := 1, code := none }
def k18c1 : Code := { maxStack := 3, maxLocals := 3, code := jdk_41_method_11_code, exceptionTable := #[], attributes := #[] }
def k18m1 : Method := { name := "checkIndex", desc := "(IILjava/util/function/BiFunction;)I", sig := { parameters := [.int, .int, (.object "java/util/function/BiFunction")], returnType := some .int }, accessFlags := 9, code := some k18c1 }
/-- jdk/internal/util/Preconditions -/
def k18 : Class := { plain "jdk/internal/util/Preconditions" (some 0) with
  accessFlags := 33
  interfaces := #[]
  cf := some (fileOf pool18 24 #[.nestMembers #[55, 131, 125, 114]] #[{ accessFlags := 1, nameIndex := 5, descriptorIndex := 6, attributes := #[] }, { accessFlags := 9, nameIndex := 33, descriptorIndex := 178, attributes := #[] }] 33 2 #[] #[{ accessFlags := 25, nameIndex := 123, descriptorIndex := 124, attributes := #[] }, { accessFlags := 25, nameIndex := 130, descriptorIndex := 124, attributes := #[] }, { accessFlags := 25, nameIndex := 136, descriptorIndex := 124, attributes := #[] }])
  fields := #[{ name := "SIOOBE_FORMATTER", type := (.object "java/util/function/BiFunction"), accessFlags := 25, slot := 0, constantValue := 0 }, { name := "AIOOBE_FORMATTER", type := (.object "java/util/function/BiFunction"), accessFlags := 25, slot := 1, constantValue := 0 }, { name := "IOOBE_FORMATTER", type := (.object "java/util/function/BiFunction"), accessFlags := 25, slot := 2, constantValue := 0 }]
  methods := #[k18m0, k18m1]
  instanceTypes := #[]
  staticTypes := #[(.object "java/util/function/BiFunction"), (.object "java/util/function/BiFunction"), (.object "java/util/function/BiFunction")]
  resolved := Array.replicate 194 none
  statics := some 2 }

def pool19 : Array CpInfo := pool [(1, u "java/lang/Cloneable"), (0, .class_ 1), (0, u "java/lang/Object"), (0, .class_ 3)] 3

/-- java/lang/Cloneable -/
def k19 : Class := { plain "java/lang/Cloneable" (some 0) with
  accessFlags := 1537
  interfaces := #[]
  cf := some (fileOf pool19 2 #[] #[] 1537 4 #[] #[])
  fields := #[]
  methods := #[]
  instanceTypes := #[]
  staticTypes := #[]
  resolved := Array.replicate 8 none
  statics := none }

/-- the primitive byte -/
def k20 : Class := { plain "byte" none with kind := .primitive 'B', accessFlags := 0x411 }
/-- [B -/
def k21 : Class := { plain "[B" (some 0) with kind := .array 20 .byte, interfaces := #[19, 4], accessFlags := 1041 }

/-- the primitive int -/
def k22 : Class := { plain "int" none with kind := .primitive 'I', accessFlags := 0x411 }
/-- [I -/
def k23 : Class := { plain "[I" (some 0) with kind := .array 22 .int, interfaces := #[19, 4], accessFlags := 1041 }

def heap : Heap := #[{ cls := 6, slots := #[.ref 3, .ref 5, .ref 4, .int 0, .null, .null, .null, .null], vm := .statics 6 },
  { cls := 9, slots := #[.long 0, .int 1, .null, .int 0, .null, .int 0, .int 0], vm := .statics 9 },
  { cls := 18, slots := #[.null, .null, .null], vm := .statics 18 },
  { cls := 6, slots := #[.null, .int 0, .int 0, .int 0, .int 0, .null, .null, .null, .null, .null, .null, .null, .null], vm := .none },
  { cls := 6, slots := #[.null, .int 0, .int 0, .int 0, .int 0, .null, .null, .null, .null, .null, .null, .null, .null], vm := .none },
  { cls := 6, slots := #[.null, .int 0, .int 0, .int 0, .int 0, .null, .null, .null, .null, .null, .null, .ref 7, .ref 6], vm := .none },
  { cls := 9, slots := #[.ref 8, .int 0, .int 0, .int 0], vm := .none },
  { cls := 9, slots := #[.null, .int 0, .int 0, .int 0], vm := .none },
  { cls := 21, slots := #[.int 83, .int 69, .int 84, .int 32, .int 83, .int 84, .int 65, .int 84, .int 69, .int 77, .int 69, .int 78, .int 84, .int 32, .int 102, .int 111, .int 114, .int 101, .int 105, .int 103, .int 110, .int 95, .int 107, .int 101, .int 121, .int 95, .int 99, .int 104, .int 101, .int 99, .int 107, .int 115, .int 32, .int 61, .int 32, .int 48, .int 32, .int 70, .int 79, .int 82, .int 32], vm := .none }]
def classes : Array Class := #[k0, k1, k2, k3, k4, k5, k6, k7, k8, k9, k10, k11, k12, k13, k14, k15, k16, k17, k18, k19, k20, k21, k22, k23]
def interned : List (Array UInt16 × Addr) := []
def slotsUsed : Nat := 106
def theMethod : MethodId := ⟨1, 1⟩
def args0 : Array Value := #[.int 1, .int 65]
def aboutOver (below : List Frame) : State where
  vm := { classes := classes, interned := interned.toArray }
  heap := heap
  slotsUsed := slotsUsed
  threads := #[{ frames := .invoking theMethod args0 :: below }]
def below0 : List Frame := [.native { method := ⟨0, 0⟩, args := #[] }]
def about1 : State := aboutOver below0
def p0 : Program := .bare "" "" ""
def e0 : Env := launch0.env 0 0 0
theorem w_frames : about1.frames = Frame.invoking theMethod args0 :: below0 := rfl
set_option maxRecDepth 65536 in
theorem w_args : argsFit about1.vm theMethod args0 = true := by decide +kernel
set_option maxRecDepth 65536 in
theorem w_heap : heapFits about1 = true := by decide +kernel
set_option maxRecDepth 65536 in
theorem w_runnable : about1.curStatus? = some .runnable := by decide +kernel
set_option maxRecDepth 65536 in
theorem w_alone : about1.alone = true := by decide +kernel
set_option maxRecDepth 65536 in
theorem w_named : about1.methodNamed? x = some theMethod := by decide +kernel
set_option maxRecDepth 65536 in
theorem w_hears : about1.hears theMethod below0 = true := by decide +kernel
set_option maxRecDepth 65536 in
theorem w_ripe : about1.ripe theMethod args0 below0 = true := by decide +kernel
theorem w_running : about1.status = .running := rfl
set_option maxRecDepth 65536 in
theorem w_room : about1.hasRoom e0.platform room_1 = true :=
  launch0.hasRoom_least _ room_1 (by decide +kernel) (by decide +kernel) (by decide +kernel) (by decide +kernel) (by decide +kernel) (by decide +kernel)
theorem allAtoms_all (ts : List Jvm.Cond) (a : Array Jvm.Value) (st : Jvm.State) : (allAtoms ts).before a st = ts.all (fun c => c.before a st) := by
  induction ts with
  | nil => rfl
  | cons c t ih =>
    show (Jvm.Cond.and c (allAtoms t)).before a st = _
    rw [Jvm.Cond.before_and, ih, List.all_cons]
def words1 : List Jvm.Cond := Jvm.Cond.code x code maxLocals ret :: tables_1
/-- a 'code' word, met by the world's own term for the bytes: nothing is compared byte by byte -/
theorem code_word {y : MethodName} {bytes : ByteArray} {mx : Nat} {rt : Option FieldType} {a : Array Value} {s : State} {m : MethodId} {meth : Method} {c : Code} (h1 : s.methodNamed? y = some m) (h2 : s.vm.method? m = some meth) (h3 : meth.code = some c) (h4 : c.code = bytes)
    (h5 : (c.maxLocals == mx && c.exceptionTable.isEmpty && decide (c.maxStack ≤ mostOperands) && decide (meth.sig.returnType = rt) && !meth.locks && decide (parseMethodDescriptor y.desc = some meth.sig)) = true) : (Jvm.Cond.code y bytes mx rt).before a s = true := by
  simp only [Bool.and_eq_true, beq_iff_eq, Bool.not_eq_true', decide_eq_true_eq] at h5
  obtain ⟨⟨⟨⟨⟨g1, g2⟩, g3⟩, g4⟩, g5⟩, g6⟩ := h5
  simp [Cond.before, Cond.holds, Cond.value, h1, h2, h3, h4, g1, g2, g3, g4, g5, g6]
def isCode : Jvm.Cond → Bool
  | .code _ _ _ _ => true
  | _ => false
theorem all_split {L : List Jvm.Cond} {P : Jvm.Cond → Bool} (h1 : L.all (fun c => isCode c || P c) = true) (h2 : ∀ c ∈ L.filter isCode, P c = true) : L.all P = true := by
  refine List.all_eq_true.mpr fun c hc => ?_
  have h := List.all_eq_true.mp h1 c hc
  rcases Bool.eq_false_or_eq_true (isCode c) with hi | hi
  · exact h2 c (List.mem_filter.mpr ⟨hc, hi⟩)
  · simpa [hi] using h
set_option maxRecDepth 65536 in
theorem w_c0 : (Jvm.Cond.code x code maxLocals ret).before args0 about1 = true := code_word (m := ⟨1, 1⟩) (meth := k1m1) (c := k1c1) (by decide +kernel) rfl rfl rfl (by decide +kernel)
set_option maxRecDepth 65536 in
theorem w_c1 : (Jvm.Cond.code ({ cls := "com/example/casebook/casebook/database/Dialect", name := "deletesWithoutForeignKeyChecks", desc := "()Z" } : Jvm.MethodName) prog_18_method_12_code (1 : Nat) (Option.some Jvm.ClassFile.FieldType.boolean)).before args0 about1 = true := code_word (m := ⟨6, 1⟩) (meth := k6m1) (c := k6c1) (by decide +kernel) rfl rfl rfl (by decide +kernel)
set_option maxRecDepth 65536 in
theorem w_c2 : (Jvm.Cond.code ({ cls := "com/example/casebook/casebook/database/Dialect", name := "referencingKeysQuery", desc := "()Ljava/lang/String;" } : Jvm.MethodName) prog_18_method_11_code (1 : Nat) (Option.some (Jvm.ClassFile.FieldType.object "java/lang/String"))).before args0 about1 = true := code_word (m := ⟨6, 0⟩) (meth := k6m0) (c := k6c0) (by decide +kernel) rfl rfl rfl (by decide +kernel)
set_option maxRecDepth 65536 in
theorem w_c3 : (Jvm.Cond.code ({ cls := "java/lang/String", name := "valueOf", desc := "(C)Ljava/lang/String;" } : Jvm.MethodName) jdk_42_method_139_code (1 : Nat) (Option.some (Jvm.ClassFile.FieldType.object "java/lang/String"))).before args0 about1 = true := code_word (m := ⟨9, 4⟩) (meth := k9m4) (c := k9c4) (by decide +kernel) rfl rfl rfl (by decide +kernel)
set_option maxRecDepth 65536 in
theorem w_c4 : (Jvm.Cond.code ({ cls := "java/lang/StringLatin1", name := "canEncode", desc := "(C)Z" } : Jvm.MethodName) jdk_43_method_3_code (1 : Nat) (Option.some Jvm.ClassFile.FieldType.boolean)).before args0 about1 = true := code_word (m := ⟨10, 2⟩) (meth := k10m2) (c := k10c2) (by decide +kernel) rfl rfl rfl (by decide +kernel)
set_option maxRecDepth 65536 in
theorem w_c5 : (Jvm.Cond.code ({ cls := "java/lang/StringLatin1", name := "toBytes", desc := "(C)[B" } : Jvm.MethodName) jdk_43_method_46_code (1 : Nat) (Option.some (Jvm.ClassFile.FieldType.array Jvm.ClassFile.FieldType.byte))).before args0 about1 = true := code_word (m := ⟨10, 3⟩) (meth := k10m3) (c := k10c3) (by decide +kernel) rfl rfl rfl (by decide +kernel)
set_option maxRecDepth 65536 in
theorem w_c6 : (Jvm.Cond.code ({ cls := "java/lang/String", name := "<init>", desc := "([BB)V" } : Jvm.MethodName) jdk_42_method_151_code (3 : Nat) (Option.none : Option Jvm.ClassFile.FieldType)).before args0 about1 = true := code_word (m := ⟨9, 7⟩) (meth := k9m7) (c := k9c7) (by decide +kernel) rfl rfl rfl (by decide +kernel)
set_option maxRecDepth 65536 in
theorem w_c7 : (Jvm.Cond.code ({ cls := "java/lang/Object", name := "<init>", desc := "()V" } : Jvm.MethodName) object_method_1_code (1 : Nat) (Option.none : Option Jvm.ClassFile.FieldType)).before args0 about1 = true := code_word (m := ⟨0, 0⟩) (meth := k0m0) (c := k0c0) (by decide +kernel) rfl rfl rfl (by decide +kernel)
set_option maxRecDepth 65536 in
theorem w_c8 : (Jvm.Cond.code ({ cls := "com/example/casebook/casebook/database/Dialect", name := "withoutForeignKeyChecks", desc := "(Ljava/lang/String;)Ljava/lang/String;" } : Jvm.MethodName) prog_18_method_13_code (2 : Nat) (Option.some (Jvm.ClassFile.FieldType.object "java/lang/String"))).before args0 about1 = true := code_word (m := ⟨6, 2⟩) (meth := k6m2) (c := k6c2) (by decide +kernel) rfl rfl rfl (by decide +kernel)
set_option maxRecDepth 65536 in
theorem w_c9 : (Jvm.Cond.code ({ cls := "java/lang/StringBuilder", name := "<init>", desc := "()V" } : Jvm.MethodName) jdk_67_method_1_code (1 : Nat) (Option.none : Option Jvm.ClassFile.FieldType)).before args0 about1 = true := code_word (m := ⟨13, 0⟩) (meth := k13m0) (c := k13c0) (by decide +kernel) rfl rfl rfl (by decide +kernel)
set_option maxRecDepth 65536 in
theorem w_c10 : (Jvm.Cond.code ({ cls := "java/lang/AbstractStringBuilder", name := "<init>", desc := "(I)V" } : Jvm.MethodName) jdk_68_method_2_code (2 : Nat) (Option.none : Option Jvm.ClassFile.FieldType)).before args0 about1 = true := code_word (m := ⟨12, 1⟩) (meth := k12m1) (c := k12c1) (by decide +kernel) rfl rfl rfl (by decide +kernel)
set_option maxRecDepth 65536 in
theorem w_c11 : (Jvm.Cond.code ({ cls := "java/lang/StringBuilder", name := "append", desc := "(Ljava/lang/String;)Ljava/lang/StringBuilder;" } : Jvm.MethodName) jdk_67_method_7_code (2 : Nat) (Option.some (Jvm.ClassFile.FieldType.object "java/lang/StringBuilder"))).before args0 about1 = true := code_word (m := ⟨13, 1⟩) (meth := k13m1) (c := k13c1) (by decide +kernel) rfl rfl rfl (by decide +kernel)
set_option maxRecDepth 65536 in
theorem w_c12 : (Jvm.Cond.code ({ cls := "java/lang/AbstractStringBuilder", name := "append", desc := "(Ljava/lang/String;)Ljava/lang/AbstractStringBuilder;" } : Jvm.MethodName) jdk_68_method_22_code (3 : Nat) (Option.some (Jvm.ClassFile.FieldType.object "java/lang/AbstractStringBuilder"))).before args0 about1 = true := code_word (m := ⟨12, 5⟩) (meth := k12m5) (c := k12c5) (by decide +kernel) rfl rfl rfl (by decide +kernel)
set_option maxRecDepth 65536 in
theorem w_c13 : (Jvm.Cond.code ({ cls := "java/lang/String", name := "length", desc := "()I" } : Jvm.MethodName) jdk_42_method_54_code (1 : Nat) (Option.some Jvm.ClassFile.FieldType.int)).before args0 about1 = true := code_word (m := ⟨9, 2⟩) (meth := k9m2) (c := k9c2) (by decide +kernel) rfl rfl rfl (by decide +kernel)
set_option maxRecDepth 65536 in
theorem w_c14 : (Jvm.Cond.code ({ cls := "java/lang/String", name := "coder", desc := "()B" } : Jvm.MethodName) jdk_42_method_152_code (1 : Nat) (Option.some Jvm.ClassFile.FieldType.byte)).before args0 about1 = true := code_word (m := ⟨9, 8⟩) (meth := k9m8) (c := k9c8) (by decide +kernel) rfl rfl rfl (by decide +kernel)
set_option maxRecDepth 65536 in
theorem w_c15 : (Jvm.Cond.code ({ cls := "java/lang/AbstractStringBuilder", name := "ensureCapacityInternal", desc := "(I)V" } : Jvm.MethodName) jdk_68_method_9_code (3 : Nat) (Option.none : Option Jvm.ClassFile.FieldType)).before args0 about1 = true := code_word (m := ⟨12, 3⟩) (meth := k12m3) (c := k12c3) (by decide +kernel) rfl rfl rfl (by decide +kernel)
set_option maxRecDepth 65536 in
theorem w_c16 : (Jvm.Cond.code ({ cls := "java/lang/AbstractStringBuilder", name := "newCapacity", desc := "(I)I" } : Jvm.MethodName) jdk_68_method_10_code (6 : Nat) (Option.some Jvm.ClassFile.FieldType.int)).before args0 about1 = true := code_word (m := ⟨12, 4⟩) (meth := k12m4) (c := k12c4) (by decide +kernel) rfl rfl rfl (by decide +kernel)
set_option maxRecDepth 65536 in
theorem w_c17 : (Jvm.Cond.code ({ cls := "jdk/internal/util/ArraysSupport", name := "newLength", desc := "(III)I" } : Jvm.MethodName) jdk_48_method_27_code (4 : Nat) (Option.some Jvm.ClassFile.FieldType.int)).before args0 about1 = true := code_word (m := ⟨14, 1⟩) (meth := k14m1) (c := k14c1) (by decide +kernel) rfl rfl rfl (by decide +kernel)
set_option maxRecDepth 65536 in
theorem w_c18 : (Jvm.Cond.code ({ cls := "java/lang/Math", name := "max", desc := "(II)I" } : Jvm.MethodName) jdk_29_method_65_code (2 : Nat) (Option.some Jvm.ClassFile.FieldType.int)).before args0 about1 = true := code_word (m := ⟨15, 1⟩) (meth := k15m1) (c := k15c1) (by decide +kernel) rfl rfl rfl (by decide +kernel)
set_option maxRecDepth 65536 in
theorem w_c19 : (Jvm.Cond.code ({ cls := "java/util/Arrays", name := "copyOf", desc := "([BI)[B" } : Jvm.MethodName) jdk_65_method_121_code (3 : Nat) (Option.some (Jvm.ClassFile.FieldType.array Jvm.ClassFile.FieldType.byte))).before args0 about1 = true := code_word (m := ⟨16, 1⟩) (meth := k16m1) (c := k16c1) (by decide +kernel) rfl rfl rfl (by decide +kernel)
set_option maxRecDepth 65536 in
theorem w_c20 : (Jvm.Cond.code ({ cls := "java/lang/Math", name := "min", desc := "(II)I" } : Jvm.MethodName) jdk_29_method_69_code (2 : Nat) (Option.some Jvm.ClassFile.FieldType.int)).before args0 about1 = true := code_word (m := ⟨15, 2⟩) (meth := k15m2) (c := k15c2) (by decide +kernel) rfl rfl rfl (by decide +kernel)
set_option maxRecDepth 65536 in
theorem w_c21 : (Jvm.Cond.code ({ cls := "java/lang/AbstractStringBuilder", name := "putStringAt", desc := "(ILjava/lang/String;)V" } : Jvm.MethodName) jdk_68_method_73_code (3 : Nat) (Option.none : Option Jvm.ClassFile.FieldType)).before args0 about1 = true := code_word (m := ⟨12, 9⟩) (meth := k12m9) (c := k12c9) (by decide +kernel) rfl rfl rfl (by decide +kernel)
set_option maxRecDepth 65536 in
theorem w_c22 : (Jvm.Cond.code ({ cls := "java/lang/AbstractStringBuilder", name := "inflateIfNeededFor", desc := "(Ljava/lang/String;)V" } : Jvm.MethodName) jdk_68_method_71_code (2 : Nat) (Option.none : Option Jvm.ClassFile.FieldType)).before args0 about1 = true := code_word (m := ⟨12, 8⟩) (meth := k12m8) (c := k12c8) (by decide +kernel) rfl rfl rfl (by decide +kernel)
set_option maxRecDepth 65536 in
theorem w_c23 : (Jvm.Cond.code ({ cls := "java/lang/String", name := "getBytes", desc := "([BIB)V" } : Jvm.MethodName) jdk_42_method_147_code (4 : Nat) (Option.none : Option Jvm.ClassFile.FieldType)).before args0 about1 = true := code_word (m := ⟨9, 5⟩) (meth := k9m5) (c := k9c5) (by decide +kernel) rfl rfl rfl (by decide +kernel)
set_option maxRecDepth 65536 in
theorem w_c24 : (Jvm.Cond.code ({ cls := "java/lang/StringBuilder", name := "toString", desc := "()Ljava/lang/String;" } : Jvm.MethodName) jdk_67_method_42_code (1 : Nat) (Option.some (Jvm.ClassFile.FieldType.object "java/lang/String"))).before args0 about1 = true := code_word (m := ⟨13, 2⟩) (meth := k13m2) (c := k13c2) (by decide +kernel) rfl rfl rfl (by decide +kernel)
set_option maxRecDepth 65536 in
theorem w_c25 : (Jvm.Cond.code ({ cls := "java/lang/String", name := "<init>", desc := "(Ljava/lang/StringBuilder;)V" } : Jvm.MethodName) jdk_42_method_53_code (2 : Nat) (Option.none : Option Jvm.ClassFile.FieldType)).before args0 about1 = true := code_word (m := ⟨9, 1⟩) (meth := k9m1) (c := k9c1) (by decide +kernel) rfl rfl rfl (by decide +kernel)
set_option maxRecDepth 65536 in
theorem w_c26 : (Jvm.Cond.code ({ cls := "java/lang/String", name := "<init>", desc := "(Ljava/lang/AbstractStringBuilder;Ljava/lang/Void;)V" } : Jvm.MethodName) jdk_42_method_150_code (5 : Nat) (Option.none : Option Jvm.ClassFile.FieldType)).before args0 about1 = true := code_word (m := ⟨9, 6⟩) (meth := k9m6) (c := k9c6) (by decide +kernel) rfl rfl rfl (by decide +kernel)
set_option maxRecDepth 65536 in
theorem w_c27 : (Jvm.Cond.code ({ cls := "java/lang/AbstractStringBuilder", name := "getValue", desc := "()[B" } : Jvm.MethodName) jdk_68_method_64_code (1 : Nat) (Option.some (Jvm.ClassFile.FieldType.array Jvm.ClassFile.FieldType.byte))).before args0 about1 = true := code_word (m := ⟨12, 6⟩) (meth := k12m6) (c := k12c6) (by decide +kernel) rfl rfl rfl (by decide +kernel)
set_option maxRecDepth 65536 in
theorem w_c28 : (Jvm.Cond.code ({ cls := "java/lang/StringBuilder", name := "length", desc := "()I" } : Jvm.MethodName) jdk_67_method_93_code (1 : Nat) (Option.some Jvm.ClassFile.FieldType.int)).before args0 about1 = true := code_word (m := ⟨13, 3⟩) (meth := k13m3) (c := k13c3) (by decide +kernel) rfl rfl rfl (by decide +kernel)
set_option maxRecDepth 65536 in
theorem w_c29 : (Jvm.Cond.code ({ cls := "java/lang/AbstractStringBuilder", name := "length", desc := "()I" } : Jvm.MethodName) jdk_68_method_6_code (1 : Nat) (Option.some Jvm.ClassFile.FieldType.int)).before args0 about1 = true := code_word (m := ⟨12, 2⟩) (meth := k12m2) (c := k12c2) (by decide +kernel) rfl rfl rfl (by decide +kernel)
set_option maxRecDepth 65536 in
theorem w_c30 : (Jvm.Cond.code ({ cls := "java/lang/AbstractStringBuilder", name := "isLatin1", desc := "()Z" } : Jvm.MethodName) jdk_68_method_68_code (1 : Nat) (Option.some Jvm.ClassFile.FieldType.boolean)).before args0 about1 = true := code_word (m := ⟨12, 7⟩) (meth := k12m7) (c := k12c7) (by decide +kernel) rfl rfl rfl (by decide +kernel)
set_option maxRecDepth 65536 in
theorem w_c31 : (Jvm.Cond.code ({ cls := "java/util/Arrays", name := "copyOfRange", desc := "([BII)[B" } : Jvm.MethodName) jdk_65_method_132_code (3 : Nat) (Option.some (Jvm.ClassFile.FieldType.array Jvm.ClassFile.FieldType.byte))).before args0 about1 = true := code_word (m := ⟨16, 3⟩) (meth := k16m3) (c := k16c3) (by decide +kernel) rfl rfl rfl (by decide +kernel)
set_option maxRecDepth 65536 in
theorem w_c32 : (Jvm.Cond.code ({ cls := "java/util/Arrays", name := "copyOfRangeByte", desc := "([BII)[B" } : Jvm.MethodName) jdk_65_method_133_code (5 : Nat) (Option.some (Jvm.ClassFile.FieldType.array Jvm.ClassFile.FieldType.byte))).before args0 about1 = true := code_word (m := ⟨16, 4⟩) (meth := k16m4) (c := k16c4) (by decide +kernel) rfl rfl rfl (by decide +kernel)
set_option maxRecDepth 65536 in
theorem w_c33 : (Jvm.Cond.code ({ cls := "java/util/Arrays", name := "checkLength", desc := "(II)V" } : Jvm.MethodName) jdk_65_method_131_code (2 : Nat) (Option.none : Option Jvm.ClassFile.FieldType)).before args0 about1 = true := code_word (m := ⟨16, 2⟩) (meth := k16m2) (c := k16c2) (by decide +kernel) rfl rfl rfl (by decide +kernel)
set_option maxRecDepth 65536 in
theorem w_c34 : (Jvm.Cond.code ({ cls := "java/lang/String", name := "charAt", desc := "(I)C" } : Jvm.MethodName) jdk_42_method_56_code (2 : Nat) (Option.some Jvm.ClassFile.FieldType.char)).before args0 about1 = true := code_word (m := ⟨9, 3⟩) (meth := k9m3) (c := k9c3) (by decide +kernel) rfl rfl rfl (by decide +kernel)
set_option maxRecDepth 65536 in
theorem w_c35 : (Jvm.Cond.code ({ cls := "java/lang/String", name := "isLatin1", desc := "()Z" } : Jvm.MethodName) jdk_42_method_154_code (1 : Nat) (Option.some Jvm.ClassFile.FieldType.boolean)).before args0 about1 = true := code_word (m := ⟨9, 9⟩) (meth := k9m9) (c := k9c9) (by decide +kernel) rfl rfl rfl (by decide +kernel)
set_option maxRecDepth 65536 in
theorem w_c36 : (Jvm.Cond.code ({ cls := "java/lang/StringLatin1", name := "charAt", desc := "([BI)C" } : Jvm.MethodName) jdk_43_method_2_code (2 : Nat) (Option.some Jvm.ClassFile.FieldType.char)).before args0 about1 = true := code_word (m := ⟨10, 1⟩) (meth := k10m1) (c := k10c1) (by decide +kernel) rfl rfl rfl (by decide +kernel)
set_option maxRecDepth 65536 in
theorem w_c37 : (Jvm.Cond.code ({ cls := "java/lang/String", name := "checkIndex", desc := "(II)V" } : Jvm.MethodName) jdk_42_method_155_code (2 : Nat) (Option.none : Option Jvm.ClassFile.FieldType)).before args0 about1 = true := code_word (m := ⟨9, 10⟩) (meth := k9m10) (c := k9c10) (by decide +kernel) rfl rfl rfl (by decide +kernel)
set_option maxRecDepth 65536 in
theorem w_c38 : (Jvm.Cond.code ({ cls := "jdk/internal/util/Preconditions", name := "checkIndex", desc := "(IILjava/util/function/BiFunction;)I" } : Jvm.MethodName) jdk_41_method_11_code (3 : Nat) (Option.some Jvm.ClassFile.FieldType.int)).before args0 about1 = true := code_word (m := ⟨18, 1⟩) (meth := k18m1) (c := k18c1) (by decide +kernel) rfl rfl rfl (by decide +kernel)
def codes1 : List Jvm.Cond := [Jvm.Cond.code x code maxLocals ret, Jvm.Cond.code ({ cls := "com/example/casebook/casebook/database/Dialect", name := "deletesWithoutForeignKeyChecks", desc := "()Z" } : Jvm.MethodName) prog_18_method_12_code (1 : Nat) (Option.some Jvm.ClassFile.FieldType.boolean), Jvm.Cond.code ({ cls := "com/example/casebook/casebook/database/Dialect", name := "referencingKeysQuery", desc := "()Ljava/lang/String;" } : Jvm.MethodName) prog_18_method_11_code (1 : Nat) (Option.some (Jvm.ClassFile.FieldType.object "java/lang/String")), Jvm.Cond.code ({ cls := "java/lang/String", name := "valueOf", desc := "(C)Ljava/lang/String;" } : Jvm.MethodName) jdk_42_method_139_code (1 : Nat) (Option.some (Jvm.ClassFile.FieldType.object "java/lang/String")), Jvm.Cond.code ({ cls := "java/lang/StringLatin1", name := "canEncode", desc := "(C)Z" } : Jvm.MethodName) jdk_43_method_3_code (1 : Nat) (Option.some Jvm.ClassFile.FieldType.boolean), Jvm.Cond.code ({ cls := "java/lang/StringLatin1", name := "toBytes", desc := "(C)[B" } : Jvm.MethodName) jdk_43_method_46_code (1 : Nat) (Option.some (Jvm.ClassFile.FieldType.array Jvm.ClassFile.FieldType.byte)), Jvm.Cond.code ({ cls := "java/lang/String", name := "<init>", desc := "([BB)V" } : Jvm.MethodName) jdk_42_method_151_code (3 : Nat) (Option.none : Option Jvm.ClassFile.FieldType), Jvm.Cond.code ({ cls := "java/lang/Object", name := "<init>", desc := "()V" } : Jvm.MethodName) object_method_1_code (1 : Nat) (Option.none : Option Jvm.ClassFile.FieldType), Jvm.Cond.code ({ cls := "com/example/casebook/casebook/database/Dialect", name := "withoutForeignKeyChecks", desc := "(Ljava/lang/String;)Ljava/lang/String;" } : Jvm.MethodName) prog_18_method_13_code (2 : Nat) (Option.some (Jvm.ClassFile.FieldType.object "java/lang/String")), Jvm.Cond.code ({ cls := "java/lang/StringBuilder", name := "<init>", desc := "()V" } : Jvm.MethodName) jdk_67_method_1_code (1 : Nat) (Option.none : Option Jvm.ClassFile.FieldType), Jvm.Cond.code ({ cls := "java/lang/AbstractStringBuilder", name := "<init>", desc := "(I)V" } : Jvm.MethodName) jdk_68_method_2_code (2 : Nat) (Option.none : Option Jvm.ClassFile.FieldType), Jvm.Cond.code ({ cls := "java/lang/StringBuilder", name := "append", desc := "(Ljava/lang/String;)Ljava/lang/StringBuilder;" } : Jvm.MethodName) jdk_67_method_7_code (2 : Nat) (Option.some (Jvm.ClassFile.FieldType.object "java/lang/StringBuilder")), Jvm.Cond.code ({ cls := "java/lang/AbstractStringBuilder", name := "append", desc := "(Ljava/lang/String;)Ljava/lang/AbstractStringBuilder;" } : Jvm.MethodName) jdk_68_method_22_code (3 : Nat) (Option.some (Jvm.ClassFile.FieldType.object "java/lang/AbstractStringBuilder")), Jvm.Cond.code ({ cls := "java/lang/String", name := "length", desc := "()I" } : Jvm.MethodName) jdk_42_method_54_code (1 : Nat) (Option.some Jvm.ClassFile.FieldType.int), Jvm.Cond.code ({ cls := "java/lang/String", name := "coder", desc := "()B" } : Jvm.MethodName) jdk_42_method_152_code (1 : Nat) (Option.some Jvm.ClassFile.FieldType.byte), Jvm.Cond.code ({ cls := "java/lang/AbstractStringBuilder", name := "ensureCapacityInternal", desc := "(I)V" } : Jvm.MethodName) jdk_68_method_9_code (3 : Nat) (Option.none : Option Jvm.ClassFile.FieldType), Jvm.Cond.code ({ cls := "java/lang/AbstractStringBuilder", name := "newCapacity", desc := "(I)I" } : Jvm.MethodName) jdk_68_method_10_code (6 : Nat) (Option.some Jvm.ClassFile.FieldType.int), Jvm.Cond.code ({ cls := "jdk/internal/util/ArraysSupport", name := "newLength", desc := "(III)I" } : Jvm.MethodName) jdk_48_method_27_code (4 : Nat) (Option.some Jvm.ClassFile.FieldType.int), Jvm.Cond.code ({ cls := "java/lang/Math", name := "max", desc := "(II)I" } : Jvm.MethodName) jdk_29_method_65_code (2 : Nat) (Option.some Jvm.ClassFile.FieldType.int), Jvm.Cond.code ({ cls := "java/util/Arrays", name := "copyOf", desc := "([BI)[B" } : Jvm.MethodName) jdk_65_method_121_code (3 : Nat) (Option.some (Jvm.ClassFile.FieldType.array Jvm.ClassFile.FieldType.byte)), Jvm.Cond.code ({ cls := "java/lang/Math", name := "min", desc := "(II)I" } : Jvm.MethodName) jdk_29_method_69_code (2 : Nat) (Option.some Jvm.ClassFile.FieldType.int), Jvm.Cond.code ({ cls := "java/lang/AbstractStringBuilder", name := "putStringAt", desc := "(ILjava/lang/String;)V" } : Jvm.MethodName) jdk_68_method_73_code (3 : Nat) (Option.none : Option Jvm.ClassFile.FieldType), Jvm.Cond.code ({ cls := "java/lang/AbstractStringBuilder", name := "inflateIfNeededFor", desc := "(Ljava/lang/String;)V" } : Jvm.MethodName) jdk_68_method_71_code (2 : Nat) (Option.none : Option Jvm.ClassFile.FieldType), Jvm.Cond.code ({ cls := "java/lang/String", name := "getBytes", desc := "([BIB)V" } : Jvm.MethodName) jdk_42_method_147_code (4 : Nat) (Option.none : Option Jvm.ClassFile.FieldType), Jvm.Cond.code ({ cls := "java/lang/StringBuilder", name := "toString", desc := "()Ljava/lang/String;" } : Jvm.MethodName) jdk_67_method_42_code (1 : Nat) (Option.some (Jvm.ClassFile.FieldType.object "java/lang/String")), Jvm.Cond.code ({ cls := "java/lang/String", name := "<init>", desc := "(Ljava/lang/StringBuilder;)V" } : Jvm.MethodName) jdk_42_method_53_code (2 : Nat) (Option.none : Option Jvm.ClassFile.FieldType), Jvm.Cond.code ({ cls := "java/lang/String", name := "<init>", desc := "(Ljava/lang/AbstractStringBuilder;Ljava/lang/Void;)V" } : Jvm.MethodName) jdk_42_method_150_code (5 : Nat) (Option.none : Option Jvm.ClassFile.FieldType), Jvm.Cond.code ({ cls := "java/lang/AbstractStringBuilder", name := "getValue", desc := "()[B" } : Jvm.MethodName) jdk_68_method_64_code (1 : Nat) (Option.some (Jvm.ClassFile.FieldType.array Jvm.ClassFile.FieldType.byte)), Jvm.Cond.code ({ cls := "java/lang/StringBuilder", name := "length", desc := "()I" } : Jvm.MethodName) jdk_67_method_93_code (1 : Nat) (Option.some Jvm.ClassFile.FieldType.int), Jvm.Cond.code ({ cls := "java/lang/AbstractStringBuilder", name := "length", desc := "()I" } : Jvm.MethodName) jdk_68_method_6_code (1 : Nat) (Option.some Jvm.ClassFile.FieldType.int), Jvm.Cond.code ({ cls := "java/lang/AbstractStringBuilder", name := "isLatin1", desc := "()Z" } : Jvm.MethodName) jdk_68_method_68_code (1 : Nat) (Option.some Jvm.ClassFile.FieldType.boolean), Jvm.Cond.code ({ cls := "java/util/Arrays", name := "copyOfRange", desc := "([BII)[B" } : Jvm.MethodName) jdk_65_method_132_code (3 : Nat) (Option.some (Jvm.ClassFile.FieldType.array Jvm.ClassFile.FieldType.byte)), Jvm.Cond.code ({ cls := "java/util/Arrays", name := "copyOfRangeByte", desc := "([BII)[B" } : Jvm.MethodName) jdk_65_method_133_code (5 : Nat) (Option.some (Jvm.ClassFile.FieldType.array Jvm.ClassFile.FieldType.byte)), Jvm.Cond.code ({ cls := "java/util/Arrays", name := "checkLength", desc := "(II)V" } : Jvm.MethodName) jdk_65_method_131_code (2 : Nat) (Option.none : Option Jvm.ClassFile.FieldType), Jvm.Cond.code ({ cls := "java/lang/String", name := "charAt", desc := "(I)C" } : Jvm.MethodName) jdk_42_method_56_code (2 : Nat) (Option.some Jvm.ClassFile.FieldType.char), Jvm.Cond.code ({ cls := "java/lang/String", name := "isLatin1", desc := "()Z" } : Jvm.MethodName) jdk_42_method_154_code (1 : Nat) (Option.some Jvm.ClassFile.FieldType.boolean), Jvm.Cond.code ({ cls := "java/lang/StringLatin1", name := "charAt", desc := "([BI)C" } : Jvm.MethodName) jdk_43_method_2_code (2 : Nat) (Option.some Jvm.ClassFile.FieldType.char), Jvm.Cond.code ({ cls := "java/lang/String", name := "checkIndex", desc := "(II)V" } : Jvm.MethodName) jdk_42_method_155_code (2 : Nat) (Option.none : Option Jvm.ClassFile.FieldType), Jvm.Cond.code ({ cls := "jdk/internal/util/Preconditions", name := "checkIndex", desc := "(IILjava/util/function/BiFunction;)I" } : Jvm.MethodName) jdk_41_method_11_code (3 : Nat) (Option.some Jvm.ClassFile.FieldType.int)]
set_option maxRecDepth 65536 in
theorem codes_eq : words1.filter isCode = codes1 := rfl
theorem w_codes : ∀ c ∈ words1.filter isCode, c.before args0 about1 = true := by
  rw [codes_eq]
  intro c hc
  simp only [codes1, List.mem_cons, List.not_mem_nil, or_false] at hc
  rcases hc with rfl | rfl | rfl | rfl | rfl | rfl | rfl | rfl | rfl | rfl | rfl | rfl | rfl | rfl | rfl | rfl | rfl | rfl | rfl | rfl | rfl | rfl | rfl | rfl | rfl | rfl | rfl | rfl | rfl | rfl | rfl | rfl | rfl | rfl | rfl | rfl | rfl | rfl | rfl
  · exact w_c0
  · exact w_c1
  · exact w_c2
  · exact w_c3
  · exact w_c4
  · exact w_c5
  · exact w_c6
  · exact w_c7
  · exact w_c8
  · exact w_c9
  · exact w_c10
  · exact w_c11
  · exact w_c12
  · exact w_c13
  · exact w_c14
  · exact w_c15
  · exact w_c16
  · exact w_c17
  · exact w_c18
  · exact w_c19
  · exact w_c20
  · exact w_c21
  · exact w_c22
  · exact w_c23
  · exact w_c24
  · exact w_c25
  · exact w_c26
  · exact w_c27
  · exact w_c28
  · exact w_c29
  · exact w_c30
  · exact w_c31
  · exact w_c32
  · exact w_c33
  · exact w_c34
  · exact w_c35
  · exact w_c36
  · exact w_c37
  · exact w_c38
set_option maxRecDepth 65536 in
theorem w_t1 : (words1.take 24).all (fun c => isCode c || c.before args0 about1) = true := by decide +kernel
set_option maxRecDepth 65536 in
theorem w_t2 : ((words1.drop 24).take 24).all (fun c => isCode c || c.before args0 about1) = true := by decide +kernel
set_option maxRecDepth 65536 in
theorem w_t3 : (((words1.drop 24).drop 24).take 24).all (fun c => isCode c || c.before args0 about1) = true := by decide +kernel
set_option maxRecDepth 65536 in
theorem w_t4 : ((((words1.drop 24).drop 24).drop 24).take 24).all (fun c => isCode c || c.before args0 about1) = true := by decide +kernel
set_option maxRecDepth 65536 in
theorem w_t5 : (((((words1.drop 24).drop 24).drop 24).drop 24).take 24).all (fun c => isCode c || c.before args0 about1) = true := by decide +kernel
set_option maxRecDepth 65536 in
theorem w_t6 : ((((((words1.drop 24).drop 24).drop 24).drop 24).drop 24).take 24).all (fun c => isCode c || c.before args0 about1) = true := by decide +kernel
set_option maxRecDepth 65536 in
theorem w_t7 : (((((((words1.drop 24).drop 24).drop 24).drop 24).drop 24).drop 24).take 24).all (fun c => isCode c || c.before args0 about1) = true := by decide +kernel
set_option maxRecDepth 65536 in
theorem w_t8 : ((((((((words1.drop 24).drop 24).drop 24).drop 24).drop 24).drop 24).drop 24).take 24).all (fun c => isCode c || c.before args0 about1) = true := by decide +kernel
set_option maxRecDepth 65536 in
theorem w_t9 : ((((((((words1.drop 24).drop 24).drop 24).drop 24).drop 24).drop 24).drop 24).drop 24).all (fun c => isCode c || c.before args0 about1) = true := by decide +kernel
theorem w_tables : (allAtoms (Jvm.Cond.code x code maxLocals ret :: tables_1)).before args0 about1 = true := by
  rw [allAtoms_all]
  show words1.all (fun c => c.before args0 about1) = true
  refine all_split ?_ w_codes
  rw [← List.take_append_drop 24 words1, List.all_append, w_t1, ← List.take_append_drop 24 (words1.drop 24), List.all_append, w_t2, ← List.take_append_drop 24 ((words1.drop 24).drop 24), List.all_append, w_t3, ← List.take_append_drop 24 (((words1.drop 24).drop 24).drop 24), List.all_append, w_t4, ← List.take_append_drop 24 ((((words1.drop 24).drop 24).drop 24).drop 24), List.all_append, w_t5, ← List.take_append_drop 24 (((((words1.drop 24).drop 24).drop 24).drop 24).drop 24), List.all_append, w_t6, ← List.take_append_drop 24 ((((((words1.drop 24).drop 24).drop 24).drop 24).drop 24).drop 24), List.all_append, w_t7, ← List.take_append_drop 24 (((((((words1.drop 24).drop 24).drop 24).drop 24).drop 24).drop 24).drop 24), List.all_append, w_t8, w_t9]
  rfl
set_option maxRecDepth 65536 in
theorem w_rest : rest_1_c.before args0 about1 = true := by decide +kernel
set_option maxRecDepth 65536 in
theorem w_case : (Jvm.Cond.and given_1 narrow_1).before args0 about1 = true := by decide +kernel
theorem w_applies : (headSpec (Jvm.Cond.code x code maxLocals ret :: tables_1) room_1).applies x e0.platform about1 = true :=
  (Spec.applies_iff w_frames).mpr ⟨w_running, w_runnable, w_alone, w_named, w_hears, w_ripe, w_room, w_tables⟩
theorem atStart : AtStart classFile x code maxLocals ret World_1 tables_1 room_1 Calls_1 rest_1 Pre_1 launch0 p0 e0 about1 theMethod args0 below0 :=
  ⟨lists_1, trivial, launch0.admits_env _ _ _, launch0.least_env, fairChoices_fair.cas, fairChoices_fair.clock, w_frames, w_args, w_heap, w_applies, trivial, w_rest, w_case⟩
end start1
theorem witness_1 : WitnessClaimed_1 := ⟨start1.p0, start1.e0, start1.about1, start1.theMethod, start1.args0, start1.below0, start1.atStart⟩
end Jvm.Pilot.@@N@@
