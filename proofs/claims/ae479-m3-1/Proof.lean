import JvmDerived
import JvmDerived.Pilot.@@N@@Statement
import JvmDerived.Pilot.@@N@@Code
set_option linter.unusedVariables false
set_option linter.unusedSimpArgs false
namespace Jvm.RoadKit
open Sem ClassFile Op Lib Jvm.Stand Jvm.Free Jvm.LawKit
section New
variable {p : Program} {l : Launch} {e : Env} {R : Room} {s : State} {m : MethodId} {args : Array Value} {below : List Frame} {meth : Method} {c : Code} {T : State} {locs : List Loc} {cells slots : Nat}
theorem retI (X : Stand p l e R s m args below meth c T locs cells slots) (hx : p.tables.exec = Jvm.exec) {pc : Nat} {Ls : Array Slot} {z : Int32} {rest : List Value} (hret : meth.sig.returnType = some .int) (hd : decode c.code pc = .ok (.ireturn, 1)) {fs : List Frame}
    (hl : ∀ (f : JFrame) (acts : List Action), f.method = m → f.locked = none → f.entered = [] → (doReturn e (T.setTop f) acts (some (.int z))).1 = T.setFrames fs) : Steps p.tables e below (T.setTop (mkF m pc Ls (.int z :: rest))) (T.setFrames fs) := by
  have hm' : T.vm.method? m = some meth := X.method'
  have hn : narrow .int (.int z) = .int z := rfl
  show Steps p.tables e below (T.setTop { method := m, pc := pc, locals := Ls, stack := _ :: rest, locked := none }) _
  jvm_step X.here [X.here.top, hx, hd, hm', hret, hn]
  first | (intro acts; rw [hl _ acts rfl rfl rfl]) | rw [hl _ _ rfl rfl rfl]
  exact Steps.refl _
end New
end Jvm.RoadKit
@@BLOCK:NumsL.lean.txt@@
namespace Jvm.Pilot.@@N@@
open Jvm Jvm.ClassFile Sem Op Lib Jvm.Free Jvm.Stand Jvm.LawKit Jvm.RoadKit Bundle Jvm.Pilot.@@N@@.Jvm.D
theorem own_eqi {args : Array Value} {first s : State} {o : Option Outcome} {idx : List Nat} {t : Term} {k : Int32} (h : (Jvm.Cond.eq t (.int k)).value args first o s idx = some true) : t.eval args first o idx s = some (.int k) := by
  simp only [Cond.value, Term.eval] at h
  cases ht : t.eval args first o idx s with
  | none => simp [ht] at h
  | some x => cases x <;> simp [ht] at h ⊢; exact h
theorem own_eql {args : Array Value} {first s : State} {o : Option Outcome} {idx : List Nat} {t : Term} {k : Int64} (h : (Jvm.Cond.eq t (.long k)).value args first o s idx = some true) : t.eval args first o idx s = some (.long k) := by
  simp only [Cond.value, Term.eval] at h
  cases ht : t.eval args first o idx s with
  | none => simp [ht] at h
  | some x => cases x <;> simp [ht] at h ⊢; exact h
theorem own_eqr {args : Array Value} {first s : State} {o : Option Outcome} {idx : List Nat} {t u : Term} {a : Addr} (hu : u.eval args first o idx s = some (.ref a)) (h : (Jvm.Cond.eq t u).value args first o s idx = some true) : t.eval args first o idx s = some (.ref a) := by
  simp only [Cond.value, hu] at h
  cases ht : t.eval args first o idx s with
  | none => simp [ht] at h
  | some x => cases x <;> simp [ht] at h ⊢; exact h
theorem own_fld {args : Array Value} {s : State} {t : Term} {x : Addr} {C n d : String} {v : Value} (ht : t.eval args s none [] s = some (.ref x)) (h : (Term.field t C n d).eval args s none [] s = some v) : Fld s s.heap x C n d v := Fld.start ((fld_at ht).symm.trans h)
theorem own_exa_ns {Z : State} {h : Heap} {a : Addr} {C : String} (F : Exa Z h a C) : ∀ c : Cell, h[a]? = some c → c.vm.isStatics = false := fun c hc => by
  obtain ⟨cell, k, h1, -, -, h4, -⟩ := F
  cases h1.symm.trans hc
  exact h4
theorem own_sta_keep {Z : State} {h h' : Heap} {C n d : String} {v : Value} {ws : List Addr} (F : Sta Z h C n d v) (K : Keep h h' ws) (hn : ∀ x ∈ ws, ∀ c : Cell, h[x]? = some c → c.vm.isStatics = false) : Sta Z h' C n d v := by
  obtain ⟨cf, i, k, f, st, cell, h1, h2, h3, h4, h5, h6, h7⟩ := F
  refine ⟨cf, i, k, f, st, cell, h1, h2, h3, h4, K.2.1 st cell h5 (fun q => ?_), h6, h7⟩
  rw [hn st q cell h5] at h6
  cases h6
theorem own_len {args : Array Value} {s : State} {t : Term} {a : Addr} {c : Cell} {ty : FieldType} {k : Int32} (ev : t.eval args s none [] s = some (.ref a)) (A : Arr s s.heap a c ty) (h : (Jvm.Cond.eq (.length t) (.int k)).value args s none s [] = some true) : c.slots.size < 2 ^ 31 ∧ c.slots.size.toInt32 = k := by
  have e := own_eqi h
  have q := A.fin (Vm.Alike.refl _)
  by_cases hl : c.slots.size < 2 ^ 31
  · rw [len_f ev q hl] at e
    exact ⟨hl, Value.int.inj (Option.some.inj e)⟩
  · simp [Term.eval, ev, q, hl] at e
theorem own_elem {args : Array Value} {s : State} {t : Term} {a : Addr} {c : Cell} {j v : Int32} (ev : t.eval args s none [] s = some (.ref a)) (hc : s.heap[a]? = some c) (h : (Jvm.Cond.eq (.elem t (.int j)) (.int v)).value args s none s [] = some true) : c.slots[j.toNatClampNeg]? = some (.int v) :=
  (elem_in (own_eqi h) ev (Term.int_eval j) hc).2
def own_EL : List (String × Nat) := [("com/example/querent/querent/jpql/ArithmeticOperatorIsAdditivePinLaw", 32), ("com/example/querent/querent/jpql/ArithmeticOperatorIsAdditivePinLaw", 40)]
theorem own_EW {a0 : Array Value} {Z : State} (hw : ∀ d ∈ tables_1, d.before a0 Z = true) : EW Z a0 own_EL := EW.cons (hw _ (List.mem_of_getElem? (i := 14) rfl)) (by decide) (EW.cons (hw _ (List.mem_of_getElem? (i := 44) rfl)) (by decide) EW.nil)
theorem own_fun {Z : State} {h : Heap} {a : Addr} {C n d : String} {v w : Value} (F : Fld Z h a C n d v) (G : Fld Z h a C n d w) : v = w := by
  apply Classical.byContradiction
  intro q
  exact F.ne G q rfl
theorem own_nes {Z : State} {h : Heap} {a b d e : Addr} {k k' : ClassId} {x y : Int32} (F : Fld Z h a "java/lang/String" "value" "[B" (.ref d)) (G : Fld Z h b "java/lang/String" "value" "[B" (.ref e)) (V1 : Arv Z h d k .byte (1 : Int32) [.int x] (.int (0 : Int32))) (V2 : Arv Z h e k' .byte (1 : Int32) [.int y] (.int (0 : Int32))) (hxy : x ≠ y) : a ≠ b := fun q => by
  subst q
  have q2 : d = e := Value.ref.inj (own_fun F G)
  subst q2
  obtain ⟨c1, A1, -, S1, -, H1, -⟩ := V1
  obtain ⟨c2, A2, -, S2, -, H2, -⟩ := V2
  have hc : c1 = c2 := Option.some.inj (A1.1.symm.trans A2.1)
  subst hc
  have l0 : 0 < c1.slots.size := by rw [S1]; decide
  have e1 := H1 0 l0
  have e2 := H2 0 l0
  rw [e1] at e2
  exact hxy (Value.int.inj (Option.some.inj e2))
theorem own_and3 (x : Int32) : x &&& (3 : Int32) = 0 ∨ x &&& (3 : Int32) = 1 ∨ x &&& (3 : Int32) = 2 ∨ x &&& (3 : Int32) = 3 := by
  have e : (x &&& (3 : Int32)).toInt = x.toInt % 2 ^ 2 := Jvm.Kit.i32_mask x 3 (k := 2) (by decide) (by decide)
  simp only [← Int32.toInt_inj]
  generalize (x &&& (3 : Int32)).toInt = z at *
  have q : z = 0 ∨ z = 1 ∨ z = 2 ∨ z = 3 := by omega
  rcases q with rfl | rfl | rfl | rfl <;> decide
theorem own_wS {a0 : Array Value} {Z : State} (hw : ∀ d ∈ tables_1, d.before a0 Z = true) : ∀ a ∈ Bundle.stringAtoms, a.before a0 Z = true := by
  intro a ha
  simp only [Bundle.stringAtoms, List.mem_cons, List.not_mem_nil, or_false] at ha
  rcases ha with rfl | rfl | rfl | rfl | rfl | rfl | rfl
  · exact (hw _ (List.mem_of_getElem? (i := 15) rfl))
  · exact (hw _ (List.mem_of_getElem? (i := 16) rfl))
  · exact (hw _ (List.mem_of_getElem? (i := 17) rfl))
  · exact (hw _ (List.mem_of_getElem? (i := 18) rfl))
  · exact (hw _ (List.mem_of_getElem? (i := 19) rfl))
  · exact (hw _ (List.mem_of_getElem? (i := 20) rfl))
  · exact (hw _ (List.mem_of_getElem? (i := 21) rfl))
theorem d_method_2_0 : decode method_2_code 0 = .ok (.iload_n 0, 1) := by decide +kernel
theorem d_method_2_1 : decode method_2_code 1 = .ok (.ifCond .ne 7, 3) := by decide +kernel
theorem d_method_2_4 : decode method_2_code 4 = .ok (.getstatic 7, 3) := by decide +kernel
theorem d_method_2_7 : decode method_2_code 7 = .ok (.areturn, 1) := by decide +kernel
theorem pn_0 : plainName "com/example/querent/querent/jpql/ArithmeticOperatorIsAdditivePinLaw" = true := by first | (simp [plainName, overriddenIn]; done) | decide +kernel
theorem ef_pick0 (mM : MethodId) (x0 : Int32) : entryFrame mM #[(.int x0)] 1 = mkF mM 0 #[.val (.int x0)] [] := by first | (simp [entryFrame, mkF, argsToLocals, Value.category]; done) | rfl
def Q_pick0 (Z : State) (r : Addr) (h0 : Heap) (n0 : Nat) (v_ : Option Value) (h_ : Heap) (L_ : List Loc) : Prop := v_ = some (.ref r) ∧ Fr n0 L_ ∧ h_ = h0
set_option maxRecDepth 65536 in
set_option maxHeartbeats 40000000 in
theorem rm_pick0 (l : Launch) (Z : State) (a0 : Array Value) (hw : ∀ d ∈ tables_1, d.before a0 Z = true) (ws : List Jvm.Cond) (r : Addr) (h0 : Heap) (n0 : Nat) (Z0 : n0 ≤ h0.size) (S_ArithmeticOperator_ADD : Sta Z h0 "com/example/querent/querent/jpql/ArithmeticOperator" "ADD" "Lcom/example/querent/querent/jpql/ArithmeticOperator;" (.ref r)) :
    MetFree l (⟨"com/example/querent/querent/jpql/ArithmeticOperatorIsAdditivePinLaw", "pick", "(I)Lcom/example/querent/querent/jpql/ArithmeticOperator;"⟩ : MethodName) (head1 (Jvm.Cond.code (⟨"com/example/querent/querent/jpql/ArithmeticOperatorIsAdditivePinLaw", "pick", "(I)Lcom/example/querent/querent/jpql/ArithmeticOperator;"⟩ : MethodName) method_2_code 1 (some (.object "com/example/querent/querent/jpql/ArithmeticOperator")) :: ws) ({ frames := 0, cells := 0, slots := 0, locals := 0 } : Room)) (fun aa_ U_ => aa_ = #[(.int (0 : Int32))] ∧ Z.Warmed39 U_.vm ∧ U_.heap = h0) (fun _ _ _ _ _ => True) (fun _ U_ o_ U'_ => ∃ v_ L_, o_ = .returned v_ ∧ Q_pick0 Z r h0 n0 v_ U'_.heap L_ ∧ FrameEnd U_ o_ U'_ L_ ({ frames := 0, cells := 0, slots := 0, locals := 0 } : Room).cells ({ frames := 0, cells := 0, slots := 0, locals := 0 } : Room).slots) := by
  refine MetFree.of_bodySF (plainFor_of_name pn_0) hisR ?_
  intro pP eE sS mM argsA below meth cC s₁ Bd hml0 hP hK
  obtain ⟨rfl, hZ, hh⟩ := hP
  have hx := Bd.exec
  have hby := Bd.bytes
  have hml : cC.maxLocals = 1 := hml0
  have hown : sS.vm.findClass "com/example/querent/querent/jpql/ArithmeticOperatorIsAdditivePinLaw" = some mM.cls := findClass_of_methodNamed Bd.named
  have hnm := (name_of_methodNamed Bd.named Bd.method).1
  have X0 : Stand pP l eE ({ frames := 0, cells := 0, slots := 0, locals := 0 } : Room) sS mM #[(.int (0 : Int32))] below meth cC s₁ [] 0 0 := Stand.of_body Bd
  have e0 : s₁.heap = h0 := by rw [← hh, Bd.state]; rfl
  have N0 := Fr.nil n0
  have pre0 : ∀ t_, Steps pP.tables eE below (s₁.setTop (mkF mM 0 #[.val (.int (0 : Int32))] [])) t_ → Steps pP.tables eE below (s₁.setTop (entryFrame mM #[(.int (0 : Int32))] 1)) t_ := fun t_ k_ => castTop (ef_pick0 mM (0 : Int32)) k_
  obtain ⟨T_1, X_1, e_1, st_1⟩ := getS2 X0 hx hZ hown (host := "") (Or.inl (hw _ (List.mem_of_getElem? (i := 4) rfl))) Via.refl e0 S_ArithmeticOperator_ADD (g := (mkF mM 4 #[.val (.int (0 : Int32))] [])) rfl (hb hby d_method_2_4)
  obtain ⟨fs, hr, hrun, hended, hW, hsame⟩ := X_1.leave (v := some (.ref r)) (fun h => by rw [Bd.returns] at h; cases h)
  refine ⟨_, _, pre0 _ ?_, hrun, hended, _, _, rfl, ?_, ⟨_, rfl⟩, hW, hsame.mono (by decide) (by decide)⟩
  · show Steps pP.tables eE below (s₁.setTop (mkF mM 0 #[.val (.int (0 : Int32))] [])) _
    refine XS.iloadN X0.here hx rfl (hb hby d_method_2_0) rfl ?_
    show Steps pP.tables eE below (s₁.setTop (mkF mM 1 #[.val (.int (0 : Int32))] [(.int (0 : Int32))])) _
    refine XS.ifNo X0.here hx rfl (hb hby d_method_2_1) rfl (by decide) ?_
    show Steps pP.tables eE below (s₁.setTop (mkF mM 4 #[.val (.int (0 : Int32))] [])) _
    refine st_1 _ ?_
    show Steps pP.tables eE below (T_1.setTop (mkF mM 7 #[.val (.int (0 : Int32))] [(.ref r)])) _
    exact retOut X_1 hx Bd.returns rfl (Or.inr (Or.inr (Or.inr (Or.inr ⟨rfl, rfl, rfl⟩)))) (hb hby d_method_2_7) hr
  · show Q_pick0 Z r h0 n0 _ T_1.heap _
    rw [e_1]
    exact ⟨rfl, N0, rfl⟩
theorem d_method_2_8 : decode method_2_code 8 = .ok (.iload_n 0, 1) := by decide +kernel
theorem d_method_2_9 : decode method_2_code 9 = .ok (.iconst 1, 1) := by decide +kernel
theorem d_method_2_10 : decode method_2_code 10 = .ok (.if_icmp .ne 7, 3) := by decide +kernel
theorem d_method_2_13 : decode method_2_code 13 = .ok (.getstatic 13, 3) := by decide +kernel
theorem d_method_2_16 : decode method_2_code 16 = .ok (.areturn, 1) := by decide +kernel
theorem ef_pick1 (mM : MethodId) (x0 : Int32) : entryFrame mM #[(.int x0)] 1 = mkF mM 0 #[.val (.int x0)] [] := by first | (simp [entryFrame, mkF, argsToLocals, Value.category]; done) | rfl
def Q_pick1 (Z : State) (r : Addr) (h0 : Heap) (n0 : Nat) (v_ : Option Value) (h_ : Heap) (L_ : List Loc) : Prop := v_ = some (.ref r) ∧ Fr n0 L_ ∧ h_ = h0
set_option maxRecDepth 65536 in
set_option maxHeartbeats 40000000 in
theorem rm_pick1 (l : Launch) (Z : State) (a0 : Array Value) (hw : ∀ d ∈ tables_1, d.before a0 Z = true) (ws : List Jvm.Cond) (r : Addr) (h0 : Heap) (n0 : Nat) (Z0 : n0 ≤ h0.size) (S_ArithmeticOperator_SUBTRACT : Sta Z h0 "com/example/querent/querent/jpql/ArithmeticOperator" "SUBTRACT" "Lcom/example/querent/querent/jpql/ArithmeticOperator;" (.ref r)) :
    MetFree l (⟨"com/example/querent/querent/jpql/ArithmeticOperatorIsAdditivePinLaw", "pick", "(I)Lcom/example/querent/querent/jpql/ArithmeticOperator;"⟩ : MethodName) (head1 (Jvm.Cond.code (⟨"com/example/querent/querent/jpql/ArithmeticOperatorIsAdditivePinLaw", "pick", "(I)Lcom/example/querent/querent/jpql/ArithmeticOperator;"⟩ : MethodName) method_2_code 1 (some (.object "com/example/querent/querent/jpql/ArithmeticOperator")) :: ws) ({ frames := 0, cells := 0, slots := 0, locals := 0 } : Room)) (fun aa_ U_ => aa_ = #[(.int (1 : Int32))] ∧ Z.Warmed39 U_.vm ∧ U_.heap = h0) (fun _ _ _ _ _ => True) (fun _ U_ o_ U'_ => ∃ v_ L_, o_ = .returned v_ ∧ Q_pick1 Z r h0 n0 v_ U'_.heap L_ ∧ FrameEnd U_ o_ U'_ L_ ({ frames := 0, cells := 0, slots := 0, locals := 0 } : Room).cells ({ frames := 0, cells := 0, slots := 0, locals := 0 } : Room).slots) := by
  refine MetFree.of_bodySF (plainFor_of_name pn_0) hisR ?_
  intro pP eE sS mM argsA below meth cC s₁ Bd hml0 hP hK
  obtain ⟨rfl, hZ, hh⟩ := hP
  have hx := Bd.exec
  have hby := Bd.bytes
  have hml : cC.maxLocals = 1 := hml0
  have hown : sS.vm.findClass "com/example/querent/querent/jpql/ArithmeticOperatorIsAdditivePinLaw" = some mM.cls := findClass_of_methodNamed Bd.named
  have hnm := (name_of_methodNamed Bd.named Bd.method).1
  have X0 : Stand pP l eE ({ frames := 0, cells := 0, slots := 0, locals := 0 } : Room) sS mM #[(.int (1 : Int32))] below meth cC s₁ [] 0 0 := Stand.of_body Bd
  have e0 : s₁.heap = h0 := by rw [← hh, Bd.state]; rfl
  have N0 := Fr.nil n0
  have pre0 : ∀ t_, Steps pP.tables eE below (s₁.setTop (mkF mM 0 #[.val (.int (1 : Int32))] [])) t_ → Steps pP.tables eE below (s₁.setTop (entryFrame mM #[(.int (1 : Int32))] 1)) t_ := fun t_ k_ => castTop (ef_pick1 mM (1 : Int32)) k_
  obtain ⟨T_1, X_1, e_1, st_1⟩ := getS2 X0 hx hZ hown (host := "") (Or.inl (hw _ (List.mem_of_getElem? (i := 49) rfl))) Via.refl e0 S_ArithmeticOperator_SUBTRACT (g := (mkF mM 13 #[.val (.int (1 : Int32))] [])) rfl (hb hby d_method_2_13)
  obtain ⟨fs, hr, hrun, hended, hW, hsame⟩ := X_1.leave (v := some (.ref r)) (fun h => by rw [Bd.returns] at h; cases h)
  refine ⟨_, _, pre0 _ ?_, hrun, hended, _, _, rfl, ?_, ⟨_, rfl⟩, hW, hsame.mono (by decide) (by decide)⟩
  · show Steps pP.tables eE below (s₁.setTop (mkF mM 0 #[.val (.int (1 : Int32))] [])) _
    refine XS.iloadN X0.here hx rfl (hb hby d_method_2_0) rfl ?_
    show Steps pP.tables eE below (s₁.setTop (mkF mM 1 #[.val (.int (1 : Int32))] [(.int (1 : Int32))])) _
    refine XS.ifYes X0.here hx rfl (pc0 := 1) (pc' := 8) rfl (hb hby d_method_2_1) rfl (by decide) (by decide) (by decide) ?_
    show Steps pP.tables eE below (s₁.setTop (mkF mM 8 #[.val (.int (1 : Int32))] [])) _
    refine XS.iloadN X0.here hx rfl (hb hby d_method_2_8) rfl ?_
    show Steps pP.tables eE below (s₁.setTop (mkF mM 9 #[.val (.int (1 : Int32))] [(.int (1 : Int32))])) _
    refine XS.iconst X0.here hx rfl (hb hby d_method_2_9) ?_
    show Steps pP.tables eE below (s₁.setTop (mkF mM 10 #[.val (.int (1 : Int32))] [(.int (1 : Int32)), (.int (1 : Int32))])) _
    refine XS.icmpNo X0.here hx rfl (hb hby d_method_2_10) rfl (by decide) ?_
    show Steps pP.tables eE below (s₁.setTop (mkF mM 13 #[.val (.int (1 : Int32))] [])) _
    refine st_1 _ ?_
    show Steps pP.tables eE below (T_1.setTop (mkF mM 16 #[.val (.int (1 : Int32))] [(.ref r)])) _
    exact retOut X_1 hx Bd.returns rfl (Or.inr (Or.inr (Or.inr (Or.inr ⟨rfl, rfl, rfl⟩)))) (hb hby d_method_2_16) hr
  · show Q_pick1 Z r h0 n0 _ T_1.heap _
    rw [e_1]
    exact ⟨rfl, N0, rfl⟩
theorem d_method_2_17 : decode method_2_code 17 = .ok (.iload_n 0, 1) := by decide +kernel
theorem d_method_2_18 : decode method_2_code 18 = .ok (.iconst 2, 1) := by decide +kernel
theorem d_method_2_19 : decode method_2_code 19 = .ok (.if_icmp .ne 7, 3) := by decide +kernel
theorem d_method_2_22 : decode method_2_code 22 = .ok (.getstatic 16, 3) := by decide +kernel
theorem d_method_2_25 : decode method_2_code 25 = .ok (.areturn, 1) := by decide +kernel
theorem ef_pick2 (mM : MethodId) (x0 : Int32) : entryFrame mM #[(.int x0)] 1 = mkF mM 0 #[.val (.int x0)] [] := by first | (simp [entryFrame, mkF, argsToLocals, Value.category]; done) | rfl
def Q_pick2 (Z : State) (r : Addr) (h0 : Heap) (n0 : Nat) (v_ : Option Value) (h_ : Heap) (L_ : List Loc) : Prop := v_ = some (.ref r) ∧ Fr n0 L_ ∧ h_ = h0
set_option maxRecDepth 65536 in
set_option maxHeartbeats 40000000 in
theorem rm_pick2 (l : Launch) (Z : State) (a0 : Array Value) (hw : ∀ d ∈ tables_1, d.before a0 Z = true) (ws : List Jvm.Cond) (r : Addr) (h0 : Heap) (n0 : Nat) (Z0 : n0 ≤ h0.size) (S_ArithmeticOperator_MULTIPLY : Sta Z h0 "com/example/querent/querent/jpql/ArithmeticOperator" "MULTIPLY" "Lcom/example/querent/querent/jpql/ArithmeticOperator;" (.ref r)) :
    MetFree l (⟨"com/example/querent/querent/jpql/ArithmeticOperatorIsAdditivePinLaw", "pick", "(I)Lcom/example/querent/querent/jpql/ArithmeticOperator;"⟩ : MethodName) (head1 (Jvm.Cond.code (⟨"com/example/querent/querent/jpql/ArithmeticOperatorIsAdditivePinLaw", "pick", "(I)Lcom/example/querent/querent/jpql/ArithmeticOperator;"⟩ : MethodName) method_2_code 1 (some (.object "com/example/querent/querent/jpql/ArithmeticOperator")) :: ws) ({ frames := 0, cells := 0, slots := 0, locals := 0 } : Room)) (fun aa_ U_ => aa_ = #[(.int (2 : Int32))] ∧ Z.Warmed39 U_.vm ∧ U_.heap = h0) (fun _ _ _ _ _ => True) (fun _ U_ o_ U'_ => ∃ v_ L_, o_ = .returned v_ ∧ Q_pick2 Z r h0 n0 v_ U'_.heap L_ ∧ FrameEnd U_ o_ U'_ L_ ({ frames := 0, cells := 0, slots := 0, locals := 0 } : Room).cells ({ frames := 0, cells := 0, slots := 0, locals := 0 } : Room).slots) := by
  refine MetFree.of_bodySF (plainFor_of_name pn_0) hisR ?_
  intro pP eE sS mM argsA below meth cC s₁ Bd hml0 hP hK
  obtain ⟨rfl, hZ, hh⟩ := hP
  have hx := Bd.exec
  have hby := Bd.bytes
  have hml : cC.maxLocals = 1 := hml0
  have hown : sS.vm.findClass "com/example/querent/querent/jpql/ArithmeticOperatorIsAdditivePinLaw" = some mM.cls := findClass_of_methodNamed Bd.named
  have hnm := (name_of_methodNamed Bd.named Bd.method).1
  have X0 : Stand pP l eE ({ frames := 0, cells := 0, slots := 0, locals := 0 } : Room) sS mM #[(.int (2 : Int32))] below meth cC s₁ [] 0 0 := Stand.of_body Bd
  have e0 : s₁.heap = h0 := by rw [← hh, Bd.state]; rfl
  have N0 := Fr.nil n0
  have pre0 : ∀ t_, Steps pP.tables eE below (s₁.setTop (mkF mM 0 #[.val (.int (2 : Int32))] [])) t_ → Steps pP.tables eE below (s₁.setTop (entryFrame mM #[(.int (2 : Int32))] 1)) t_ := fun t_ k_ => castTop (ef_pick2 mM (2 : Int32)) k_
  obtain ⟨T_1, X_1, e_1, st_1⟩ := getS2 X0 hx hZ hown (host := "") (Or.inl (hw _ (List.mem_of_getElem? (i := 47) rfl))) Via.refl e0 S_ArithmeticOperator_MULTIPLY (g := (mkF mM 22 #[.val (.int (2 : Int32))] [])) rfl (hb hby d_method_2_22)
  obtain ⟨fs, hr, hrun, hended, hW, hsame⟩ := X_1.leave (v := some (.ref r)) (fun h => by rw [Bd.returns] at h; cases h)
  refine ⟨_, _, pre0 _ ?_, hrun, hended, _, _, rfl, ?_, ⟨_, rfl⟩, hW, hsame.mono (by decide) (by decide)⟩
  · show Steps pP.tables eE below (s₁.setTop (mkF mM 0 #[.val (.int (2 : Int32))] [])) _
    refine XS.iloadN X0.here hx rfl (hb hby d_method_2_0) rfl ?_
    show Steps pP.tables eE below (s₁.setTop (mkF mM 1 #[.val (.int (2 : Int32))] [(.int (2 : Int32))])) _
    refine XS.ifYes X0.here hx rfl (pc0 := 1) (pc' := 8) rfl (hb hby d_method_2_1) rfl (by decide) (by decide) (by decide) ?_
    show Steps pP.tables eE below (s₁.setTop (mkF mM 8 #[.val (.int (2 : Int32))] [])) _
    refine XS.iloadN X0.here hx rfl (hb hby d_method_2_8) rfl ?_
    show Steps pP.tables eE below (s₁.setTop (mkF mM 9 #[.val (.int (2 : Int32))] [(.int (2 : Int32))])) _
    refine XS.iconst X0.here hx rfl (hb hby d_method_2_9) ?_
    show Steps pP.tables eE below (s₁.setTop (mkF mM 10 #[.val (.int (2 : Int32))] [(.int (1 : Int32)), (.int (2 : Int32))])) _
    refine XS.icmpYes X0.here hx rfl (pc0 := 10) (pc' := 17) rfl (hb hby d_method_2_10) rfl (by decide) (by decide) (by decide) ?_
    show Steps pP.tables eE below (s₁.setTop (mkF mM 17 #[.val (.int (2 : Int32))] [])) _
    refine XS.iloadN X0.here hx rfl (hb hby d_method_2_17) rfl ?_
    show Steps pP.tables eE below (s₁.setTop (mkF mM 18 #[.val (.int (2 : Int32))] [(.int (2 : Int32))])) _
    refine XS.iconst X0.here hx rfl (hb hby d_method_2_18) ?_
    show Steps pP.tables eE below (s₁.setTop (mkF mM 19 #[.val (.int (2 : Int32))] [(.int (2 : Int32)), (.int (2 : Int32))])) _
    refine XS.icmpNo X0.here hx rfl (hb hby d_method_2_19) rfl (by decide) ?_
    show Steps pP.tables eE below (s₁.setTop (mkF mM 22 #[.val (.int (2 : Int32))] [])) _
    refine st_1 _ ?_
    show Steps pP.tables eE below (T_1.setTop (mkF mM 25 #[.val (.int (2 : Int32))] [(.ref r)])) _
    exact retOut X_1 hx Bd.returns rfl (Or.inr (Or.inr (Or.inr (Or.inr ⟨rfl, rfl, rfl⟩)))) (hb hby d_method_2_25) hr
  · show Q_pick2 Z r h0 n0 _ T_1.heap _
    rw [e_1]
    exact ⟨rfl, N0, rfl⟩
theorem d_method_2_26 : decode method_2_code 26 = .ok (.getstatic 19, 3) := by decide +kernel
theorem d_method_2_29 : decode method_2_code 29 = .ok (.areturn, 1) := by decide +kernel
theorem ef_pick3 (mM : MethodId) (x0 : Int32) : entryFrame mM #[(.int x0)] 1 = mkF mM 0 #[.val (.int x0)] [] := by first | (simp [entryFrame, mkF, argsToLocals, Value.category]; done) | rfl
def Q_pick3 (Z : State) (r : Addr) (h0 : Heap) (n0 : Nat) (v_ : Option Value) (h_ : Heap) (L_ : List Loc) : Prop := v_ = some (.ref r) ∧ Fr n0 L_ ∧ h_ = h0
set_option maxRecDepth 65536 in
set_option maxHeartbeats 40000000 in
theorem rm_pick3 (l : Launch) (Z : State) (a0 : Array Value) (hw : ∀ d ∈ tables_1, d.before a0 Z = true) (ws : List Jvm.Cond) (r : Addr) (h0 : Heap) (n0 : Nat) (Z0 : n0 ≤ h0.size) (S_ArithmeticOperator_DIVIDE : Sta Z h0 "com/example/querent/querent/jpql/ArithmeticOperator" "DIVIDE" "Lcom/example/querent/querent/jpql/ArithmeticOperator;" (.ref r)) :
    MetFree l (⟨"com/example/querent/querent/jpql/ArithmeticOperatorIsAdditivePinLaw", "pick", "(I)Lcom/example/querent/querent/jpql/ArithmeticOperator;"⟩ : MethodName) (head1 (Jvm.Cond.code (⟨"com/example/querent/querent/jpql/ArithmeticOperatorIsAdditivePinLaw", "pick", "(I)Lcom/example/querent/querent/jpql/ArithmeticOperator;"⟩ : MethodName) method_2_code 1 (some (.object "com/example/querent/querent/jpql/ArithmeticOperator")) :: ws) ({ frames := 0, cells := 0, slots := 0, locals := 0 } : Room)) (fun aa_ U_ => aa_ = #[(.int (3 : Int32))] ∧ Z.Warmed39 U_.vm ∧ U_.heap = h0) (fun _ _ _ _ _ => True) (fun _ U_ o_ U'_ => ∃ v_ L_, o_ = .returned v_ ∧ Q_pick3 Z r h0 n0 v_ U'_.heap L_ ∧ FrameEnd U_ o_ U'_ L_ ({ frames := 0, cells := 0, slots := 0, locals := 0 } : Room).cells ({ frames := 0, cells := 0, slots := 0, locals := 0 } : Room).slots) := by
  refine MetFree.of_bodySF (plainFor_of_name pn_0) hisR ?_
  intro pP eE sS mM argsA below meth cC s₁ Bd hml0 hP hK
  obtain ⟨rfl, hZ, hh⟩ := hP
  have hx := Bd.exec
  have hby := Bd.bytes
  have hml : cC.maxLocals = 1 := hml0
  have hown : sS.vm.findClass "com/example/querent/querent/jpql/ArithmeticOperatorIsAdditivePinLaw" = some mM.cls := findClass_of_methodNamed Bd.named
  have hnm := (name_of_methodNamed Bd.named Bd.method).1
  have X0 : Stand pP l eE ({ frames := 0, cells := 0, slots := 0, locals := 0 } : Room) sS mM #[(.int (3 : Int32))] below meth cC s₁ [] 0 0 := Stand.of_body Bd
  have e0 : s₁.heap = h0 := by rw [← hh, Bd.state]; rfl
  have N0 := Fr.nil n0
  have pre0 : ∀ t_, Steps pP.tables eE below (s₁.setTop (mkF mM 0 #[.val (.int (3 : Int32))] [])) t_ → Steps pP.tables eE below (s₁.setTop (entryFrame mM #[(.int (3 : Int32))] 1)) t_ := fun t_ k_ => castTop (ef_pick3 mM (3 : Int32)) k_
  obtain ⟨T_1, X_1, e_1, st_1⟩ := getS2 X0 hx hZ hown (host := "") (Or.inl (hw _ (List.mem_of_getElem? (i := 42) rfl))) Via.refl e0 S_ArithmeticOperator_DIVIDE (g := (mkF mM 26 #[.val (.int (3 : Int32))] [])) rfl (hb hby d_method_2_26)
  obtain ⟨fs, hr, hrun, hended, hW, hsame⟩ := X_1.leave (v := some (.ref r)) (fun h => by rw [Bd.returns] at h; cases h)
  refine ⟨_, _, pre0 _ ?_, hrun, hended, _, _, rfl, ?_, ⟨_, rfl⟩, hW, hsame.mono (by decide) (by decide)⟩
  · show Steps pP.tables eE below (s₁.setTop (mkF mM 0 #[.val (.int (3 : Int32))] [])) _
    refine XS.iloadN X0.here hx rfl (hb hby d_method_2_0) rfl ?_
    show Steps pP.tables eE below (s₁.setTop (mkF mM 1 #[.val (.int (3 : Int32))] [(.int (3 : Int32))])) _
    refine XS.ifYes X0.here hx rfl (pc0 := 1) (pc' := 8) rfl (hb hby d_method_2_1) rfl (by decide) (by decide) (by decide) ?_
    show Steps pP.tables eE below (s₁.setTop (mkF mM 8 #[.val (.int (3 : Int32))] [])) _
    refine XS.iloadN X0.here hx rfl (hb hby d_method_2_8) rfl ?_
    show Steps pP.tables eE below (s₁.setTop (mkF mM 9 #[.val (.int (3 : Int32))] [(.int (3 : Int32))])) _
    refine XS.iconst X0.here hx rfl (hb hby d_method_2_9) ?_
    show Steps pP.tables eE below (s₁.setTop (mkF mM 10 #[.val (.int (3 : Int32))] [(.int (1 : Int32)), (.int (3 : Int32))])) _
    refine XS.icmpYes X0.here hx rfl (pc0 := 10) (pc' := 17) rfl (hb hby d_method_2_10) rfl (by decide) (by decide) (by decide) ?_
    show Steps pP.tables eE below (s₁.setTop (mkF mM 17 #[.val (.int (3 : Int32))] [])) _
    refine XS.iloadN X0.here hx rfl (hb hby d_method_2_17) rfl ?_
    show Steps pP.tables eE below (s₁.setTop (mkF mM 18 #[.val (.int (3 : Int32))] [(.int (3 : Int32))])) _
    refine XS.iconst X0.here hx rfl (hb hby d_method_2_18) ?_
    show Steps pP.tables eE below (s₁.setTop (mkF mM 19 #[.val (.int (3 : Int32))] [(.int (2 : Int32)), (.int (3 : Int32))])) _
    refine XS.icmpYes X0.here hx rfl (pc0 := 19) (pc' := 26) rfl (hb hby d_method_2_19) rfl (by decide) (by decide) (by decide) ?_
    show Steps pP.tables eE below (s₁.setTop (mkF mM 26 #[.val (.int (3 : Int32))] [])) _
    refine st_1 _ ?_
    show Steps pP.tables eE below (T_1.setTop (mkF mM 29 #[.val (.int (3 : Int32))] [(.ref r)])) _
    exact retOut X_1 hx Bd.returns rfl (Or.inr (Or.inr (Or.inr (Or.inr ⟨rfl, rfl, rfl⟩)))) (hb hby d_method_2_29) hr
  · show Q_pick3 Z r h0 n0 _ T_1.heap _
    rw [e_1]
    exact ⟨rfl, N0, rfl⟩
theorem d_prog_71m4_0 : decode prog_71_method_4_code 0 = .ok (.aload_n 0, 1) := by decide +kernel
theorem d_prog_71m4_1 : decode prog_71_method_4_code 1 = .ok (.getfield 35, 3) := by decide +kernel
theorem d_prog_71m4_4 : decode prog_71_method_4_code 4 = .ok (.areturn, 1) := by decide +kernel
theorem pn_1 : plainName "com/example/querent/querent/jpql/ArithmeticOperator" = true := by first | (simp [plainName, overriddenIn]; done) | decide +kernel
theorem ef_sym (mM : MethodId) (x0 : Addr) : entryFrame mM #[(.ref x0)] 1 = mkF mM 0 #[.val (.ref x0)] [] := by first | (simp [entryFrame, mkF, argsToLocals, Value.category]; done) | rfl
def Q_sym (Z : State) (a : Addr) (w : Addr) (h0 : Heap) (n0 : Nat) (v_ : Option Value) (h_ : Heap) (L_ : List Loc) : Prop := v_ = some (.ref w) ∧ Fr n0 L_ ∧ h_ = h0
set_option maxRecDepth 65536 in
set_option maxHeartbeats 40000000 in
theorem rm_sym (l : Launch) (Z : State) (a0 : Array Value) (hw : ∀ d ∈ tables_1, d.before a0 Z = true) (ws : List Jvm.Cond) (a : Addr) (w : Addr) (h0 : Heap) (n0 : Nat) (Z0 : n0 ≤ h0.size) (F_symbol_a : Fld Z h0 a "com/example/querent/querent/jpql/ArithmeticOperator" "symbol" "Ljava/lang/String;" (.ref w)) :
    MetFree l (⟨"com/example/querent/querent/jpql/ArithmeticOperator", "symbol", "()Ljava/lang/String;"⟩ : MethodName) (head1 (Jvm.Cond.code (⟨"com/example/querent/querent/jpql/ArithmeticOperator", "symbol", "()Ljava/lang/String;"⟩ : MethodName) prog_71_method_4_code 1 (some (.object "java/lang/String")) :: ws) ({ frames := 0, cells := 0, slots := 0, locals := 0 } : Room)) (fun aa_ U_ => aa_ = #[(.ref a)] ∧ Z.Warmed39 U_.vm ∧ U_.heap = h0) (fun _ _ _ _ _ => True) (fun _ U_ o_ U'_ => ∃ v_ L_, o_ = .returned v_ ∧ Q_sym Z a w h0 n0 v_ U'_.heap L_ ∧ FrameEnd U_ o_ U'_ L_ ({ frames := 0, cells := 0, slots := 0, locals := 0 } : Room).cells ({ frames := 0, cells := 0, slots := 0, locals := 0 } : Room).slots) := by
  refine MetFree.of_bodySF (plainFor_of_name pn_1) hisR ?_
  intro pP eE sS mM argsA below meth cC s₁ Bd hml0 hP hK
  obtain ⟨rfl, hZ, hh⟩ := hP
  have hx := Bd.exec
  have hby := Bd.bytes
  have hml : cC.maxLocals = 1 := hml0
  have hown : sS.vm.findClass "com/example/querent/querent/jpql/ArithmeticOperator" = some mM.cls := findClass_of_methodNamed Bd.named
  have hnm := (name_of_methodNamed Bd.named Bd.method).1
  have X0 : Stand pP l eE ({ frames := 0, cells := 0, slots := 0, locals := 0 } : Room) sS mM #[(.ref a)] below meth cC s₁ [] 0 0 := Stand.of_body Bd
  have e0 : s₁.heap = h0 := by rw [← hh, Bd.state]; rfl
  have N0 := Fr.nil n0
  have pre0 : ∀ t_, Steps pP.tables eE below (s₁.setTop (mkF mM 0 #[.val (.ref a)] [])) t_ → Steps pP.tables eE below (s₁.setTop (entryFrame mM #[(.ref a)] 1)) t_ := fun t_ k_ => castTop (ef_sym mM a) k_
  obtain ⟨T_1, X_1, e_1, st_1⟩ := getF X0 hx hZ hown (host := "") (Or.inl (hw _ (List.mem_of_getElem? (i := 12) rfl))) Via.refl e0 F_symbol_a (g := (mkF mM 1 #[.val (.ref a)] [(.ref a)])) rfl rfl (hb hby d_prog_71m4_1)
  obtain ⟨fs, hr, hrun, hended, hW, hsame⟩ := X_1.leave (v := some (.ref w)) (fun h => by rw [Bd.returns] at h; cases h)
  refine ⟨_, _, pre0 _ ?_, hrun, hended, _, _, rfl, ?_, ⟨_, rfl⟩, hW, hsame.mono (by decide) (by decide)⟩
  · show Steps pP.tables eE below (s₁.setTop (mkF mM 0 #[.val (.ref a)] [])) _
    refine XS.aloadN X0.here hx rfl (hb hby d_prog_71m4_0) rfl rfl ?_
    show Steps pP.tables eE below (s₁.setTop (mkF mM 1 #[.val (.ref a)] [(.ref a)])) _
    refine st_1 _ ?_
    show Steps pP.tables eE below (T_1.setTop (mkF mM 4 #[.val (.ref a)] [(.ref w)])) _
    exact retOut X_1 hx Bd.returns rfl (Or.inr (Or.inr (Or.inr (Or.inr ⟨rfl, rfl, rfl⟩)))) (hb hby d_prog_71m4_4) hr
  · show Q_sym Z a w h0 n0 _ T_1.heap _
    rw [e_1]
    exact ⟨rfl, N0, rfl⟩
theorem d_prog_71m5_0 : decode prog_71_method_5_code 0 = .ok (.aload_n 0, 1) := by decide +kernel
theorem d_prog_71m5_1 : decode prog_71_method_5_code 1 = .ok (.getstatic 3, 3) := by decide +kernel
theorem d_prog_71m5_4 : decode prog_71_method_5_code 4 = .ok (.if_acmp .eq 10, 3) := by decide +kernel
theorem d_prog_71m5_14 : decode prog_71_method_5_code 14 = .ok (.iconst 1, 1) := by decide +kernel
theorem d_prog_71m5_15 : decode prog_71_method_5_code 15 = .ok (.goto 4, 3) := by decide +kernel
theorem d_prog_71m5_19 : decode prog_71_method_5_code 19 = .ok (.ireturn, 1) := by decide +kernel
theorem ef_isa0 (mM : MethodId) (x0 : Addr) : entryFrame mM #[(.ref x0)] 1 = mkF mM 0 #[.val (.ref x0)] [] := by first | (simp [entryFrame, mkF, argsToLocals, Value.category]; done) | rfl
def Q_isa0 (Z : State) (oa : Addr) (h0 : Heap) (n0 : Nat) (v_ : Option Value) (h_ : Heap) (L_ : List Loc) : Prop := v_ = some (.int (1 : Int32)) ∧ Fr n0 L_ ∧ h_ = h0
set_option maxRecDepth 65536 in
set_option maxHeartbeats 40000000 in
theorem rm_isa0 (l : Launch) (Z : State) (a0 : Array Value) (hw : ∀ d ∈ tables_1, d.before a0 Z = true) (ws : List Jvm.Cond) (oa : Addr) (h0 : Heap) (n0 : Nat) (Z0 : n0 ≤ h0.size) (S_ArithmeticOperator_ADD : Sta Z h0 "com/example/querent/querent/jpql/ArithmeticOperator" "ADD" "Lcom/example/querent/querent/jpql/ArithmeticOperator;" (.ref oa)) :
    MetFree l (⟨"com/example/querent/querent/jpql/ArithmeticOperator", "isAdditive", "()Z"⟩ : MethodName) (head1 (Jvm.Cond.code (⟨"com/example/querent/querent/jpql/ArithmeticOperator", "isAdditive", "()Z"⟩ : MethodName) prog_71_method_5_code 1 (some .boolean) :: ws) ({ frames := 0, cells := 0, slots := 0, locals := 0 } : Room)) (fun aa_ U_ => aa_ = #[(.ref oa)] ∧ Z.Warmed39 U_.vm ∧ U_.heap = h0) (fun _ _ _ _ _ => True) (fun _ U_ o_ U'_ => ∃ v_ L_, o_ = .returned v_ ∧ Q_isa0 Z oa h0 n0 v_ U'_.heap L_ ∧ FrameEnd U_ o_ U'_ L_ ({ frames := 0, cells := 0, slots := 0, locals := 0 } : Room).cells ({ frames := 0, cells := 0, slots := 0, locals := 0 } : Room).slots) := by
  refine MetFree.of_bodySF (plainFor_of_name pn_1) hisR ?_
  intro pP eE sS mM argsA below meth cC s₁ Bd hml0 hP hK
  obtain ⟨rfl, hZ, hh⟩ := hP
  have hx := Bd.exec
  have hby := Bd.bytes
  have hml : cC.maxLocals = 1 := hml0
  have hown : sS.vm.findClass "com/example/querent/querent/jpql/ArithmeticOperator" = some mM.cls := findClass_of_methodNamed Bd.named
  have hnm := (name_of_methodNamed Bd.named Bd.method).1
  have X0 : Stand pP l eE ({ frames := 0, cells := 0, slots := 0, locals := 0 } : Room) sS mM #[(.ref oa)] below meth cC s₁ [] 0 0 := Stand.of_body Bd
  have e0 : s₁.heap = h0 := by rw [← hh, Bd.state]; rfl
  have N0 := Fr.nil n0
  have pre0 : ∀ t_, Steps pP.tables eE below (s₁.setTop (mkF mM 0 #[.val (.ref oa)] [])) t_ → Steps pP.tables eE below (s₁.setTop (entryFrame mM #[(.ref oa)] 1)) t_ := fun t_ k_ => castTop (ef_isa0 mM oa) k_
  obtain ⟨T_1, X_1, e_1, st_1⟩ := getS2 X0 hx hZ hown (host := "") (Or.inl (hw _ (List.mem_of_getElem? (i := 41) rfl))) Via.refl e0 S_ArithmeticOperator_ADD (g := (mkF mM 1 #[.val (.ref oa)] [(.ref oa)])) rfl (hb hby d_prog_71m5_1)
  obtain ⟨fs, hr, hrun, hended, hW, hsame⟩ := X_1.leave (v := some (.int (1 : Int32))) (fun h => by rw [Bd.returns] at h; cases h)
  refine ⟨_, _, pre0 _ ?_, hrun, hended, _, _, rfl, ?_, ⟨_, rfl⟩, hW, hsame.mono (by decide) (by decide)⟩
  · show Steps pP.tables eE below (s₁.setTop (mkF mM 0 #[.val (.ref oa)] [])) _
    refine XS.aloadN X0.here hx rfl (hb hby d_prog_71m5_0) rfl rfl ?_
    show Steps pP.tables eE below (s₁.setTop (mkF mM 1 #[.val (.ref oa)] [(.ref oa)])) _
    refine st_1 _ ?_
    show Steps pP.tables eE below (T_1.setTop (mkF mM 4 #[.val (.ref oa)] [(.ref oa), (.ref oa)])) _
    refine Jvm.RoadKit.acmp (g := (mkF mM 4 #[.val (.ref oa)] [(.ref oa), (.ref oa)])) X_1 hx rfl rfl rfl (pc0 := 4) (pc' := 14) (same := true) rfl (hb hby d_prog_71m5_4) rfl (decide_eq_true rfl) (by decide) (by decide) ?_
    show Steps pP.tables eE below (T_1.setTop (mkF mM 14 #[.val (.ref oa)] [])) _
    refine XS.iconst X_1.here hx rfl (hb hby d_prog_71m5_14) ?_
    show Steps pP.tables eE below (T_1.setTop (mkF mM 15 #[.val (.ref oa)] [(.int (1 : Int32))])) _
    refine XS.goto X_1.here hx rfl (pc0 := 15) (pc' := 19) rfl (hb hby d_prog_71m5_15) (by decide) (by decide) ?_
    show Steps pP.tables eE below (T_1.setTop (mkF mM 19 #[.val (.ref oa)] [(.int (1 : Int32))])) _
    exact retN X_1 hx (t := .boolean) Bd.returns (by simp) (hb hby d_prog_71m5_19) hr
  · show Q_isa0 Z oa h0 n0 _ T_1.heap _
    rw [e_1]
    exact ⟨rfl, N0, rfl⟩
theorem d_prog_71m5_7 : decode prog_71_method_5_code 7 = .ok (.aload_n 0, 1) := by decide +kernel
theorem d_prog_71m5_8 : decode prog_71_method_5_code 8 = .ok (.getstatic 7, 3) := by decide +kernel
theorem d_prog_71m5_11 : decode prog_71_method_5_code 11 = .ok (.if_acmp .ne 7, 3) := by decide +kernel
theorem ef_isa1 (mM : MethodId) (x0 : Addr) : entryFrame mM #[(.ref x0)] 1 = mkF mM 0 #[.val (.ref x0)] [] := by first | (simp [entryFrame, mkF, argsToLocals, Value.category]; done) | rfl
def Q_isa1 (Z : State) (oa : Addr) (os : Addr) (h0 : Heap) (n0 : Nat) (v_ : Option Value) (h_ : Heap) (L_ : List Loc) : Prop := v_ = some (.int (1 : Int32)) ∧ Fr n0 L_ ∧ h_ = h0
set_option maxRecDepth 65536 in
set_option maxHeartbeats 40000000 in
theorem rm_isa1 (l : Launch) (Z : State) (a0 : Array Value) (hw : ∀ d ∈ tables_1, d.before a0 Z = true) (ws : List Jvm.Cond) (oa : Addr) (os : Addr) (h0 : Heap) (n0 : Nat) (Z0 : n0 ≤ h0.size) (S_ArithmeticOperator_ADD : Sta Z h0 "com/example/querent/querent/jpql/ArithmeticOperator" "ADD" "Lcom/example/querent/querent/jpql/ArithmeticOperator;" (.ref oa)) (S_ArithmeticOperator_SUBTRACT : Sta Z h0 "com/example/querent/querent/jpql/ArithmeticOperator" "SUBTRACT" "Lcom/example/querent/querent/jpql/ArithmeticOperator;" (.ref os)) (n1 : os ≠ oa) :
    MetFree l (⟨"com/example/querent/querent/jpql/ArithmeticOperator", "isAdditive", "()Z"⟩ : MethodName) (head1 (Jvm.Cond.code (⟨"com/example/querent/querent/jpql/ArithmeticOperator", "isAdditive", "()Z"⟩ : MethodName) prog_71_method_5_code 1 (some .boolean) :: ws) ({ frames := 0, cells := 0, slots := 0, locals := 0 } : Room)) (fun aa_ U_ => aa_ = #[(.ref os)] ∧ Z.Warmed39 U_.vm ∧ U_.heap = h0) (fun _ _ _ _ _ => True) (fun _ U_ o_ U'_ => ∃ v_ L_, o_ = .returned v_ ∧ Q_isa1 Z oa os h0 n0 v_ U'_.heap L_ ∧ FrameEnd U_ o_ U'_ L_ ({ frames := 0, cells := 0, slots := 0, locals := 0 } : Room).cells ({ frames := 0, cells := 0, slots := 0, locals := 0 } : Room).slots) := by
  refine MetFree.of_bodySF (plainFor_of_name pn_1) hisR ?_
  intro pP eE sS mM argsA below meth cC s₁ Bd hml0 hP hK
  obtain ⟨rfl, hZ, hh⟩ := hP
  have hx := Bd.exec
  have hby := Bd.bytes
  have hml : cC.maxLocals = 1 := hml0
  have hown : sS.vm.findClass "com/example/querent/querent/jpql/ArithmeticOperator" = some mM.cls := findClass_of_methodNamed Bd.named
  have hnm := (name_of_methodNamed Bd.named Bd.method).1
  have X0 : Stand pP l eE ({ frames := 0, cells := 0, slots := 0, locals := 0 } : Room) sS mM #[(.ref os)] below meth cC s₁ [] 0 0 := Stand.of_body Bd
  have e0 : s₁.heap = h0 := by rw [← hh, Bd.state]; rfl
  have N0 := Fr.nil n0
  have pre0 : ∀ t_, Steps pP.tables eE below (s₁.setTop (mkF mM 0 #[.val (.ref os)] [])) t_ → Steps pP.tables eE below (s₁.setTop (entryFrame mM #[(.ref os)] 1)) t_ := fun t_ k_ => castTop (ef_isa1 mM os) k_
  obtain ⟨T_1, X_1, e_1, st_1⟩ := getS2 X0 hx hZ hown (host := "") (Or.inl (hw _ (List.mem_of_getElem? (i := 41) rfl))) Via.refl e0 S_ArithmeticOperator_ADD (g := (mkF mM 1 #[.val (.ref os)] [(.ref os)])) rfl (hb hby d_prog_71m5_1)
  obtain ⟨T_2, X_2, e_2, st_2⟩ := getS2 X_1 hx hZ hown (host := "") (Or.inl (hw _ (List.mem_of_getElem? (i := 45) rfl))) Via.refl e_1 S_ArithmeticOperator_SUBTRACT (g := (mkF mM 8 #[.val (.ref os)] [(.ref os)])) rfl (hb hby d_prog_71m5_8)
  obtain ⟨fs, hr, hrun, hended, hW, hsame⟩ := X_2.leave (v := some (.int (1 : Int32))) (fun h => by rw [Bd.returns] at h; cases h)
  refine ⟨_, _, pre0 _ ?_, hrun, hended, _, _, rfl, ?_, ⟨_, rfl⟩, hW, hsame.mono (by decide) (by decide)⟩
  · show Steps pP.tables eE below (s₁.setTop (mkF mM 0 #[.val (.ref os)] [])) _
    refine XS.aloadN X0.here hx rfl (hb hby d_prog_71m5_0) rfl rfl ?_
    show Steps pP.tables eE below (s₁.setTop (mkF mM 1 #[.val (.ref os)] [(.ref os)])) _
    refine st_1 _ ?_
    show Steps pP.tables eE below (T_1.setTop (mkF mM 4 #[.val (.ref os)] [(.ref oa), (.ref os)])) _
    refine Jvm.RoadKit.acmp (g := (mkF mM 4 #[.val (.ref os)] [(.ref oa), (.ref os)])) X_1 hx rfl rfl rfl (pc0 := 4) (pc' := 7) (same := false) rfl (hb hby d_prog_71m5_4) rfl (decide_eq_false fun q => n1 (Value.ref.inj q)) (by decide) (by decide) ?_
    show Steps pP.tables eE below (T_1.setTop (mkF mM 7 #[.val (.ref os)] [])) _
    refine XS.aloadN X_1.here hx rfl (hb hby d_prog_71m5_7) rfl rfl ?_
    show Steps pP.tables eE below (T_1.setTop (mkF mM 8 #[.val (.ref os)] [(.ref os)])) _
    refine st_2 _ ?_
    show Steps pP.tables eE below (T_2.setTop (mkF mM 11 #[.val (.ref os)] [(.ref os), (.ref os)])) _
    refine Jvm.RoadKit.acmp (g := (mkF mM 11 #[.val (.ref os)] [(.ref os), (.ref os)])) X_2 hx rfl rfl rfl (pc0 := 11) (pc' := 14) (same := true) rfl (hb hby d_prog_71m5_11) rfl (decide_eq_true rfl) (by decide) (by decide) ?_
    show Steps pP.tables eE below (T_2.setTop (mkF mM 14 #[.val (.ref os)] [])) _
    refine XS.iconst X_2.here hx rfl (hb hby d_prog_71m5_14) ?_
    show Steps pP.tables eE below (T_2.setTop (mkF mM 15 #[.val (.ref os)] [(.int (1 : Int32))])) _
    refine XS.goto X_2.here hx rfl (pc0 := 15) (pc' := 19) rfl (hb hby d_prog_71m5_15) (by decide) (by decide) ?_
    show Steps pP.tables eE below (T_2.setTop (mkF mM 19 #[.val (.ref os)] [(.int (1 : Int32))])) _
    exact retN X_2 hx (t := .boolean) Bd.returns (by simp) (hb hby d_prog_71m5_19) hr
  · show Q_isa1 Z oa os h0 n0 _ T_2.heap _
    rw [e_2]
    exact ⟨rfl, N0, rfl⟩
theorem d_prog_71m5_18 : decode prog_71_method_5_code 18 = .ok (.iconst 0, 1) := by decide +kernel
theorem ef_isa2 (mM : MethodId) (x0 : Addr) : entryFrame mM #[(.ref x0)] 1 = mkF mM 0 #[.val (.ref x0)] [] := by first | (simp [entryFrame, mkF, argsToLocals, Value.category]; done) | rfl
def Q_isa2 (Z : State) (x2 : Addr) (oa : Addr) (os : Addr) (h0 : Heap) (n0 : Nat) (v_ : Option Value) (h_ : Heap) (L_ : List Loc) : Prop := v_ = some (.int (0 : Int32)) ∧ Fr n0 L_ ∧ h_ = h0
set_option maxRecDepth 65536 in
set_option maxHeartbeats 40000000 in
theorem rm_isa2 (l : Launch) (Z : State) (a0 : Array Value) (hw : ∀ d ∈ tables_1, d.before a0 Z = true) (ws : List Jvm.Cond) (x2 : Addr) (oa : Addr) (os : Addr) (h0 : Heap) (n0 : Nat) (Z0 : n0 ≤ h0.size) (S_ArithmeticOperator_ADD : Sta Z h0 "com/example/querent/querent/jpql/ArithmeticOperator" "ADD" "Lcom/example/querent/querent/jpql/ArithmeticOperator;" (.ref oa)) (S_ArithmeticOperator_SUBTRACT : Sta Z h0 "com/example/querent/querent/jpql/ArithmeticOperator" "SUBTRACT" "Lcom/example/querent/querent/jpql/ArithmeticOperator;" (.ref os)) (n1 : x2 ≠ oa) (n2 : x2 ≠ os) :
    MetFree l (⟨"com/example/querent/querent/jpql/ArithmeticOperator", "isAdditive", "()Z"⟩ : MethodName) (head1 (Jvm.Cond.code (⟨"com/example/querent/querent/jpql/ArithmeticOperator", "isAdditive", "()Z"⟩ : MethodName) prog_71_method_5_code 1 (some .boolean) :: ws) ({ frames := 0, cells := 0, slots := 0, locals := 0 } : Room)) (fun aa_ U_ => aa_ = #[(.ref x2)] ∧ Z.Warmed39 U_.vm ∧ U_.heap = h0) (fun _ _ _ _ _ => True) (fun _ U_ o_ U'_ => ∃ v_ L_, o_ = .returned v_ ∧ Q_isa2 Z x2 oa os h0 n0 v_ U'_.heap L_ ∧ FrameEnd U_ o_ U'_ L_ ({ frames := 0, cells := 0, slots := 0, locals := 0 } : Room).cells ({ frames := 0, cells := 0, slots := 0, locals := 0 } : Room).slots) := by
  refine MetFree.of_bodySF (plainFor_of_name pn_1) hisR ?_
  intro pP eE sS mM argsA below meth cC s₁ Bd hml0 hP hK
  obtain ⟨rfl, hZ, hh⟩ := hP
  have hx := Bd.exec
  have hby := Bd.bytes
  have hml : cC.maxLocals = 1 := hml0
  have hown : sS.vm.findClass "com/example/querent/querent/jpql/ArithmeticOperator" = some mM.cls := findClass_of_methodNamed Bd.named
  have hnm := (name_of_methodNamed Bd.named Bd.method).1
  have X0 : Stand pP l eE ({ frames := 0, cells := 0, slots := 0, locals := 0 } : Room) sS mM #[(.ref x2)] below meth cC s₁ [] 0 0 := Stand.of_body Bd
  have e0 : s₁.heap = h0 := by rw [← hh, Bd.state]; rfl
  have N0 := Fr.nil n0
  have pre0 : ∀ t_, Steps pP.tables eE below (s₁.setTop (mkF mM 0 #[.val (.ref x2)] [])) t_ → Steps pP.tables eE below (s₁.setTop (entryFrame mM #[(.ref x2)] 1)) t_ := fun t_ k_ => castTop (ef_isa2 mM x2) k_
  obtain ⟨T_1, X_1, e_1, st_1⟩ := getS2 X0 hx hZ hown (host := "") (Or.inl (hw _ (List.mem_of_getElem? (i := 41) rfl))) Via.refl e0 S_ArithmeticOperator_ADD (g := (mkF mM 1 #[.val (.ref x2)] [(.ref x2)])) rfl (hb hby d_prog_71m5_1)
  obtain ⟨T_2, X_2, e_2, st_2⟩ := getS2 X_1 hx hZ hown (host := "") (Or.inl (hw _ (List.mem_of_getElem? (i := 45) rfl))) Via.refl e_1 S_ArithmeticOperator_SUBTRACT (g := (mkF mM 8 #[.val (.ref x2)] [(.ref x2)])) rfl (hb hby d_prog_71m5_8)
  obtain ⟨fs, hr, hrun, hended, hW, hsame⟩ := X_2.leave (v := some (.int (0 : Int32))) (fun h => by rw [Bd.returns] at h; cases h)
  refine ⟨_, _, pre0 _ ?_, hrun, hended, _, _, rfl, ?_, ⟨_, rfl⟩, hW, hsame.mono (by decide) (by decide)⟩
  · show Steps pP.tables eE below (s₁.setTop (mkF mM 0 #[.val (.ref x2)] [])) _
    refine XS.aloadN X0.here hx rfl (hb hby d_prog_71m5_0) rfl rfl ?_
    show Steps pP.tables eE below (s₁.setTop (mkF mM 1 #[.val (.ref x2)] [(.ref x2)])) _
    refine st_1 _ ?_
    show Steps pP.tables eE below (T_1.setTop (mkF mM 4 #[.val (.ref x2)] [(.ref oa), (.ref x2)])) _
    refine Jvm.RoadKit.acmp (g := (mkF mM 4 #[.val (.ref x2)] [(.ref oa), (.ref x2)])) X_1 hx rfl rfl rfl (pc0 := 4) (pc' := 7) (same := false) rfl (hb hby d_prog_71m5_4) rfl (decide_eq_false fun q => n1 (Value.ref.inj q)) (by decide) (by decide) ?_
    show Steps pP.tables eE below (T_1.setTop (mkF mM 7 #[.val (.ref x2)] [])) _
    refine XS.aloadN X_1.here hx rfl (hb hby d_prog_71m5_7) rfl rfl ?_
    show Steps pP.tables eE below (T_1.setTop (mkF mM 8 #[.val (.ref x2)] [(.ref x2)])) _
    refine st_2 _ ?_
    show Steps pP.tables eE below (T_2.setTop (mkF mM 11 #[.val (.ref x2)] [(.ref os), (.ref x2)])) _
    refine Jvm.RoadKit.acmp (g := (mkF mM 11 #[.val (.ref x2)] [(.ref os), (.ref x2)])) X_2 hx rfl rfl rfl (pc0 := 11) (pc' := 18) (same := false) rfl (hb hby d_prog_71m5_11) rfl (decide_eq_false fun q => n2 (Value.ref.inj q)) (by decide) (by decide) ?_
    show Steps pP.tables eE below (T_2.setTop (mkF mM 18 #[.val (.ref x2)] [])) _
    refine XS.iconst X_2.here hx rfl (hb hby d_prog_71m5_18) ?_
    show Steps pP.tables eE below (T_2.setTop (mkF mM 19 #[.val (.ref x2)] [(.int (0 : Int32))])) _
    exact retN X_2 hx (t := .boolean) Bd.returns (by simp) (hb hby d_prog_71m5_19) hr
  · show Q_isa2 Z x2 oa os h0 n0 _ T_2.heap _
    rw [e_2]
    exact ⟨rfl, N0, rfl⟩
theorem d_jdk_43m13_0 : decode jdk_43_method_13_code 0 = .ok (.aload_n 0, 1) := by decide +kernel
theorem d_jdk_43m13_1 : decode jdk_43_method_13_code 1 = .ok (.arraylength, 1) := by decide +kernel
theorem d_jdk_43m13_2 : decode jdk_43_method_13_code 2 = .ok (.aload_n 1, 1) := by decide +kernel
theorem d_jdk_43m13_3 : decode jdk_43_method_13_code 3 = .ok (.arraylength, 1) := by decide +kernel
theorem d_jdk_43m13_4 : decode jdk_43_method_13_code 4 = .ok (.if_icmp .ne 30, 3) := by decide +kernel
theorem d_jdk_43m13_7 : decode jdk_43_method_13_code 7 = .ok (.iconst 0, 1) := by decide +kernel
theorem d_jdk_43m13_8 : decode jdk_43_method_13_code 8 = .ok (.istore_n 2, 1) := by decide +kernel
theorem d_jdk_43m13_9 : decode jdk_43_method_13_code 9 = .ok (.iload_n 2, 1) := by decide +kernel
theorem d_jdk_43m13_10 : decode jdk_43_method_13_code 10 = .ok (.aload_n 0, 1) := by decide +kernel
theorem d_jdk_43m13_11 : decode jdk_43_method_13_code 11 = .ok (.arraylength, 1) := by decide +kernel
theorem d_jdk_43m13_12 : decode jdk_43_method_13_code 12 = .ok (.if_icmp .ge 20, 3) := by decide +kernel
theorem d_jdk_43m13_15 : decode jdk_43_method_13_code 15 = .ok (.aload_n 0, 1) := by decide +kernel
theorem d_jdk_43m13_16 : decode jdk_43_method_13_code 16 = .ok (.iload_n 2, 1) := by decide +kernel
theorem d_jdk_43m13_17 : decode jdk_43_method_13_code 17 = .ok (.baload, 1) := by decide +kernel
theorem d_jdk_43m13_18 : decode jdk_43_method_13_code 18 = .ok (.aload_n 1, 1) := by decide +kernel
theorem d_jdk_43m13_19 : decode jdk_43_method_13_code 19 = .ok (.iload_n 2, 1) := by decide +kernel
theorem d_jdk_43m13_20 : decode jdk_43_method_13_code 20 = .ok (.baload, 1) := by decide +kernel
theorem d_jdk_43m13_21 : decode jdk_43_method_13_code 21 = .ok (.if_icmp .eq 5, 3) := by decide +kernel
theorem d_jdk_43m13_26 : decode jdk_43_method_13_code 26 = .ok (.iinc 2 1, 3) := by decide +kernel
theorem d_jdk_43m13_29 : decode jdk_43_method_13_code 29 = .ok (.goto (-20), 3) := by decide +kernel
theorem d_jdk_43m13_32 : decode jdk_43_method_13_code 32 = .ok (.iconst 1, 1) := by decide +kernel
theorem d_jdk_43m13_33 : decode jdk_43_method_13_code 33 = .ok (.ireturn, 1) := by decide +kernel
theorem pn_2 : plainName "java/lang/StringLatin1" = true := by first | (simp [plainName, overriddenIn]; done) | decide +kernel
theorem ef_leq1 (mM : MethodId) (x0 : Addr) (x1 : Addr) : entryFrame mM #[(.ref x0), (.ref x1)] 3 = mkF mM 0 #[.val (.ref x0), .val (.ref x1), .unset] [] := by first | (simp [entryFrame, mkF, argsToLocals, Value.category]; done) | rfl
def Q_leq1 (Z : State) (d : Addr) (k : ClassId) (e2 : Addr) (k2 : ClassId) (x0 : Int32) (h0 : Heap) (n0 : Nat) (v_ : Option Value) (h_ : Heap) (L_ : List Loc) : Prop := v_ = some (.int (1 : Int32)) ∧ Fr n0 L_ ∧ h_ = h0
set_option maxRecDepth 65536 in
set_option maxHeartbeats 40000000 in
theorem rm_leq1 (l : Launch) (Z : State) (a0 : Array Value) (hw : ∀ d ∈ tables_1, d.before a0 Z = true) (ws : List Jvm.Cond) (d : Addr) (k : ClassId) (e2 : Addr) (k2 : ClassId) (x0 : Int32) (h0 : Heap) (n0 : Nat) (Z0 : n0 ≤ h0.size) (V_d : Arv Z h0 d k .byte (1 : Int32) [(.int x0)] (.int (0 : Int32))) (V_e2 : Arv Z h0 e2 k2 .byte (1 : Int32) [(.int x0)] (.int (0 : Int32))) :
    MetFree l (⟨"java/lang/StringLatin1", "equals", "([B[B)Z"⟩ : MethodName) (head1 (Jvm.Cond.code (⟨"java/lang/StringLatin1", "equals", "([B[B)Z"⟩ : MethodName) jdk_43_method_13_code 3 (some .boolean) :: ws) ({ frames := 0, cells := 0, slots := 0, locals := 0 } : Room)) (fun aa_ U_ => aa_ = #[(.ref d), (.ref e2)] ∧ Z.Warmed39 U_.vm ∧ U_.heap = h0) (fun _ _ _ _ _ => True) (fun _ U_ o_ U'_ => ∃ v_ L_, o_ = .returned v_ ∧ Q_leq1 Z d k e2 k2 x0 h0 n0 v_ U'_.heap L_ ∧ FrameEnd U_ o_ U'_ L_ ({ frames := 0, cells := 0, slots := 0, locals := 0 } : Room).cells ({ frames := 0, cells := 0, slots := 0, locals := 0 } : Room).slots) := by
  refine MetFree.of_bodySF (plainFor_of_name pn_2) hisR ?_
  intro pP eE sS mM argsA below meth cC s₁ Bd hml0 hP hK
  obtain ⟨rfl, hZ, hh⟩ := hP
  have hx := Bd.exec
  have hby := Bd.bytes
  have hml : cC.maxLocals = 3 := hml0
  have hown : sS.vm.findClass "java/lang/StringLatin1" = some mM.cls := findClass_of_methodNamed Bd.named
  have hnm := (name_of_methodNamed Bd.named Bd.method).1
  have X0 : Stand pP l eE ({ frames := 0, cells := 0, slots := 0, locals := 0 } : Room) sS mM #[(.ref d), (.ref e2)] below meth cC s₁ [] 0 0 := Stand.of_body Bd
  have e0 : s₁.heap = h0 := by rw [← hh, Bd.state]; rfl
  have N0 := Fr.nil n0
  have pre0 : ∀ t_, Steps pP.tables eE below (s₁.setTop (mkF mM 0 #[.val (.ref d), .val (.ref e2), .unset] [])) t_ → Steps pP.tables eE below (s₁.setTop (entryFrame mM #[(.ref d), (.ref e2)] 3)) t_ := fun t_ k_ => castTop (ef_leq1 mM d e2) k_
  obtain ⟨cl_1, Ar_1, -, Sa_1, Na_1, -, -⟩ := id V_d
  obtain ⟨cl_2, Ar_2, -, Sa_2, Na_2, -, -⟩ := id V_e2
  obtain ⟨cl_3, Ar_3, -, Sa_3, Na_3, -, -⟩ := id V_d
  obtain ⟨cl_4, Ar_4, qa_4, Sa_4, Na_4, Ha_4, Ga_4⟩ := id V_d
  have hin_4 : ¬ ((0 : Int32) < 0 ∨ cl_4.slots.size ≤ ((0 : Int32)).toNatClampNeg) := inb_of Sa_4 ⟨by decide, by decide⟩
  have hat_4 : cl_4.slots[((0 : Int32)).toNatClampNeg]? = some (.int x0) := Has.at Ha_4 hin_4 rfl
  obtain ⟨cl_5, Ar_5, qa_5, Sa_5, Na_5, Ha_5, Ga_5⟩ := id V_e2
  have hin_5 : ¬ ((0 : Int32) < 0 ∨ cl_5.slots.size ≤ ((0 : Int32)).toNatClampNeg) := inb_of Sa_5 ⟨by decide, by decide⟩
  have hat_5 : cl_5.slots[((0 : Int32)).toNatClampNeg]? = some (.int x0) := Has.at Ha_5 hin_5 rfl
  obtain ⟨cl_6, Ar_6, -, Sa_6, Na_6, -, -⟩ := id V_d
  obtain ⟨fs, hr, hrun, hended, hW, hsame⟩ := X0.leave (v := some (.int (1 : Int32))) (fun h => by rw [Bd.returns] at h; cases h)
  refine ⟨_, _, pre0 _ ?_, hrun, hended, _, _, rfl, ?_, ⟨_, rfl⟩, hW, hsame.mono (by decide) (by decide)⟩
  · show Steps pP.tables eE below (s₁.setTop (mkF mM 0 #[.val (.ref d), .val (.ref e2), .unset] [])) _
    refine XS.aloadN X0.here hx rfl (hb hby d_jdk_43m13_0) rfl rfl ?_
    show Steps pP.tables eE below (s₁.setTop (mkF mM 1 #[.val (.ref d), .val (.ref e2), .unset] [(.ref d)])) _
    refine X0.arraylength hx (by rw [e0]; exact Ar_1.1) (State.isArrayOf_alike hZ.alike Ar_1.2.1) (g := (mkF mM 1 #[.val (.ref d), .val (.ref e2), .unset] [(.ref d)])) rfl rfl (hb hby d_jdk_43m13_1) _ ?_
    rw [len_of Sa_1 Na_1]
    show Steps pP.tables eE below (s₁.setTop (mkF mM 2 #[.val (.ref d), .val (.ref e2), .unset] [(.int (1 : Int32))])) _
    refine XS.aloadN X0.here hx rfl (hb hby d_jdk_43m13_2) rfl rfl ?_
    show Steps pP.tables eE below (s₁.setTop (mkF mM 3 #[.val (.ref d), .val (.ref e2), .unset] [(.ref e2), (.int (1 : Int32))])) _
    refine X0.arraylength hx (by rw [e0]; exact Ar_2.1) (State.isArrayOf_alike hZ.alike Ar_2.2.1) (g := (mkF mM 3 #[.val (.ref d), .val (.ref e2), .unset] [(.ref e2), (.int (1 : Int32))])) rfl rfl (hb hby d_jdk_43m13_3) _ ?_
    rw [len_of Sa_2 Na_2]
    show Steps pP.tables eE below (s₁.setTop (mkF mM 4 #[.val (.ref d), .val (.ref e2), .unset] [(.int (1 : Int32)), (.int (1 : Int32))])) _
    refine XS.icmpNo X0.here hx rfl (hb hby d_jdk_43m13_4) rfl (by decide) ?_
    show Steps pP.tables eE below (s₁.setTop (mkF mM 7 #[.val (.ref d), .val (.ref e2), .unset] [])) _
    refine XS.iconst X0.here hx rfl (hb hby d_jdk_43m13_7) ?_
    show Steps pP.tables eE below (s₁.setTop (mkF mM 8 #[.val (.ref d), .val (.ref e2), .unset] [(.int (0 : Int32))])) _
    refine XS.istoreN X0.here hx rfl (hb hby d_jdk_43m13_8) rfl (l' := #[.val (.ref d), .val (.ref e2), .val (.int (0 : Int32))]) rfl ?_
    show Steps pP.tables eE below (s₁.setTop (mkF mM 9 #[.val (.ref d), .val (.ref e2), .val (.int (0 : Int32))] [])) _
    refine XS.iloadN X0.here hx rfl (hb hby d_jdk_43m13_9) rfl ?_
    show Steps pP.tables eE below (s₁.setTop (mkF mM 10 #[.val (.ref d), .val (.ref e2), .val (.int (0 : Int32))] [(.int (0 : Int32))])) _
    refine XS.aloadN X0.here hx rfl (hb hby d_jdk_43m13_10) rfl rfl ?_
    show Steps pP.tables eE below (s₁.setTop (mkF mM 11 #[.val (.ref d), .val (.ref e2), .val (.int (0 : Int32))] [(.ref d), (.int (0 : Int32))])) _
    refine X0.arraylength hx (by rw [e0]; exact Ar_3.1) (State.isArrayOf_alike hZ.alike Ar_3.2.1) (g := (mkF mM 11 #[.val (.ref d), .val (.ref e2), .val (.int (0 : Int32))] [(.ref d), (.int (0 : Int32))])) rfl rfl (hb hby d_jdk_43m13_11) _ ?_
    rw [len_of Sa_3 Na_3]
    show Steps pP.tables eE below (s₁.setTop (mkF mM 12 #[.val (.ref d), .val (.ref e2), .val (.int (0 : Int32))] [(.int (1 : Int32)), (.int (0 : Int32))])) _
    refine XS.icmpNo X0.here hx rfl (hb hby d_jdk_43m13_12) rfl (by decide) ?_
    show Steps pP.tables eE below (s₁.setTop (mkF mM 15 #[.val (.ref d), .val (.ref e2), .val (.int (0 : Int32))] [])) _
    refine XS.aloadN X0.here hx rfl (hb hby d_jdk_43m13_15) rfl rfl ?_
    show Steps pP.tables eE below (s₁.setTop (mkF mM 16 #[.val (.ref d), .val (.ref e2), .val (.int (0 : Int32))] [(.ref d)])) _
    refine XS.iloadN X0.here hx rfl (hb hby d_jdk_43m13_16) rfl ?_
    show Steps pP.tables eE below (s₁.setTop (mkF mM 17 #[.val (.ref d), .val (.ref e2), .val (.int (0 : Int32))] [(.int (0 : Int32)), (.ref d)])) _
    refine X0.baloadBytes hx (j := (0 : Int32)) (v := (.int x0)) (by rw [e0]; exact Ar_4.1) (State.isArrayOf_alike hZ.alike Ar_4.2.1) Ar_4.2.2 hin_4 hat_4 (g := (mkF mM 17 #[.val (.ref d), .val (.ref e2), .val (.int (0 : Int32))] [(.int (0 : Int32)), (.ref d)])) rfl rfl (hb hby d_jdk_43m13_17) _ ?_
    show Steps pP.tables eE below (s₁.setTop (mkF mM 18 #[.val (.ref d), .val (.ref e2), .val (.int (0 : Int32))] [(.int x0)])) _
    refine XS.aloadN X0.here hx rfl (hb hby d_jdk_43m13_18) rfl rfl ?_
    show Steps pP.tables eE below (s₁.setTop (mkF mM 19 #[.val (.ref d), .val (.ref e2), .val (.int (0 : Int32))] [(.ref e2), (.int x0)])) _
    refine XS.iloadN X0.here hx rfl (hb hby d_jdk_43m13_19) rfl ?_
    show Steps pP.tables eE below (s₁.setTop (mkF mM 20 #[.val (.ref d), .val (.ref e2), .val (.int (0 : Int32))] [(.int (0 : Int32)), (.ref e2), (.int x0)])) _
    refine X0.baloadBytes hx (j := (0 : Int32)) (v := (.int x0)) (by rw [e0]; exact Ar_5.1) (State.isArrayOf_alike hZ.alike Ar_5.2.1) Ar_5.2.2 hin_5 hat_5 (g := (mkF mM 20 #[.val (.ref d), .val (.ref e2), .val (.int (0 : Int32))] [(.int (0 : Int32)), (.ref e2), (.int x0)])) rfl rfl (hb hby d_jdk_43m13_20) _ ?_
    show Steps pP.tables eE below (s₁.setTop (mkF mM 21 #[.val (.ref d), .val (.ref e2), .val (.int (0 : Int32))] [(.int x0), (.int x0)])) _
    refine XS.icmpYes X0.here hx rfl (pc0 := 21) (pc' := 26) rfl (hb hby d_jdk_43m13_21) rfl (XT.ii_eq_t rfl) (by decide) (by decide) ?_
    show Steps pP.tables eE below (s₁.setTop (mkF mM 26 #[.val (.ref d), .val (.ref e2), .val (.int (0 : Int32))] [])) _
    refine XS.iinc X0.here hx rfl (hb hby d_jdk_43m13_26) rfl (l' := #[.val (.ref d), .val (.ref e2), .val (.int ((0 : Int32) + (1 : Int32)))]) rfl ?_
    show Steps pP.tables eE below (s₁.setTop (mkF mM 29 #[.val (.ref d), .val (.ref e2), .val (.int ((0 : Int32) + (1 : Int32)))] [])) _
    rw [(by decide : ((0 : Int32) + (1 : Int32)) = (1 : Int32))]
    show Steps pP.tables eE below (s₁.setTop (mkF mM 29 #[.val (.ref d), .val (.ref e2), .val (.int (1 : Int32))] [])) _
    refine XS.goto X0.here hx rfl (pc0 := 29) (pc' := 9) rfl (hb hby d_jdk_43m13_29) (by decide) (by decide) ?_
    show Steps pP.tables eE below (s₁.setTop (mkF mM 9 #[.val (.ref d), .val (.ref e2), .val (.int (1 : Int32))] [])) _
    refine XS.iloadN X0.here hx rfl (hb hby d_jdk_43m13_9) rfl ?_
    show Steps pP.tables eE below (s₁.setTop (mkF mM 10 #[.val (.ref d), .val (.ref e2), .val (.int (1 : Int32))] [(.int (1 : Int32))])) _
    refine XS.aloadN X0.here hx rfl (hb hby d_jdk_43m13_10) rfl rfl ?_
    show Steps pP.tables eE below (s₁.setTop (mkF mM 11 #[.val (.ref d), .val (.ref e2), .val (.int (1 : Int32))] [(.ref d), (.int (1 : Int32))])) _
    refine X0.arraylength hx (by rw [e0]; exact Ar_6.1) (State.isArrayOf_alike hZ.alike Ar_6.2.1) (g := (mkF mM 11 #[.val (.ref d), .val (.ref e2), .val (.int (1 : Int32))] [(.ref d), (.int (1 : Int32))])) rfl rfl (hb hby d_jdk_43m13_11) _ ?_
    rw [len_of Sa_6 Na_6]
    show Steps pP.tables eE below (s₁.setTop (mkF mM 12 #[.val (.ref d), .val (.ref e2), .val (.int (1 : Int32))] [(.int (1 : Int32)), (.int (1 : Int32))])) _
    refine XS.icmpYes X0.here hx rfl (pc0 := 12) (pc' := 32) rfl (hb hby d_jdk_43m13_12) rfl (by decide) (by decide) (by decide) ?_
    show Steps pP.tables eE below (s₁.setTop (mkF mM 32 #[.val (.ref d), .val (.ref e2), .val (.int (1 : Int32))] [])) _
    refine XS.iconst X0.here hx rfl (hb hby d_jdk_43m13_32) ?_
    show Steps pP.tables eE below (s₁.setTop (mkF mM 33 #[.val (.ref d), .val (.ref e2), .val (.int (1 : Int32))] [(.int (1 : Int32))])) _
    exact retN X0 hx (t := .boolean) Bd.returns (by simp) (hb hby d_jdk_43m13_33) hr
  · show Q_leq1 Z d k e2 k2 x0 h0 n0 _ s₁.heap _
    rw [e0]
    exact ⟨rfl, N0, rfl⟩
theorem d_jdk_43m13_24 : decode jdk_43_method_13_code 24 = .ok (.iconst 0, 1) := by decide +kernel
theorem d_jdk_43m13_25 : decode jdk_43_method_13_code 25 = .ok (.ireturn, 1) := by decide +kernel
theorem ef_leq0 (mM : MethodId) (x0 : Addr) (x1 : Addr) : entryFrame mM #[(.ref x0), (.ref x1)] 3 = mkF mM 0 #[.val (.ref x0), .val (.ref x1), .unset] [] := by first | (simp [entryFrame, mkF, argsToLocals, Value.category]; done) | rfl
def Q_leq0 (Z : State) (d : Addr) (k : ClassId) (e2 : Addr) (k2 : ClassId) (x0 : Int32) (y0 : Int32) (h0 : Heap) (n0 : Nat) (v_ : Option Value) (h_ : Heap) (L_ : List Loc) : Prop := v_ = some (.int (0 : Int32)) ∧ Fr n0 L_ ∧ h_ = h0
set_option maxRecDepth 65536 in
set_option maxHeartbeats 40000000 in
theorem rm_leq0 (l : Launch) (Z : State) (a0 : Array Value) (hw : ∀ d ∈ tables_1, d.before a0 Z = true) (ws : List Jvm.Cond) (d : Addr) (k : ClassId) (e2 : Addr) (k2 : ClassId) (x0 : Int32) (y0 : Int32) (h0 : Heap) (n0 : Nat) (Z0 : n0 ≤ h0.size) (V_d : Arv Z h0 d k .byte (1 : Int32) [(.int x0)] (.int (0 : Int32))) (V_e2 : Arv Z h0 e2 k2 .byte (1 : Int32) [(.int y0)] (.int (0 : Int32))) (hxy : ¬ x0 = y0) :
    MetFree l (⟨"java/lang/StringLatin1", "equals", "([B[B)Z"⟩ : MethodName) (head1 (Jvm.Cond.code (⟨"java/lang/StringLatin1", "equals", "([B[B)Z"⟩ : MethodName) jdk_43_method_13_code 3 (some .boolean) :: ws) ({ frames := 0, cells := 0, slots := 0, locals := 0 } : Room)) (fun aa_ U_ => aa_ = #[(.ref d), (.ref e2)] ∧ Z.Warmed39 U_.vm ∧ U_.heap = h0) (fun _ _ _ _ _ => True) (fun _ U_ o_ U'_ => ∃ v_ L_, o_ = .returned v_ ∧ Q_leq0 Z d k e2 k2 x0 y0 h0 n0 v_ U'_.heap L_ ∧ FrameEnd U_ o_ U'_ L_ ({ frames := 0, cells := 0, slots := 0, locals := 0 } : Room).cells ({ frames := 0, cells := 0, slots := 0, locals := 0 } : Room).slots) := by
  refine MetFree.of_bodySF (plainFor_of_name pn_2) hisR ?_
  intro pP eE sS mM argsA below meth cC s₁ Bd hml0 hP hK
  obtain ⟨rfl, hZ, hh⟩ := hP
  have hx := Bd.exec
  have hby := Bd.bytes
  have hml : cC.maxLocals = 3 := hml0
  have hown : sS.vm.findClass "java/lang/StringLatin1" = some mM.cls := findClass_of_methodNamed Bd.named
  have hnm := (name_of_methodNamed Bd.named Bd.method).1
  have X0 : Stand pP l eE ({ frames := 0, cells := 0, slots := 0, locals := 0 } : Room) sS mM #[(.ref d), (.ref e2)] below meth cC s₁ [] 0 0 := Stand.of_body Bd
  have e0 : s₁.heap = h0 := by rw [← hh, Bd.state]; rfl
  have N0 := Fr.nil n0
  have pre0 : ∀ t_, Steps pP.tables eE below (s₁.setTop (mkF mM 0 #[.val (.ref d), .val (.ref e2), .unset] [])) t_ → Steps pP.tables eE below (s₁.setTop (entryFrame mM #[(.ref d), (.ref e2)] 3)) t_ := fun t_ k_ => castTop (ef_leq0 mM d e2) k_
  obtain ⟨cl_1, Ar_1, -, Sa_1, Na_1, -, -⟩ := id V_d
  obtain ⟨cl_2, Ar_2, -, Sa_2, Na_2, -, -⟩ := id V_e2
  obtain ⟨cl_3, Ar_3, -, Sa_3, Na_3, -, -⟩ := id V_d
  obtain ⟨cl_4, Ar_4, qa_4, Sa_4, Na_4, Ha_4, Ga_4⟩ := id V_d
  have hin_4 : ¬ ((0 : Int32) < 0 ∨ cl_4.slots.size ≤ ((0 : Int32)).toNatClampNeg) := inb_of Sa_4 ⟨by decide, by decide⟩
  have hat_4 : cl_4.slots[((0 : Int32)).toNatClampNeg]? = some (.int x0) := Has.at Ha_4 hin_4 rfl
  obtain ⟨cl_5, Ar_5, qa_5, Sa_5, Na_5, Ha_5, Ga_5⟩ := id V_e2
  have hin_5 : ¬ ((0 : Int32) < 0 ∨ cl_5.slots.size ≤ ((0 : Int32)).toNatClampNeg) := inb_of Sa_5 ⟨by decide, by decide⟩
  have hat_5 : cl_5.slots[((0 : Int32)).toNatClampNeg]? = some (.int y0) := Has.at Ha_5 hin_5 rfl
  obtain ⟨fs, hr, hrun, hended, hW, hsame⟩ := X0.leave (v := some (.int (0 : Int32))) (fun h => by rw [Bd.returns] at h; cases h)
  refine ⟨_, _, pre0 _ ?_, hrun, hended, _, _, rfl, ?_, ⟨_, rfl⟩, hW, hsame.mono (by decide) (by decide)⟩
  · show Steps pP.tables eE below (s₁.setTop (mkF mM 0 #[.val (.ref d), .val (.ref e2), .unset] [])) _
    refine XS.aloadN X0.here hx rfl (hb hby d_jdk_43m13_0) rfl rfl ?_
    show Steps pP.tables eE below (s₁.setTop (mkF mM 1 #[.val (.ref d), .val (.ref e2), .unset] [(.ref d)])) _
    refine X0.arraylength hx (by rw [e0]; exact Ar_1.1) (State.isArrayOf_alike hZ.alike Ar_1.2.1) (g := (mkF mM 1 #[.val (.ref d), .val (.ref e2), .unset] [(.ref d)])) rfl rfl (hb hby d_jdk_43m13_1) _ ?_
    rw [len_of Sa_1 Na_1]
    show Steps pP.tables eE below (s₁.setTop (mkF mM 2 #[.val (.ref d), .val (.ref e2), .unset] [(.int (1 : Int32))])) _
    refine XS.aloadN X0.here hx rfl (hb hby d_jdk_43m13_2) rfl rfl ?_
    show Steps pP.tables eE below (s₁.setTop (mkF mM 3 #[.val (.ref d), .val (.ref e2), .unset] [(.ref e2), (.int (1 : Int32))])) _
    refine X0.arraylength hx (by rw [e0]; exact Ar_2.1) (State.isArrayOf_alike hZ.alike Ar_2.2.1) (g := (mkF mM 3 #[.val (.ref d), .val (.ref e2), .unset] [(.ref e2), (.int (1 : Int32))])) rfl rfl (hb hby d_jdk_43m13_3) _ ?_
    rw [len_of Sa_2 Na_2]
    show Steps pP.tables eE below (s₁.setTop (mkF mM 4 #[.val (.ref d), .val (.ref e2), .unset] [(.int (1 : Int32)), (.int (1 : Int32))])) _
    refine XS.icmpNo X0.here hx rfl (hb hby d_jdk_43m13_4) rfl (by decide) ?_
    show Steps pP.tables eE below (s₁.setTop (mkF mM 7 #[.val (.ref d), .val (.ref e2), .unset] [])) _
    refine XS.iconst X0.here hx rfl (hb hby d_jdk_43m13_7) ?_
    show Steps pP.tables eE below (s₁.setTop (mkF mM 8 #[.val (.ref d), .val (.ref e2), .unset] [(.int (0 : Int32))])) _
    refine XS.istoreN X0.here hx rfl (hb hby d_jdk_43m13_8) rfl (l' := #[.val (.ref d), .val (.ref e2), .val (.int (0 : Int32))]) rfl ?_
    show Steps pP.tables eE below (s₁.setTop (mkF mM 9 #[.val (.ref d), .val (.ref e2), .val (.int (0 : Int32))] [])) _
    refine XS.iloadN X0.here hx rfl (hb hby d_jdk_43m13_9) rfl ?_
    show Steps pP.tables eE below (s₁.setTop (mkF mM 10 #[.val (.ref d), .val (.ref e2), .val (.int (0 : Int32))] [(.int (0 : Int32))])) _
    refine XS.aloadN X0.here hx rfl (hb hby d_jdk_43m13_10) rfl rfl ?_
    show Steps pP.tables eE below (s₁.setTop (mkF mM 11 #[.val (.ref d), .val (.ref e2), .val (.int (0 : Int32))] [(.ref d), (.int (0 : Int32))])) _
    refine X0.arraylength hx (by rw [e0]; exact Ar_3.1) (State.isArrayOf_alike hZ.alike Ar_3.2.1) (g := (mkF mM 11 #[.val (.ref d), .val (.ref e2), .val (.int (0 : Int32))] [(.ref d), (.int (0 : Int32))])) rfl rfl (hb hby d_jdk_43m13_11) _ ?_
    rw [len_of Sa_3 Na_3]
    show Steps pP.tables eE below (s₁.setTop (mkF mM 12 #[.val (.ref d), .val (.ref e2), .val (.int (0 : Int32))] [(.int (1 : Int32)), (.int (0 : Int32))])) _
    refine XS.icmpNo X0.here hx rfl (hb hby d_jdk_43m13_12) rfl (by decide) ?_
    show Steps pP.tables eE below (s₁.setTop (mkF mM 15 #[.val (.ref d), .val (.ref e2), .val (.int (0 : Int32))] [])) _
    refine XS.aloadN X0.here hx rfl (hb hby d_jdk_43m13_15) rfl rfl ?_
    show Steps pP.tables eE below (s₁.setTop (mkF mM 16 #[.val (.ref d), .val (.ref e2), .val (.int (0 : Int32))] [(.ref d)])) _
    refine XS.iloadN X0.here hx rfl (hb hby d_jdk_43m13_16) rfl ?_
    show Steps pP.tables eE below (s₁.setTop (mkF mM 17 #[.val (.ref d), .val (.ref e2), .val (.int (0 : Int32))] [(.int (0 : Int32)), (.ref d)])) _
    refine X0.baloadBytes hx (j := (0 : Int32)) (v := (.int x0)) (by rw [e0]; exact Ar_4.1) (State.isArrayOf_alike hZ.alike Ar_4.2.1) Ar_4.2.2 hin_4 hat_4 (g := (mkF mM 17 #[.val (.ref d), .val (.ref e2), .val (.int (0 : Int32))] [(.int (0 : Int32)), (.ref d)])) rfl rfl (hb hby d_jdk_43m13_17) _ ?_
    show Steps pP.tables eE below (s₁.setTop (mkF mM 18 #[.val (.ref d), .val (.ref e2), .val (.int (0 : Int32))] [(.int x0)])) _
    refine XS.aloadN X0.here hx rfl (hb hby d_jdk_43m13_18) rfl rfl ?_
    show Steps pP.tables eE below (s₁.setTop (mkF mM 19 #[.val (.ref d), .val (.ref e2), .val (.int (0 : Int32))] [(.ref e2), (.int x0)])) _
    refine XS.iloadN X0.here hx rfl (hb hby d_jdk_43m13_19) rfl ?_
    show Steps pP.tables eE below (s₁.setTop (mkF mM 20 #[.val (.ref d), .val (.ref e2), .val (.int (0 : Int32))] [(.int (0 : Int32)), (.ref e2), (.int x0)])) _
    refine X0.baloadBytes hx (j := (0 : Int32)) (v := (.int y0)) (by rw [e0]; exact Ar_5.1) (State.isArrayOf_alike hZ.alike Ar_5.2.1) Ar_5.2.2 hin_5 hat_5 (g := (mkF mM 20 #[.val (.ref d), .val (.ref e2), .val (.int (0 : Int32))] [(.int (0 : Int32)), (.ref e2), (.int x0)])) rfl rfl (hb hby d_jdk_43m13_20) _ ?_
    show Steps pP.tables eE below (s₁.setTop (mkF mM 21 #[.val (.ref d), .val (.ref e2), .val (.int (0 : Int32))] [(.int y0), (.int x0)])) _
    refine XS.icmpNo X0.here hx rfl (hb hby d_jdk_43m13_21) rfl (XT.ii_eq_f hxy) ?_
    show Steps pP.tables eE below (s₁.setTop (mkF mM 24 #[.val (.ref d), .val (.ref e2), .val (.int (0 : Int32))] [])) _
    refine XS.iconst X0.here hx rfl (hb hby d_jdk_43m13_24) ?_
    show Steps pP.tables eE below (s₁.setTop (mkF mM 25 #[.val (.ref d), .val (.ref e2), .val (.int (0 : Int32))] [(.int (0 : Int32))])) _
    exact retN X0 hx (t := .boolean) Bd.returns (by simp) (hb hby d_jdk_43m13_25) hr
  · show Q_leq0 Z d k e2 k2 x0 y0 h0 n0 _ s₁.heap _
    rw [e0]
    exact ⟨rfl, N0, rfl⟩
def Q_eq1 (Z : State) (a : Addr) (b : Addr) (d : Addr) (k : ClassId) (e2 : Addr) (k2 : ClassId) (x0 : Int32) (cs : Int32) (h0 : Heap) (n0 : Nat) (v_ : Option Value) (h_ : Heap) (L_ : List Loc) : Prop := v_ = some (.int (1 : Int32)) ∧ Fr n0 L_ ∧ h_ = h0
theorem d_jdk_42m66_0 : decode jdk_42_method_66_code 0 = .ok (.aload_n 0, 1) := by decide +kernel
theorem d_jdk_42m66_1 : decode jdk_42_method_66_code 1 = .ok (.aload_n 1, 1) := by decide +kernel
theorem d_jdk_42m66_2 : decode jdk_42_method_66_code 2 = .ok (.if_acmp .ne 5, 3) := by decide +kernel
theorem d_jdk_42m66_7 : decode jdk_42_method_66_code 7 = .ok (.aload_n 1, 1) := by decide +kernel
theorem d_jdk_42m66_8 : decode jdk_42_method_66_code 8 = .ok (.instanceof 10, 3) := by decide +kernel
theorem d_jdk_42m66_11 : decode jdk_42_method_66_code 11 = .ok (.ifCond .eq 43, 3) := by decide +kernel
theorem d_jdk_42m66_14 : decode jdk_42_method_66_code 14 = .ok (.aload_n 1, 1) := by decide +kernel
theorem d_jdk_42m66_15 : decode jdk_42_method_66_code 15 = .ok (.checkcast 10, 3) := by decide +kernel
theorem d_jdk_42m66_18 : decode jdk_42_method_66_code 18 = .ok (.astore_n 2, 1) := by decide +kernel
theorem d_jdk_42m66_19 : decode jdk_42_method_66_code 19 = .ok (.getstatic 38, 3) := by decide +kernel
theorem d_jdk_42m66_22 : decode jdk_42_method_66_code 22 = .ok (.ifCond .eq 14, 3) := by decide +kernel
theorem d_jdk_42m66_25 : decode jdk_42_method_66_code 25 = .ok (.aload_n 0, 1) := by decide +kernel
theorem d_jdk_42m66_26 : decode jdk_42_method_66_code 26 = .ok (.getfield 15, 3) := by decide +kernel
theorem d_jdk_42m66_29 : decode jdk_42_method_66_code 29 = .ok (.aload_n 2, 1) := by decide +kernel
theorem d_jdk_42m66_30 : decode jdk_42_method_66_code 30 = .ok (.getfield 15, 3) := by decide +kernel
theorem d_jdk_42m66_33 : decode jdk_42_method_66_code 33 = .ok (.if_icmp .ne 21, 3) := by decide +kernel
theorem d_jdk_42m66_36 : decode jdk_42_method_66_code 36 = .ok (.aload_n 0, 1) := by decide +kernel
theorem d_jdk_42m66_37 : decode jdk_42_method_66_code 37 = .ok (.getfield 9, 3) := by decide +kernel
theorem d_jdk_42m66_40 : decode jdk_42_method_66_code 40 = .ok (.aload_n 2, 1) := by decide +kernel
theorem d_jdk_42m66_41 : decode jdk_42_method_66_code 41 = .ok (.getfield 9, 3) := by decide +kernel
theorem d_jdk_42m66_44 : decode jdk_42_method_66_code 44 = .ok (.invokestatic 541, 3) := by decide +kernel
theorem pd_0 : parseMethodDescriptor "([B[B)Z" = some ⟨[(.array .byte), (.array .byte)], some .boolean⟩ := by decide +kernel
theorem d_jdk_42m66_47 : decode jdk_42_method_66_code 47 = .ok (.ifCond .eq 7, 3) := by decide +kernel
theorem d_jdk_42m66_50 : decode jdk_42_method_66_code 50 = .ok (.iconst 1, 1) := by decide +kernel
theorem d_jdk_42m66_51 : decode jdk_42_method_66_code 51 = .ok (.goto 4, 3) := by decide +kernel
theorem d_jdk_42m66_55 : decode jdk_42_method_66_code 55 = .ok (.ireturn, 1) := by decide +kernel
theorem pn_3 : plainName "java/lang/String" = true := by first | (simp [plainName, overriddenIn]; done) | decide +kernel
theorem ef_eq1n (mM : MethodId) (x0 : Addr) (x1 : Addr) : entryFrame mM #[(.ref x0), (.ref x1)] 3 = mkF mM 0 #[.val (.ref x0), .val (.ref x1), .unset] [] := by first | (simp [entryFrame, mkF, argsToLocals, Value.category]; done) | rfl
set_option maxRecDepth 65536 in
set_option maxHeartbeats 40000000 in
theorem rm_eq1n (l : Launch) (Z : State) (a0 : Array Value) (hw : ∀ d ∈ tables_1, d.before a0 Z = true) (ws : List Jvm.Cond) (a : Addr) (b : Addr) (d : Addr) (k : ClassId) (e2 : Addr) (k2 : ClassId) (x0 : Int32) (cs : Int32) (h0 : Heap) (n0 : Nat) (Z0 : n0 ≤ h0.size) (F_value_a : Fld Z h0 a "java/lang/String" "value" "[B" (.ref d)) (F_coder_a : Fld Z h0 a "java/lang/String" "coder" "B" (.int (0 : Int32))) (E_a : Exa Z h0 a "java/lang/String") (F_value_b : Fld Z h0 b "java/lang/String" "value" "[B" (.ref e2)) (F_coder_b : Fld Z h0 b "java/lang/String" "coder" "B" (.int (0 : Int32))) (E_b : Exa Z h0 b "java/lang/String") (V_d : Arv Z h0 d k .byte (1 : Int32) [(.int x0)] (.int (0 : Int32))) (V_e2 : Arv Z h0 e2 k2 .byte (1 : Int32) [(.int x0)] (.int (0 : Int32))) (S_String_COMPACT_STRINGS : Sta Z h0 "java/lang/String" "COMPACT_STRINGS" "Z" (.int cs)) (hcs : ¬ cs = 0) (nab : a ≠ b) :
    MetFree l (⟨"java/lang/String", "equals", "(Ljava/lang/Object;)Z"⟩ : MethodName) (head1 (Jvm.Cond.code (⟨"java/lang/String", "equals", "(Ljava/lang/Object;)Z"⟩ : MethodName) jdk_42_method_66_code 3 (some .boolean) :: ws) ({ frames := 1, cells := 0, slots := 0, locals := 14 } : Room)) (fun aa_ U_ => aa_ = #[(.ref a), (.ref b)] ∧ Z.Warmed39 U_.vm ∧ U_.heap = h0) (fun _ _ _ _ _ => True) (fun _ U_ o_ U'_ => ∃ v_ L_, o_ = .returned v_ ∧ Q_eq1 Z a b d k e2 k2 x0 cs h0 n0 v_ U'_.heap L_ ∧ FrameEnd U_ o_ U'_ L_ ({ frames := 1, cells := 0, slots := 0, locals := 14 } : Room).cells ({ frames := 1, cells := 0, slots := 0, locals := 14 } : Room).slots) := by
  refine MetFree.of_bodySF (plainFor_of_name pn_3) hisR ?_
  intro pP eE sS mM argsA below meth cC s₁ Bd hml0 hP hK
  obtain ⟨rfl, hZ, hh⟩ := hP
  have hx := Bd.exec
  have hby := Bd.bytes
  have hml : cC.maxLocals = 3 := hml0
  have hown : sS.vm.findClass "java/lang/String" = some mM.cls := findClass_of_methodNamed Bd.named
  have hnm := (name_of_methodNamed Bd.named Bd.method).1
  have X0 : Stand pP l eE ({ frames := 1, cells := 0, slots := 0, locals := 14 } : Room) sS mM #[(.ref a), (.ref b)] below meth cC s₁ [] 0 0 := Stand.of_body Bd
  have e0 : s₁.heap = h0 := by rw [← hh, Bd.state]; rfl
  have N0 := Fr.nil n0
  have pre0 : ∀ t_, Steps pP.tables eE below (s₁.setTop (mkF mM 0 #[.val (.ref a), .val (.ref b), .unset] [])) t_ → Steps pP.tables eE below (s₁.setTop (entryFrame mM #[(.ref a), (.ref b)] 3)) t_ := fun t_ k_ => castTop (ef_eq1n mM a b) k_
  obtain ⟨T_1, X_1, e_1, st_1⟩ := instY X0 hx hZ hown (hw _ (List.mem_of_getElem? (i := 27) rfl)) e0 (Ins.self E_b) (g := (mkF mM 8 #[.val (.ref a), .val (.ref b), .unset] [(.ref b)])) rfl rfl (hb hby d_jdk_42m66_8)
  obtain ⟨T_2, X_2, e_2, st_2⟩ := castY X_1 hx hZ hown (hw _ (List.mem_of_getElem? (i := 27) rfl)) e_1 (Ins.self E_b) (g := (mkF mM 15 #[.val (.ref a), .val (.ref b), .unset] [(.ref b)])) rfl rfl (hb hby d_jdk_42m66_15)
  obtain ⟨T_3, X_3, e_3, st_3⟩ := getS2 X_2 hx hZ hown (host := "") (Or.inl (hw _ (List.mem_of_getElem? (i := 29) rfl))) Via.refl e_2 S_String_COMPACT_STRINGS (g := (mkF mM 19 #[.val (.ref a), .val (.ref b), .val (.ref b)] [])) rfl (hb hby d_jdk_42m66_19)
  obtain ⟨T_4, X_4, e_4, st_4⟩ := getF X_3 hx hZ hown (host := "") (Or.inl (hw _ (List.mem_of_getElem? (i := 30) rfl))) Via.refl e_3 F_coder_a (g := (mkF mM 26 #[.val (.ref a), .val (.ref b), .val (.ref b)] [(.ref a)])) rfl rfl (hb hby d_jdk_42m66_26)
  obtain ⟨T_5, X_5, e_5, st_5⟩ := getF X_4 hx hZ hown (host := "") (Or.inl (hw _ (List.mem_of_getElem? (i := 30) rfl))) Via.refl e_4 F_coder_b (g := (mkF mM 30 #[.val (.ref a), .val (.ref b), .val (.ref b)] [(.ref b), (.int (0 : Int32))])) rfl rfl (hb hby d_jdk_42m66_30)
  obtain ⟨T_6, X_6, e_6, st_6⟩ := getF X_5 hx hZ hown (host := "") (Or.inl (hw _ (List.mem_of_getElem? (i := 31) rfl))) Via.refl e_5 F_value_a (g := (mkF mM 37 #[.val (.ref a), .val (.ref b), .val (.ref b)] [(.ref a)])) rfl rfl (hb hby d_jdk_42m66_37)
  obtain ⟨T_7, X_7, e_7, st_7⟩ := getF X_6 hx hZ hown (host := "") (Or.inl (hw _ (List.mem_of_getElem? (i := 31) rfl))) Via.refl e_6 F_value_b (g := (mkF mM 41 #[.val (.ref a), .val (.ref b), .val (.ref b)] [(.ref b), (.ref d)])) rfl rfl (hb hby d_jdk_42m66_41)
  obtain ⟨_, _, ⟨T_8, L_8, k_8, n_8⟩, -, X_8, ⟨Lc_8, hQ_8, l_8, y_8, z_8⟩, st_8⟩ := Jvm.LawKit.callS X_7 hx (y := (⟨"java/lang/StringLatin1", "equals", "([B[B)Z"⟩ : MethodName)) hown (mvT hZ (hw _ (List.mem_of_getElem? (i := 32) rfl))) (mvT hZ (hw _ (List.mem_of_getElem? (i := 33) rfl))) (mvT hZ (hw _ (List.mem_of_getElem? (i := 34) rfl))) (mvT hZ (hw _ (List.mem_of_getElem? (i := 35) rfl))) (by decide) (backOf (W := 0) (rm_leq1 l Z a0 hw [] d k e2 k2 x0 h0 n0 Z0 V_d V_e2) hZ (hw _ (List.mem_of_getElem? (i := 35) rfl)) (hw _ (List.mem_of_getElem? (i := 34) rfl)) (by decide) (by decide)) (g := (mkF mM 44 #[.val (.ref a), .val (.ref b), .val (.ref b)] [(.ref e2), (.ref d)])) rfl (by rw [hml]; rfl) (argsL := [(.ref d), (.ref e2)]) (rest := []) (lenOf pd_0 rfl) rfl (by show 2 * 0 + _ ≤ _; exact Nat.le_of_eq rfl) (hb hby d_jdk_42m66_44) (fun _ _ => ⟨rfl, e_7, (by decide : 0 + 0 ≤ _), (by decide : 0 + 0 ≤ _)⟩)
  dsimp only [Pt.U, Pt.locs, Pt.cells, Pt.slots] at X_8 l_8 y_8 z_8 st_8 hQ_8
  subst l_8 y_8 z_8
  obtain ⟨rfl, N_8q, eh_8⟩ := hQ_8
  have N_8 := Fr.app N0 N_8q
  obtain ⟨fs, hr, hrun, hended, hW, hsame⟩ := X_8.leave (v := some (.int (1 : Int32))) (fun h => by rw [Bd.returns] at h; cases h)
  refine ⟨_, _, pre0 _ ?_, hrun, hended, _, _, rfl, ?_, ⟨_, rfl⟩, hW, hsame.mono (by decide) (by decide)⟩
  · show Steps pP.tables eE below (s₁.setTop (mkF mM 0 #[.val (.ref a), .val (.ref b), .unset] [])) _
    refine XS.aloadN X0.here hx rfl (hb hby d_jdk_42m66_0) rfl rfl ?_
    show Steps pP.tables eE below (s₁.setTop (mkF mM 1 #[.val (.ref a), .val (.ref b), .unset] [(.ref a)])) _
    refine XS.aloadN X0.here hx rfl (hb hby d_jdk_42m66_1) rfl rfl ?_
    show Steps pP.tables eE below (s₁.setTop (mkF mM 2 #[.val (.ref a), .val (.ref b), .unset] [(.ref b), (.ref a)])) _
    refine Jvm.RoadKit.acmp (g := (mkF mM 2 #[.val (.ref a), .val (.ref b), .unset] [(.ref b), (.ref a)])) X0 hx rfl rfl rfl (pc0 := 2) (pc' := 7) (same := false) rfl (hb hby d_jdk_42m66_2) rfl (decide_eq_false fun q => nab (Value.ref.inj q)) (by decide) (by decide) ?_
    show Steps pP.tables eE below (s₁.setTop (mkF mM 7 #[.val (.ref a), .val (.ref b), .unset] [])) _
    refine XS.aloadN X0.here hx rfl (hb hby d_jdk_42m66_7) rfl rfl ?_
    show Steps pP.tables eE below (s₁.setTop (mkF mM 8 #[.val (.ref a), .val (.ref b), .unset] [(.ref b)])) _
    refine st_1 _ ?_
    show Steps pP.tables eE below (T_1.setTop (mkF mM 11 #[.val (.ref a), .val (.ref b), .unset] [(.int (1 : Int32))])) _
    refine XS.ifNo X_1.here hx rfl (hb hby d_jdk_42m66_11) rfl (by decide) ?_
    show Steps pP.tables eE below (T_1.setTop (mkF mM 14 #[.val (.ref a), .val (.ref b), .unset] [])) _
    refine XS.aloadN X_1.here hx rfl (hb hby d_jdk_42m66_14) rfl rfl ?_
    show Steps pP.tables eE below (T_1.setTop (mkF mM 15 #[.val (.ref a), .val (.ref b), .unset] [(.ref b)])) _
    refine st_2 _ ?_
    show Steps pP.tables eE below (T_2.setTop (mkF mM 18 #[.val (.ref a), .val (.ref b), .unset] [(.ref b)])) _
    refine XS.astoreN X_2.here hx rfl (hb hby d_jdk_42m66_18) rfl rfl (l' := #[.val (.ref a), .val (.ref b), .val (.ref b)]) rfl ?_
    show Steps pP.tables eE below (T_2.setTop (mkF mM 19 #[.val (.ref a), .val (.ref b), .val (.ref b)] [])) _
    refine st_3 _ ?_
    show Steps pP.tables eE below (T_3.setTop (mkF mM 22 #[.val (.ref a), .val (.ref b), .val (.ref b)] [(.int cs)])) _
    refine XS.ifNo X_3.here hx rfl (hb hby d_jdk_42m66_22) rfl (XT.i0_eq_f hcs) ?_
    show Steps pP.tables eE below (T_3.setTop (mkF mM 25 #[.val (.ref a), .val (.ref b), .val (.ref b)] [])) _
    refine XS.aloadN X_3.here hx rfl (hb hby d_jdk_42m66_25) rfl rfl ?_
    show Steps pP.tables eE below (T_3.setTop (mkF mM 26 #[.val (.ref a), .val (.ref b), .val (.ref b)] [(.ref a)])) _
    refine st_4 _ ?_
    show Steps pP.tables eE below (T_4.setTop (mkF mM 29 #[.val (.ref a), .val (.ref b), .val (.ref b)] [(.int (0 : Int32))])) _
    refine XS.aloadN X_4.here hx rfl (hb hby d_jdk_42m66_29) rfl rfl ?_
    show Steps pP.tables eE below (T_4.setTop (mkF mM 30 #[.val (.ref a), .val (.ref b), .val (.ref b)] [(.ref b), (.int (0 : Int32))])) _
    refine st_5 _ ?_
    show Steps pP.tables eE below (T_5.setTop (mkF mM 33 #[.val (.ref a), .val (.ref b), .val (.ref b)] [(.int (0 : Int32)), (.int (0 : Int32))])) _
    refine XS.icmpNo X_5.here hx rfl (hb hby d_jdk_42m66_33) rfl (by decide) ?_
    show Steps pP.tables eE below (T_5.setTop (mkF mM 36 #[.val (.ref a), .val (.ref b), .val (.ref b)] [])) _
    refine XS.aloadN X_5.here hx rfl (hb hby d_jdk_42m66_36) rfl rfl ?_
    show Steps pP.tables eE below (T_5.setTop (mkF mM 37 #[.val (.ref a), .val (.ref b), .val (.ref b)] [(.ref a)])) _
    refine st_6 _ ?_
    show Steps pP.tables eE below (T_6.setTop (mkF mM 40 #[.val (.ref a), .val (.ref b), .val (.ref b)] [(.ref d)])) _
    refine XS.aloadN X_6.here hx rfl (hb hby d_jdk_42m66_40) rfl rfl ?_
    show Steps pP.tables eE below (T_6.setTop (mkF mM 41 #[.val (.ref a), .val (.ref b), .val (.ref b)] [(.ref b), (.ref d)])) _
    refine st_7 _ ?_
    show Steps pP.tables eE below (T_7.setTop (mkF mM 44 #[.val (.ref a), .val (.ref b), .val (.ref b)] [(.ref e2), (.ref d)])) _
    refine st_8 _ ?_
    show Steps pP.tables eE below (T_8.setTop (mkF mM 47 #[.val (.ref a), .val (.ref b), .val (.ref b)] [(.int (1 : Int32))])) _
    refine XS.ifNo X_8.here hx rfl (hb hby d_jdk_42m66_47) rfl (by decide) ?_
    show Steps pP.tables eE below (T_8.setTop (mkF mM 50 #[.val (.ref a), .val (.ref b), .val (.ref b)] [])) _
    refine XS.iconst X_8.here hx rfl (hb hby d_jdk_42m66_50) ?_
    show Steps pP.tables eE below (T_8.setTop (mkF mM 51 #[.val (.ref a), .val (.ref b), .val (.ref b)] [(.int (1 : Int32))])) _
    refine XS.goto X_8.here hx rfl (pc0 := 51) (pc' := 55) rfl (hb hby d_jdk_42m66_51) (by decide) (by decide) ?_
    show Steps pP.tables eE below (T_8.setTop (mkF mM 55 #[.val (.ref a), .val (.ref b), .val (.ref b)] [(.int (1 : Int32))])) _
    exact retN X_8 hx (t := .boolean) Bd.returns (by simp) (hb hby d_jdk_42m66_55) hr
  · show Q_eq1 Z a b d k e2 k2 x0 cs h0 n0 _ T_8.heap _
    rw [eh_8]
    exact ⟨rfl, N_8, rfl⟩
theorem d_jdk_42m66_5 : decode jdk_42_method_66_code 5 = .ok (.iconst 1, 1) := by decide +kernel
theorem d_jdk_42m66_6 : decode jdk_42_method_66_code 6 = .ok (.ireturn, 1) := by decide +kernel
theorem ef_eq1s (mM : MethodId) (x0 : Addr) (x1 : Addr) : entryFrame mM #[(.ref x0), (.ref x1)] 3 = mkF mM 0 #[.val (.ref x0), .val (.ref x1), .unset] [] := by first | (simp [entryFrame, mkF, argsToLocals, Value.category]; done) | rfl
def Q_eq1s (Z : State) (a : Addr) (h0 : Heap) (n0 : Nat) (v_ : Option Value) (h_ : Heap) (L_ : List Loc) : Prop := v_ = some (.int (1 : Int32)) ∧ Fr n0 L_ ∧ h_ = h0
set_option maxRecDepth 65536 in
set_option maxHeartbeats 40000000 in
theorem rm_eq1s (l : Launch) (Z : State) (a0 : Array Value) (hw : ∀ d ∈ tables_1, d.before a0 Z = true) (ws : List Jvm.Cond) (a : Addr) (h0 : Heap) (n0 : Nat) (Z0 : n0 ≤ h0.size) :
    MetFree l (⟨"java/lang/String", "equals", "(Ljava/lang/Object;)Z"⟩ : MethodName) (head1 (Jvm.Cond.code (⟨"java/lang/String", "equals", "(Ljava/lang/Object;)Z"⟩ : MethodName) jdk_42_method_66_code 3 (some .boolean) :: ws) ({ frames := 1, cells := 0, slots := 0, locals := 14 } : Room)) (fun aa_ U_ => aa_ = #[(.ref a), (.ref a)] ∧ Z.Warmed39 U_.vm ∧ U_.heap = h0) (fun _ _ _ _ _ => True) (fun _ U_ o_ U'_ => ∃ v_ L_, o_ = .returned v_ ∧ Q_eq1s Z a h0 n0 v_ U'_.heap L_ ∧ FrameEnd U_ o_ U'_ L_ ({ frames := 1, cells := 0, slots := 0, locals := 14 } : Room).cells ({ frames := 1, cells := 0, slots := 0, locals := 14 } : Room).slots) := by
  refine MetFree.of_bodySF (plainFor_of_name pn_3) hisR ?_
  intro pP eE sS mM argsA below meth cC s₁ Bd hml0 hP hK
  obtain ⟨rfl, hZ, hh⟩ := hP
  have hx := Bd.exec
  have hby := Bd.bytes
  have hml : cC.maxLocals = 3 := hml0
  have hown : sS.vm.findClass "java/lang/String" = some mM.cls := findClass_of_methodNamed Bd.named
  have hnm := (name_of_methodNamed Bd.named Bd.method).1
  have X0 : Stand pP l eE ({ frames := 1, cells := 0, slots := 0, locals := 14 } : Room) sS mM #[(.ref a), (.ref a)] below meth cC s₁ [] 0 0 := Stand.of_body Bd
  have e0 : s₁.heap = h0 := by rw [← hh, Bd.state]; rfl
  have N0 := Fr.nil n0
  have pre0 : ∀ t_, Steps pP.tables eE below (s₁.setTop (mkF mM 0 #[.val (.ref a), .val (.ref a), .unset] [])) t_ → Steps pP.tables eE below (s₁.setTop (entryFrame mM #[(.ref a), (.ref a)] 3)) t_ := fun t_ k_ => castTop (ef_eq1s mM a a) k_
  obtain ⟨fs, hr, hrun, hended, hW, hsame⟩ := X0.leave (v := some (.int (1 : Int32))) (fun h => by rw [Bd.returns] at h; cases h)
  refine ⟨_, _, pre0 _ ?_, hrun, hended, _, _, rfl, ?_, ⟨_, rfl⟩, hW, hsame.mono (by decide) (by decide)⟩
  · show Steps pP.tables eE below (s₁.setTop (mkF mM 0 #[.val (.ref a), .val (.ref a), .unset] [])) _
    refine XS.aloadN X0.here hx rfl (hb hby d_jdk_42m66_0) rfl rfl ?_
    show Steps pP.tables eE below (s₁.setTop (mkF mM 1 #[.val (.ref a), .val (.ref a), .unset] [(.ref a)])) _
    refine XS.aloadN X0.here hx rfl (hb hby d_jdk_42m66_1) rfl rfl ?_
    show Steps pP.tables eE below (s₁.setTop (mkF mM 2 #[.val (.ref a), .val (.ref a), .unset] [(.ref a), (.ref a)])) _
    refine Jvm.RoadKit.acmp (g := (mkF mM 2 #[.val (.ref a), .val (.ref a), .unset] [(.ref a), (.ref a)])) X0 hx rfl rfl rfl (pc0 := 2) (pc' := 5) (same := true) rfl (hb hby d_jdk_42m66_2) rfl (decide_eq_true rfl) (by decide) (by decide) ?_
    show Steps pP.tables eE below (s₁.setTop (mkF mM 5 #[.val (.ref a), .val (.ref a), .unset] [])) _
    refine XS.iconst X0.here hx rfl (hb hby d_jdk_42m66_5) ?_
    show Steps pP.tables eE below (s₁.setTop (mkF mM 6 #[.val (.ref a), .val (.ref a), .unset] [(.int (1 : Int32))])) _
    exact retN X0 hx (t := .boolean) Bd.returns (by simp) (hb hby d_jdk_42m66_6) hr
  · show Q_eq1s Z a h0 n0 _ s₁.heap _
    rw [e0]
    exact ⟨rfl, N0, rfl⟩
set_option maxRecDepth 65536 in
set_option maxHeartbeats 40000000 in
theorem rm_eq1 (l : Launch) (Z : State) (a0 : Array Value) (hw : ∀ d ∈ tables_1, d.before a0 Z = true) (ws : List Jvm.Cond) (a : Addr) (b : Addr) (d : Addr) (k : ClassId) (e2 : Addr) (k2 : ClassId) (x0 : Int32) (cs : Int32) (h0 : Heap) (n0 : Nat) (Z0 : n0 ≤ h0.size) (F_value_a : Fld Z h0 a "java/lang/String" "value" "[B" (.ref d)) (F_coder_a : Fld Z h0 a "java/lang/String" "coder" "B" (.int (0 : Int32))) (E_a : Exa Z h0 a "java/lang/String") (F_value_b : Fld Z h0 b "java/lang/String" "value" "[B" (.ref e2)) (F_coder_b : Fld Z h0 b "java/lang/String" "coder" "B" (.int (0 : Int32))) (E_b : Exa Z h0 b "java/lang/String") (V_d : Arv Z h0 d k .byte (1 : Int32) [(.int x0)] (.int (0 : Int32))) (V_e2 : Arv Z h0 e2 k2 .byte (1 : Int32) [(.int x0)] (.int (0 : Int32))) (S_String_COMPACT_STRINGS : Sta Z h0 "java/lang/String" "COMPACT_STRINGS" "Z" (.int cs)) (hcs : ¬ cs = 0) :
    MetFree l (⟨"java/lang/String", "equals", "(Ljava/lang/Object;)Z"⟩ : MethodName) (head1 (Jvm.Cond.code (⟨"java/lang/String", "equals", "(Ljava/lang/Object;)Z"⟩ : MethodName) jdk_42_method_66_code 3 (some .boolean) :: ws) ({ frames := 1, cells := 0, slots := 0, locals := 14 } : Room)) (fun aa_ U_ => aa_ = #[(.ref a), (.ref b)] ∧ Z.Warmed39 U_.vm ∧ U_.heap = h0) (fun _ _ _ _ _ => True) (fun _ U_ o_ U'_ => ∃ v_ L_, o_ = .returned v_ ∧ Q_eq1 Z a b d k e2 k2 x0 cs h0 n0 v_ U'_.heap L_ ∧ FrameEnd U_ o_ U'_ L_ ({ frames := 1, cells := 0, slots := 0, locals := 14 } : Room).cells ({ frames := 1, cells := 0, slots := 0, locals := 14 } : Room).slots) := by
  by_cases hab : a = b
  · subst hab
    exact rm_eq1s l Z a0 hw ws a h0 n0 Z0
  · exact rm_eq1n l Z a0 hw ws a b d k e2 k2 x0 cs h0 n0 Z0 F_value_a F_coder_a E_a F_value_b F_coder_b E_b V_d V_e2 S_String_COMPACT_STRINGS hcs hab
theorem d_jdk_42m66_54 : decode jdk_42_method_66_code 54 = .ok (.iconst 0, 1) := by decide +kernel
theorem ef_eq0 (mM : MethodId) (x0 : Addr) (x1 : Addr) : entryFrame mM #[(.ref x0), (.ref x1)] 3 = mkF mM 0 #[.val (.ref x0), .val (.ref x1), .unset] [] := by first | (simp [entryFrame, mkF, argsToLocals, Value.category]; done) | rfl
def Q_eq0 (Z : State) (a : Addr) (b : Addr) (d : Addr) (k : ClassId) (e2 : Addr) (k2 : ClassId) (x0 : Int32) (y0 : Int32) (cs : Int32) (h0 : Heap) (n0 : Nat) (v_ : Option Value) (h_ : Heap) (L_ : List Loc) : Prop := v_ = some (.int (0 : Int32)) ∧ Fr n0 L_ ∧ h_ = h0
set_option maxRecDepth 65536 in
set_option maxHeartbeats 40000000 in
theorem rm_eq0 (l : Launch) (Z : State) (a0 : Array Value) (hw : ∀ d ∈ tables_1, d.before a0 Z = true) (ws : List Jvm.Cond) (a : Addr) (b : Addr) (d : Addr) (k : ClassId) (e2 : Addr) (k2 : ClassId) (x0 : Int32) (y0 : Int32) (cs : Int32) (h0 : Heap) (n0 : Nat) (Z0 : n0 ≤ h0.size) (F_value_a : Fld Z h0 a "java/lang/String" "value" "[B" (.ref d)) (F_coder_a : Fld Z h0 a "java/lang/String" "coder" "B" (.int (0 : Int32))) (E_a : Exa Z h0 a "java/lang/String") (F_value_b : Fld Z h0 b "java/lang/String" "value" "[B" (.ref e2)) (F_coder_b : Fld Z h0 b "java/lang/String" "coder" "B" (.int (0 : Int32))) (E_b : Exa Z h0 b "java/lang/String") (V_d : Arv Z h0 d k .byte (1 : Int32) [(.int x0)] (.int (0 : Int32))) (V_e2 : Arv Z h0 e2 k2 .byte (1 : Int32) [(.int y0)] (.int (0 : Int32))) (S_String_COMPACT_STRINGS : Sta Z h0 "java/lang/String" "COMPACT_STRINGS" "Z" (.int cs)) (hcs : ¬ cs = 0) (nab : a ≠ b) (hxy : ¬ x0 = y0) :
    MetFree l (⟨"java/lang/String", "equals", "(Ljava/lang/Object;)Z"⟩ : MethodName) (head1 (Jvm.Cond.code (⟨"java/lang/String", "equals", "(Ljava/lang/Object;)Z"⟩ : MethodName) jdk_42_method_66_code 3 (some .boolean) :: ws) ({ frames := 1, cells := 0, slots := 0, locals := 14 } : Room)) (fun aa_ U_ => aa_ = #[(.ref a), (.ref b)] ∧ Z.Warmed39 U_.vm ∧ U_.heap = h0) (fun _ _ _ _ _ => True) (fun _ U_ o_ U'_ => ∃ v_ L_, o_ = .returned v_ ∧ Q_eq0 Z a b d k e2 k2 x0 y0 cs h0 n0 v_ U'_.heap L_ ∧ FrameEnd U_ o_ U'_ L_ ({ frames := 1, cells := 0, slots := 0, locals := 14 } : Room).cells ({ frames := 1, cells := 0, slots := 0, locals := 14 } : Room).slots) := by
  refine MetFree.of_bodySF (plainFor_of_name pn_3) hisR ?_
  intro pP eE sS mM argsA below meth cC s₁ Bd hml0 hP hK
  obtain ⟨rfl, hZ, hh⟩ := hP
  have hx := Bd.exec
  have hby := Bd.bytes
  have hml : cC.maxLocals = 3 := hml0
  have hown : sS.vm.findClass "java/lang/String" = some mM.cls := findClass_of_methodNamed Bd.named
  have hnm := (name_of_methodNamed Bd.named Bd.method).1
  have X0 : Stand pP l eE ({ frames := 1, cells := 0, slots := 0, locals := 14 } : Room) sS mM #[(.ref a), (.ref b)] below meth cC s₁ [] 0 0 := Stand.of_body Bd
  have e0 : s₁.heap = h0 := by rw [← hh, Bd.state]; rfl
  have N0 := Fr.nil n0
  have pre0 : ∀ t_, Steps pP.tables eE below (s₁.setTop (mkF mM 0 #[.val (.ref a), .val (.ref b), .unset] [])) t_ → Steps pP.tables eE below (s₁.setTop (entryFrame mM #[(.ref a), (.ref b)] 3)) t_ := fun t_ k_ => castTop (ef_eq0 mM a b) k_
  obtain ⟨T_1, X_1, e_1, st_1⟩ := instY X0 hx hZ hown (hw _ (List.mem_of_getElem? (i := 27) rfl)) e0 (Ins.self E_b) (g := (mkF mM 8 #[.val (.ref a), .val (.ref b), .unset] [(.ref b)])) rfl rfl (hb hby d_jdk_42m66_8)
  obtain ⟨T_2, X_2, e_2, st_2⟩ := castY X_1 hx hZ hown (hw _ (List.mem_of_getElem? (i := 27) rfl)) e_1 (Ins.self E_b) (g := (mkF mM 15 #[.val (.ref a), .val (.ref b), .unset] [(.ref b)])) rfl rfl (hb hby d_jdk_42m66_15)
  obtain ⟨T_3, X_3, e_3, st_3⟩ := getS2 X_2 hx hZ hown (host := "") (Or.inl (hw _ (List.mem_of_getElem? (i := 29) rfl))) Via.refl e_2 S_String_COMPACT_STRINGS (g := (mkF mM 19 #[.val (.ref a), .val (.ref b), .val (.ref b)] [])) rfl (hb hby d_jdk_42m66_19)
  obtain ⟨T_4, X_4, e_4, st_4⟩ := getF X_3 hx hZ hown (host := "") (Or.inl (hw _ (List.mem_of_getElem? (i := 30) rfl))) Via.refl e_3 F_coder_a (g := (mkF mM 26 #[.val (.ref a), .val (.ref b), .val (.ref b)] [(.ref a)])) rfl rfl (hb hby d_jdk_42m66_26)
  obtain ⟨T_5, X_5, e_5, st_5⟩ := getF X_4 hx hZ hown (host := "") (Or.inl (hw _ (List.mem_of_getElem? (i := 30) rfl))) Via.refl e_4 F_coder_b (g := (mkF mM 30 #[.val (.ref a), .val (.ref b), .val (.ref b)] [(.ref b), (.int (0 : Int32))])) rfl rfl (hb hby d_jdk_42m66_30)
  obtain ⟨T_6, X_6, e_6, st_6⟩ := getF X_5 hx hZ hown (host := "") (Or.inl (hw _ (List.mem_of_getElem? (i := 31) rfl))) Via.refl e_5 F_value_a (g := (mkF mM 37 #[.val (.ref a), .val (.ref b), .val (.ref b)] [(.ref a)])) rfl rfl (hb hby d_jdk_42m66_37)
  obtain ⟨T_7, X_7, e_7, st_7⟩ := getF X_6 hx hZ hown (host := "") (Or.inl (hw _ (List.mem_of_getElem? (i := 31) rfl))) Via.refl e_6 F_value_b (g := (mkF mM 41 #[.val (.ref a), .val (.ref b), .val (.ref b)] [(.ref b), (.ref d)])) rfl rfl (hb hby d_jdk_42m66_41)
  obtain ⟨_, _, ⟨T_8, L_8, k_8, n_8⟩, -, X_8, ⟨Lc_8, hQ_8, l_8, y_8, z_8⟩, st_8⟩ := Jvm.LawKit.callS X_7 hx (y := (⟨"java/lang/StringLatin1", "equals", "([B[B)Z"⟩ : MethodName)) hown (mvT hZ (hw _ (List.mem_of_getElem? (i := 32) rfl))) (mvT hZ (hw _ (List.mem_of_getElem? (i := 33) rfl))) (mvT hZ (hw _ (List.mem_of_getElem? (i := 34) rfl))) (mvT hZ (hw _ (List.mem_of_getElem? (i := 35) rfl))) (by decide) (backOf (W := 0) (rm_leq0 l Z a0 hw [] d k e2 k2 x0 y0 h0 n0 Z0 V_d V_e2 hxy) hZ (hw _ (List.mem_of_getElem? (i := 35) rfl)) (hw _ (List.mem_of_getElem? (i := 34) rfl)) (by decide) (by decide)) (g := (mkF mM 44 #[.val (.ref a), .val (.ref b), .val (.ref b)] [(.ref e2), (.ref d)])) rfl (by rw [hml]; rfl) (argsL := [(.ref d), (.ref e2)]) (rest := []) (lenOf pd_0 rfl) rfl (by show 2 * 0 + _ ≤ _; exact Nat.le_of_eq rfl) (hb hby d_jdk_42m66_44) (fun _ _ => ⟨rfl, e_7, (by decide : 0 + 0 ≤ _), (by decide : 0 + 0 ≤ _)⟩)
  dsimp only [Pt.U, Pt.locs, Pt.cells, Pt.slots] at X_8 l_8 y_8 z_8 st_8 hQ_8
  subst l_8 y_8 z_8
  obtain ⟨rfl, N_8q, eh_8⟩ := hQ_8
  have N_8 := Fr.app N0 N_8q
  obtain ⟨fs, hr, hrun, hended, hW, hsame⟩ := X_8.leave (v := some (.int (0 : Int32))) (fun h => by rw [Bd.returns] at h; cases h)
  refine ⟨_, _, pre0 _ ?_, hrun, hended, _, _, rfl, ?_, ⟨_, rfl⟩, hW, hsame.mono (by decide) (by decide)⟩
  · show Steps pP.tables eE below (s₁.setTop (mkF mM 0 #[.val (.ref a), .val (.ref b), .unset] [])) _
    refine XS.aloadN X0.here hx rfl (hb hby d_jdk_42m66_0) rfl rfl ?_
    show Steps pP.tables eE below (s₁.setTop (mkF mM 1 #[.val (.ref a), .val (.ref b), .unset] [(.ref a)])) _
    refine XS.aloadN X0.here hx rfl (hb hby d_jdk_42m66_1) rfl rfl ?_
    show Steps pP.tables eE below (s₁.setTop (mkF mM 2 #[.val (.ref a), .val (.ref b), .unset] [(.ref b), (.ref a)])) _
    refine Jvm.RoadKit.acmp (g := (mkF mM 2 #[.val (.ref a), .val (.ref b), .unset] [(.ref b), (.ref a)])) X0 hx rfl rfl rfl (pc0 := 2) (pc' := 7) (same := false) rfl (hb hby d_jdk_42m66_2) rfl (decide_eq_false fun q => nab (Value.ref.inj q)) (by decide) (by decide) ?_
    show Steps pP.tables eE below (s₁.setTop (mkF mM 7 #[.val (.ref a), .val (.ref b), .unset] [])) _
    refine XS.aloadN X0.here hx rfl (hb hby d_jdk_42m66_7) rfl rfl ?_
    show Steps pP.tables eE below (s₁.setTop (mkF mM 8 #[.val (.ref a), .val (.ref b), .unset] [(.ref b)])) _
    refine st_1 _ ?_
    show Steps pP.tables eE below (T_1.setTop (mkF mM 11 #[.val (.ref a), .val (.ref b), .unset] [(.int (1 : Int32))])) _
    refine XS.ifNo X_1.here hx rfl (hb hby d_jdk_42m66_11) rfl (by decide) ?_
    show Steps pP.tables eE below (T_1.setTop (mkF mM 14 #[.val (.ref a), .val (.ref b), .unset] [])) _
    refine XS.aloadN X_1.here hx rfl (hb hby d_jdk_42m66_14) rfl rfl ?_
    show Steps pP.tables eE below (T_1.setTop (mkF mM 15 #[.val (.ref a), .val (.ref b), .unset] [(.ref b)])) _
    refine st_2 _ ?_
    show Steps pP.tables eE below (T_2.setTop (mkF mM 18 #[.val (.ref a), .val (.ref b), .unset] [(.ref b)])) _
    refine XS.astoreN X_2.here hx rfl (hb hby d_jdk_42m66_18) rfl rfl (l' := #[.val (.ref a), .val (.ref b), .val (.ref b)]) rfl ?_
    show Steps pP.tables eE below (T_2.setTop (mkF mM 19 #[.val (.ref a), .val (.ref b), .val (.ref b)] [])) _
    refine st_3 _ ?_
    show Steps pP.tables eE below (T_3.setTop (mkF mM 22 #[.val (.ref a), .val (.ref b), .val (.ref b)] [(.int cs)])) _
    refine XS.ifNo X_3.here hx rfl (hb hby d_jdk_42m66_22) rfl (XT.i0_eq_f hcs) ?_
    show Steps pP.tables eE below (T_3.setTop (mkF mM 25 #[.val (.ref a), .val (.ref b), .val (.ref b)] [])) _
    refine XS.aloadN X_3.here hx rfl (hb hby d_jdk_42m66_25) rfl rfl ?_
    show Steps pP.tables eE below (T_3.setTop (mkF mM 26 #[.val (.ref a), .val (.ref b), .val (.ref b)] [(.ref a)])) _
    refine st_4 _ ?_
    show Steps pP.tables eE below (T_4.setTop (mkF mM 29 #[.val (.ref a), .val (.ref b), .val (.ref b)] [(.int (0 : Int32))])) _
    refine XS.aloadN X_4.here hx rfl (hb hby d_jdk_42m66_29) rfl rfl ?_
    show Steps pP.tables eE below (T_4.setTop (mkF mM 30 #[.val (.ref a), .val (.ref b), .val (.ref b)] [(.ref b), (.int (0 : Int32))])) _
    refine st_5 _ ?_
    show Steps pP.tables eE below (T_5.setTop (mkF mM 33 #[.val (.ref a), .val (.ref b), .val (.ref b)] [(.int (0 : Int32)), (.int (0 : Int32))])) _
    refine XS.icmpNo X_5.here hx rfl (hb hby d_jdk_42m66_33) rfl (by decide) ?_
    show Steps pP.tables eE below (T_5.setTop (mkF mM 36 #[.val (.ref a), .val (.ref b), .val (.ref b)] [])) _
    refine XS.aloadN X_5.here hx rfl (hb hby d_jdk_42m66_36) rfl rfl ?_
    show Steps pP.tables eE below (T_5.setTop (mkF mM 37 #[.val (.ref a), .val (.ref b), .val (.ref b)] [(.ref a)])) _
    refine st_6 _ ?_
    show Steps pP.tables eE below (T_6.setTop (mkF mM 40 #[.val (.ref a), .val (.ref b), .val (.ref b)] [(.ref d)])) _
    refine XS.aloadN X_6.here hx rfl (hb hby d_jdk_42m66_40) rfl rfl ?_
    show Steps pP.tables eE below (T_6.setTop (mkF mM 41 #[.val (.ref a), .val (.ref b), .val (.ref b)] [(.ref b), (.ref d)])) _
    refine st_7 _ ?_
    show Steps pP.tables eE below (T_7.setTop (mkF mM 44 #[.val (.ref a), .val (.ref b), .val (.ref b)] [(.ref e2), (.ref d)])) _
    refine st_8 _ ?_
    show Steps pP.tables eE below (T_8.setTop (mkF mM 47 #[.val (.ref a), .val (.ref b), .val (.ref b)] [(.int (0 : Int32))])) _
    refine XS.ifYes X_8.here hx rfl (pc0 := 47) (pc' := 54) rfl (hb hby d_jdk_42m66_47) rfl (by decide) (by decide) (by decide) ?_
    show Steps pP.tables eE below (T_8.setTop (mkF mM 54 #[.val (.ref a), .val (.ref b), .val (.ref b)] [])) _
    refine XS.iconst X_8.here hx rfl (hb hby d_jdk_42m66_54) ?_
    show Steps pP.tables eE below (T_8.setTop (mkF mM 55 #[.val (.ref a), .val (.ref b), .val (.ref b)] [(.int (0 : Int32))])) _
    exact retN X_8 hx (t := .boolean) Bd.returns (by simp) (hb hby d_jdk_42m66_55) hr
  · show Q_eq0 Z a b d k e2 k2 x0 y0 cs h0 n0 _ T_8.heap _
    rw [eh_8]
    exact ⟨rfl, N_8, rfl⟩
theorem pd_1 : parseMethodDescriptor "(I)Lcom/example/querent/querent/jpql/ArithmeticOperator;" = some ⟨[.int], some (.object "com/example/querent/querent/jpql/ArithmeticOperator")⟩ := by decide +kernel
theorem pd_2 : parseMethodDescriptor "()Ljava/lang/String;" = some ⟨[], some (.object "java/lang/String")⟩ := by decide +kernel
theorem pd_3 : parseMethodDescriptor "(Ljava/lang/Object;)Z" = some ⟨[(.object "java/lang/Object")], some .boolean⟩ := by decide +kernel
theorem pd_4 : parseMethodDescriptor "()Z" = some ⟨[], some .boolean⟩ := by decide +kernel
theorem ef_law0 (mM : MethodId) (x0 : Int32) : entryFrame mM #[(.int x0)] maxLocals = mkF mM 0 #[.val (.int x0), .unset, .unset, .unset, .unset, .unset] [] := by first | (simp [entryFrame, mkF, argsToLocals, Value.category, maxLocals]; done) | rfl
def Q_law0 (Z : State) (p1 : Int32) (oa : Addr) (os : Addr) (t : Addr) (tv : Addr) (kt : ClassId) (cs : Int32) (h0 : Heap) (n0 : Nat) (v_ : Option Value) (h_ : Heap) (L_ : List Loc) : Prop := v_ = some (.int (1 : Int32)) ∧ Fr n0 L_
set_option maxRecDepth 65536 in
set_option maxHeartbeats 40000000 in
theorem rm_law0 (l : Launch) (Z : State) (a0 : Array Value) (hw : ∀ d ∈ tables_1, d.before a0 Z = true) (ws : List Jvm.Cond) (p1 : Int32) (oa : Addr) (os : Addr) (t : Addr) (tv : Addr) (kt : ClassId) (cs : Int32) (h0 : Heap) (n0 : Nat) (Z0 : n0 ≤ h0.size) (hk : (p1 &&& (3 : Int32)) = (0 : Int32)) (S_ArithmeticOperator_ADD : Sta Z h0 "com/example/querent/querent/jpql/ArithmeticOperator" "ADD" "Lcom/example/querent/querent/jpql/ArithmeticOperator;" (.ref oa)) (S_ArithmeticOperator_SUBTRACT : Sta Z h0 "com/example/querent/querent/jpql/ArithmeticOperator" "SUBTRACT" "Lcom/example/querent/querent/jpql/ArithmeticOperator;" (.ref os)) (E_oa : Exa Z h0 oa "com/example/querent/querent/jpql/ArithmeticOperator") (F_symbol_oa : Fld Z h0 oa "com/example/querent/querent/jpql/ArithmeticOperator" "symbol" "Ljava/lang/String;" (.ref t)) (F_value_t : Fld Z h0 t "java/lang/String" "value" "[B" (.ref tv)) (F_coder_t : Fld Z h0 t "java/lang/String" "coder" "B" (.int (0 : Int32))) (E_t : Exa Z h0 t "java/lang/String") (V_tv : Arv Z h0 tv kt .byte (1 : Int32) [(.int (43 : Int32))] (.int (0 : Int32))) (S_String_COMPACT_STRINGS : Sta Z h0 "java/lang/String" "COMPACT_STRINGS" "Z" (.int cs)) (hcs : ¬ cs = 0) :
    MetFree l x (head1 (Jvm.Cond.code x code maxLocals ret :: ws) room_1) (fun aa_ U_ => aa_ = #[(.int p1)] ∧ Z.Warmed39 U_.vm ∧ U_.heap = h0 ∧ CHv Z own_EL U_.vm h0) (fun _ _ _ _ _ => True) (fun _ U_ o_ U'_ => ∃ v_ L_, o_ = .returned v_ ∧ Q_law0 Z p1 oa os t tv kt cs h0 n0 v_ U'_.heap L_ ∧ ReturnedEndW U_ o_ U'_ L_ 2 8) := by
  refine MetFree.of_bodySF (plainFor_of_name pn_0) hisR ?_
  intro pP eE sS mM argsA below meth cC s₁ Bd hml0 hP hK
  obtain ⟨rfl, hZ, hh, hCH⟩ := hP
  have hx := Bd.exec
  have hby := Bd.bytes
  have hml : cC.maxLocals = 6 := hml0
  have hown : sS.vm.findClass "com/example/querent/querent/jpql/ArithmeticOperatorIsAdditivePinLaw" = some mM.cls := findClass_of_methodNamed Bd.named
  have hnm := (name_of_methodNamed Bd.named Bd.method).1
  have X0 : Stand pP l eE room_1 (sS.setVm sS.vm) mM #[(.int p1)] below meth cC s₁ [] 0 0 := Stand.of_body Bd
  have e0 : s₁.heap = h0 := by rw [← hh, Bd.state]; rfl
  have N0 := Fr.nil n0
  have pre0 : ∀ t_, Steps pP.tables eE below (s₁.setTop (mkF mM 0 #[.val (.int p1), .unset, .unset, .unset, .unset, .unset] [])) t_ → Steps pP.tables eE below (s₁.setTop (entryFrame mM #[(.int p1)] maxLocals)) t_ := fun t_ k_ => castTop (ef_law0 mM p1) k_
  have hZ : Z.Warmed39 (sS.setVm sS.vm).vm := hZ
  have hown : (sS.setVm sS.vm).vm.findClass "com/example/querent/querent/jpql/ArithmeticOperatorIsAdditivePinLaw" = some mM.cls := hown
  have hS0 : sS.Since sS.vm 0 := (State.WarmedH.refl sS).since 0
  have hk0 : 0 ≤ h0.size := Nat.zero_le _
  obtain ⟨_, _, ⟨T_1, L_1, k_1, n_1⟩, -, X_1, ⟨Lc_1, hQ_1, l_1, y_1, z_1⟩, st_1⟩ := Jvm.LawKit.callS X0 hx (y := (⟨"com/example/querent/querent/jpql/ArithmeticOperatorIsAdditivePinLaw", "pick", "(I)Lcom/example/querent/querent/jpql/ArithmeticOperator;"⟩ : MethodName)) hown (mvT hZ (hw _ (List.mem_of_getElem? (i := 0) rfl))) (mvT hZ (hw _ (List.mem_of_getElem? (i := 1) rfl))) (mvT hZ (hw _ (List.mem_of_getElem? (i := 2) rfl))) (mvT hZ (hw _ (List.mem_of_getElem? (i := 3) rfl))) (by decide) (backOf (W := 0) (rm_pick0 l Z a0 hw [] oa h0 n0 Z0 S_ArithmeticOperator_ADD) hZ (hw _ (List.mem_of_getElem? (i := 3) rfl)) (hw _ (List.mem_of_getElem? (i := 2) rfl)) (by decide) (by decide)) (g := (mkF mM 5 #[.val (.int p1), .val (.int (0 : Int32)), .unset, .unset, .unset, .unset] [(.int (0 : Int32))])) rfl (by rw [hml]; rfl) (argsL := [(.int (0 : Int32))]) (rest := []) (lenOf pd_1 rfl) rfl (by show 2 * 0 + _ ≤ _; exact Nat.le_of_eq rfl) (hb hby at_5) (fun _ _ => ⟨rfl, e0, (by decide : 0 + 0 ≤ _), (by decide : 0 + 0 ≤ _)⟩)
  dsimp only [Pt.U, Pt.locs, Pt.cells, Pt.slots] at X_1 l_1 y_1 z_1 st_1 hQ_1
  subst l_1 y_1 z_1
  obtain ⟨rfl, N_1q, eh_1⟩ := hQ_1
  have N_1 := Fr.app N0 N_1q
  obtain ⟨cq_2, kq_2, q_2a, q_2b, q_2c⟩ := isOf hZ eh_1 E_oa
  obtain ⟨_, _, ⟨T_2, L_2, k_2, n_2⟩, -, X_2, ⟨Lc_2, hQ_2, l_2, y_2, z_2⟩, st_2⟩ := X_1.virtualBack hx (y := (⟨"com/example/querent/querent/jpql/ArithmeticOperator", "symbol", "()Ljava/lang/String;"⟩ : MethodName)) (z := (⟨"com/example/querent/querent/jpql/ArithmeticOperator", "symbol", "()Ljava/lang/String;"⟩ : MethodName)) hown (mvT hZ (hw _ (List.mem_of_getElem? (i := 7) rfl))) (mvT hZ (hw _ (List.mem_of_getElem? (i := 8) rfl))) (notFace_of_selects (args := #[]) (mvT hZ (hw _ (List.mem_of_getElem? (i := 10) rfl)))) (mvT hZ (hw _ (List.mem_of_getElem? (i := 10) rfl))) (mvT hZ (hw _ (List.mem_of_getElem? (i := 9) rfl))) (by decide) (backOf (W := 0) (rm_sym l Z a0 hw [] oa t h0 n0 Z0 F_symbol_oa) hZ (hw _ (List.mem_of_getElem? (i := 11) rfl)) (hw _ (List.mem_of_getElem? (i := 5) rfl)) (by decide) (by decide)) q_2a q_2c (g := (mkF mM 21 #[.val (.int p1), .val (.int (0 : Int32)), .val (.ref oa), .val (.int (1 : Int32)), .unset, .unset] [(.ref oa)])) rfl (by rw [hml]; rfl) (Steps.refl _) (argsL := []) (rest := []) (lenOf pd_2 rfl) rfl (by show 2 * 0 + _ ≤ _; exact Nat.le_of_eq rfl) (hb hby at_21) (fun _ _ => ⟨rfl, eh_1, (by decide : 0 + 0 ≤ _), (by decide : 0 + 0 ≤ _)⟩)
  dsimp only [Pt.U, Pt.locs, Pt.cells, Pt.slots] at X_2 l_2 y_2 z_2 st_2 hQ_2
  subst l_2 y_2 z_2
  obtain ⟨rfl, N_2q, eh_2⟩ := hQ_2
  have N_2 := Fr.app N_1 N_2q
  obtain ⟨a_3, T_3, h_3, k_3, d_3, kd_3, X_3, e_3, E_3, hS_3, hk_3, hZ_3, hown_3, Es_3, Fc_3, Fv_3, Vs_3, -, -, CH_3, -, Sf_3, st_3⟩ := ldcCH X_2 hx hZ hown (hw _ (List.mem_of_getElem? (i := 14) rfl)) (own_wS hw) eh_2 hS0 hk0 (own_EW hw) (List.mem_of_getElem? (i := 0) rfl) hCH (vs := [(.int (43 : Int32))]) (z := (1 : Int32)) ⟨by decide, rfl⟩ (by decide) rfl (g := (mkF mM 28 #[.val (.int p1), .val (.int (0 : Int32)), .val (.ref oa), .val (.int (1 : Int32)), .val (.ref t), .unset] [(.ref t)])) rfl (hb hby at_28) (n := 4) (by decide) (by decide) (by decide) (by decide)
  have Z_3 : n0 ≤ h_3.size := (Nat.le_trans Z0 E_3.1)
  have K_3 : Keep h0 h_3 [] := (Keep.refl h0 []).ext E_3
  obtain ⟨cq_4, kq_4, q_4a, q_4b, q_4c⟩ := isOf hZ_3 e_3 (E_t.ext E_3)
  obtain ⟨_, _, ⟨T_4, L_4, k_4, n_4⟩, -, X_4, ⟨Lc_4, hQ_4, l_4, y_4, z_4⟩, st_4⟩ := X_3.virtualBack hx (y := (⟨"java/lang/String", "equals", "(Ljava/lang/Object;)Z"⟩ : MethodName)) (z := (⟨"java/lang/String", "equals", "(Ljava/lang/Object;)Z"⟩ : MethodName)) hown_3 (mvT hZ_3 (hw _ (List.mem_of_getElem? (i := 22) rfl))) (mvT hZ_3 (hw _ (List.mem_of_getElem? (i := 23) rfl))) (notFace_of_selects (args := #[]) (mvT hZ_3 (hw _ (List.mem_of_getElem? (i := 25) rfl)))) (mvT hZ_3 (hw _ (List.mem_of_getElem? (i := 25) rfl))) (mvT hZ_3 (hw _ (List.mem_of_getElem? (i := 24) rfl))) (by decide) (backOf (W := 0) (rm_eq1 l Z a0 hw [] t a_3 tv kt d_3 kd_3 (43 : Int32) cs h_3 n0 Z_3 (F_value_t.ext E_3) (F_coder_t.ext E_3) (E_t.ext E_3) Fv_3 Fc_3 Es_3 (V_tv.ext E_3) Vs_3 (S_String_COMPACT_STRINGS.ext E_3) hcs) hZ_3 (hw _ (List.mem_of_getElem? (i := 26) rfl)) (hw _ (List.mem_of_getElem? (i := 15) rfl)) (by decide) (by decide)) q_4a q_4c (g := (mkF mM 30 #[.val (.int p1), .val (.int (0 : Int32)), .val (.ref oa), .val (.int (1 : Int32)), .val (.ref t), .unset] [(.ref a_3), (.ref t)])) rfl (by rw [hml]; rfl) (Steps.refl _) (argsL := [(.ref a_3)]) (rest := []) (lenOf pd_3 rfl) rfl (by show 2 * 0 + _ ≤ _; exact Nat.le_of_eq rfl) (hb hby at_30) (fun _ _ => ⟨rfl, e_3, (by decide : 2 + 0 ≤ _), (by decide : 8 + 0 ≤ _)⟩)
  dsimp only [Pt.U, Pt.locs, Pt.cells, Pt.slots] at X_4 l_4 y_4 z_4 st_4 hQ_4
  subst l_4 y_4 z_4
  obtain ⟨rfl, N_4q, eh_4⟩ := hQ_4
  have N_4 := Fr.app N_2 N_4q
  obtain ⟨cq_5, kq_5, q_5a, q_5b, q_5c⟩ := isOf hZ_3 eh_4 (E_oa.ext E_3)
  obtain ⟨_, _, ⟨T_5, L_5, k_5, n_5⟩, -, X_5, ⟨Lc_5, hQ_5, l_5, y_5, z_5⟩, st_5⟩ := X_4.virtualBack hx (y := (⟨"com/example/querent/querent/jpql/ArithmeticOperator", "isAdditive", "()Z"⟩ : MethodName)) (z := (⟨"com/example/querent/querent/jpql/ArithmeticOperator", "isAdditive", "()Z"⟩ : MethodName)) hown_3 (mvT hZ_3 (hw _ (List.mem_of_getElem? (i := 36) rfl))) (mvT hZ_3 (hw _ (List.mem_of_getElem? (i := 37) rfl))) (notFace_of_selects (args := #[]) (mvT hZ_3 (hw _ (List.mem_of_getElem? (i := 39) rfl)))) (mvT hZ_3 (hw _ (List.mem_of_getElem? (i := 39) rfl))) (mvT hZ_3 (hw _ (List.mem_of_getElem? (i := 38) rfl))) (by decide) (backOf (W := 0) (rm_isa0 l Z a0 hw [] oa h_3 n0 Z_3 (S_ArithmeticOperator_ADD.ext E_3)) hZ_3 (hw _ (List.mem_of_getElem? (i := 40) rfl)) (hw _ (List.mem_of_getElem? (i := 5) rfl)) (by decide) (by decide)) q_5a q_5c (g := (mkF mM 54 #[.val (.int p1), .val (.int (0 : Int32)), .val (.ref oa), .val (.int (1 : Int32)), .val (.ref t), .val (.int (1 : Int32))] [(.ref oa)])) rfl (by rw [hml]; rfl) (Steps.refl _) (argsL := []) (rest := []) (lenOf pd_4 rfl) rfl (by show 2 * 0 + _ ≤ _; exact Nat.le_of_eq rfl) (hb hby at_54) (fun _ _ => ⟨rfl, eh_4, (by decide : 2 + 0 ≤ _), (by decide : 8 + 0 ≤ _)⟩)
  dsimp only [Pt.U, Pt.locs, Pt.cells, Pt.slots] at X_5 l_5 y_5 z_5 st_5 hQ_5
  subst l_5 y_5 z_5
  obtain ⟨rfl, N_5q, eh_5⟩ := hQ_5
  have N_5 := Fr.app N_4 N_5q
  obtain ⟨fs, hr, hrun, hended, hRE⟩ := X_5.leaveW hS_3 (show _ ≤ T_5.heap.size by rw [eh_5]; exact hk_3) (v := some (.int (1 : Int32))) (fun h => by rw [Bd.returns] at h; cases h)
  refine ⟨_, _, pre0 _ ?_, hrun, hended, _, _, rfl, ?_, ⟨_, rfl⟩, hRE.2.1, hRE.2.2.1, hRE.2.2.2.mono (by decide) (by decide)⟩
  · show Steps pP.tables eE below (s₁.setTop (mkF mM 0 #[.val (.int p1), .unset, .unset, .unset, .unset, .unset] [])) _
    refine XS.iloadN X0.here hx rfl (hb hby at_0) rfl ?_
    show Steps pP.tables eE below (s₁.setTop (mkF mM 1 #[.val (.int p1), .unset, .unset, .unset, .unset, .unset] [(.int p1)])) _
    refine XS.iconst X0.here hx rfl (hb hby at_1) ?_
    show Steps pP.tables eE below (s₁.setTop (mkF mM 2 #[.val (.int p1), .unset, .unset, .unset, .unset, .unset] [(.int (3 : Int32)), (.int p1)])) _
    refine XS.iand X0.here hx rfl (hb hby at_2) rfl ?_
    show Steps pP.tables eE below (s₁.setTop (mkF mM 3 #[.val (.int p1), .unset, .unset, .unset, .unset, .unset] [(.int (p1 &&& (3 : Int32)))])) _
    rw [hk]
    show Steps pP.tables eE below (s₁.setTop (mkF mM 3 #[.val (.int p1), .unset, .unset, .unset, .unset, .unset] [(.int (0 : Int32))])) _
    refine XS.istoreN X0.here hx rfl (hb hby at_3) rfl (l' := #[.val (.int p1), .val (.int (0 : Int32)), .unset, .unset, .unset, .unset]) rfl ?_
    show Steps pP.tables eE below (s₁.setTop (mkF mM 4 #[.val (.int p1), .val (.int (0 : Int32)), .unset, .unset, .unset, .unset] [])) _
    refine XS.iloadN X0.here hx rfl (hb hby at_4) rfl ?_
    show Steps pP.tables eE below (s₁.setTop (mkF mM 5 #[.val (.int p1), .val (.int (0 : Int32)), .unset, .unset, .unset, .unset] [(.int (0 : Int32))])) _
    refine st_1 _ ?_
    show Steps pP.tables eE below (T_1.setTop (mkF mM 8 #[.val (.int p1), .val (.int (0 : Int32)), .unset, .unset, .unset, .unset] [(.ref oa)])) _
    refine XS.astoreN X_1.here hx rfl (hb hby at_8) rfl rfl (l' := #[.val (.int p1), .val (.int (0 : Int32)), .val (.ref oa), .unset, .unset, .unset]) rfl ?_
    show Steps pP.tables eE below (T_1.setTop (mkF mM 9 #[.val (.int p1), .val (.int (0 : Int32)), .val (.ref oa), .unset, .unset, .unset] [])) _
    refine XS.iloadN X_1.here hx rfl (hb hby at_9) rfl ?_
    show Steps pP.tables eE below (T_1.setTop (mkF mM 10 #[.val (.int p1), .val (.int (0 : Int32)), .val (.ref oa), .unset, .unset, .unset] [(.int (0 : Int32))])) _
    refine XS.iconst X_1.here hx rfl (hb hby at_10) ?_
    show Steps pP.tables eE below (T_1.setTop (mkF mM 11 #[.val (.int p1), .val (.int (0 : Int32)), .val (.ref oa), .unset, .unset, .unset] [(.int (1 : Int32)), (.int (0 : Int32))])) _
    refine XS.icmpNo X_1.here hx rfl (hb hby at_11) rfl (by decide) ?_
    show Steps pP.tables eE below (T_1.setTop (mkF mM 14 #[.val (.int p1), .val (.int (0 : Int32)), .val (.ref oa), .unset, .unset, .unset] [])) _
    refine XS.iconst X_1.here hx rfl (hb hby at_14) ?_
    show Steps pP.tables eE below (T_1.setTop (mkF mM 15 #[.val (.int p1), .val (.int (0 : Int32)), .val (.ref oa), .unset, .unset, .unset] [(.int (1 : Int32))])) _
    refine XS.goto X_1.here hx rfl (pc0 := 15) (pc' := 19) rfl (hb hby at_15) (by decide) (by decide) ?_
    show Steps pP.tables eE below (T_1.setTop (mkF mM 19 #[.val (.int p1), .val (.int (0 : Int32)), .val (.ref oa), .unset, .unset, .unset] [(.int (1 : Int32))])) _
    refine XS.istoreN X_1.here hx rfl (hb hby at_19) rfl (l' := #[.val (.int p1), .val (.int (0 : Int32)), .val (.ref oa), .val (.int (1 : Int32)), .unset, .unset]) rfl ?_
    show Steps pP.tables eE below (T_1.setTop (mkF mM 20 #[.val (.int p1), .val (.int (0 : Int32)), .val (.ref oa), .val (.int (1 : Int32)), .unset, .unset] [])) _
    refine XS.aloadN X_1.here hx rfl (hb hby at_20) rfl rfl ?_
    show Steps pP.tables eE below (T_1.setTop (mkF mM 21 #[.val (.int p1), .val (.int (0 : Int32)), .val (.ref oa), .val (.int (1 : Int32)), .unset, .unset] [(.ref oa)])) _
    refine st_2.trans ?_
    show Steps pP.tables eE below (T_2.setTop (mkF mM 24 #[.val (.int p1), .val (.int (0 : Int32)), .val (.ref oa), .val (.int (1 : Int32)), .unset, .unset] [(.ref t)])) _
    refine XS.astore X_2.here hx rfl (hb hby at_24) rfl rfl (l' := #[.val (.int p1), .val (.int (0 : Int32)), .val (.ref oa), .val (.int (1 : Int32)), .val (.ref t), .unset]) rfl ?_
    show Steps pP.tables eE below (T_2.setTop (mkF mM 26 #[.val (.int p1), .val (.int (0 : Int32)), .val (.ref oa), .val (.int (1 : Int32)), .val (.ref t), .unset] [])) _
    refine XS.aload X_2.here hx rfl (hb hby at_26) rfl rfl ?_
    show Steps pP.tables eE below (T_2.setTop (mkF mM 28 #[.val (.int p1), .val (.int (0 : Int32)), .val (.ref oa), .val (.int (1 : Int32)), .val (.ref t), .unset] [(.ref t)])) _
    refine st_3 _ ?_
    show Steps pP.tables eE below (T_3.setTop (mkF mM 30 #[.val (.int p1), .val (.int (0 : Int32)), .val (.ref oa), .val (.int (1 : Int32)), .val (.ref t), .unset] [(.ref a_3), (.ref t)])) _
    refine st_4.trans ?_
    show Steps pP.tables eE below (T_4.setTop (mkF mM 33 #[.val (.int p1), .val (.int (0 : Int32)), .val (.ref oa), .val (.int (1 : Int32)), .val (.ref t), .unset] [(.int (1 : Int32))])) _
    refine XS.ifYes X_4.here hx rfl (pc0 := 33) (pc' := 46) rfl (hb hby at_33) rfl (by decide) (by decide) (by decide) ?_
    show Steps pP.tables eE below (T_4.setTop (mkF mM 46 #[.val (.int p1), .val (.int (0 : Int32)), .val (.ref oa), .val (.int (1 : Int32)), .val (.ref t), .unset] [])) _
    refine XS.iconst X_4.here hx rfl (hb hby at_46) ?_
    show Steps pP.tables eE below (T_4.setTop (mkF mM 47 #[.val (.int p1), .val (.int (0 : Int32)), .val (.ref oa), .val (.int (1 : Int32)), .val (.ref t), .unset] [(.int (1 : Int32))])) _
    refine XS.goto X_4.here hx rfl (pc0 := 47) (pc' := 51) rfl (hb hby at_47) (by decide) (by decide) ?_
    show Steps pP.tables eE below (T_4.setTop (mkF mM 51 #[.val (.int p1), .val (.int (0 : Int32)), .val (.ref oa), .val (.int (1 : Int32)), .val (.ref t), .unset] [(.int (1 : Int32))])) _
    refine XS.istore X_4.here hx rfl (hb hby at_51) rfl (l' := #[.val (.int p1), .val (.int (0 : Int32)), .val (.ref oa), .val (.int (1 : Int32)), .val (.ref t), .val (.int (1 : Int32))]) rfl ?_
    show Steps pP.tables eE below (T_4.setTop (mkF mM 53 #[.val (.int p1), .val (.int (0 : Int32)), .val (.ref oa), .val (.int (1 : Int32)), .val (.ref t), .val (.int (1 : Int32))] [])) _
    refine XS.aloadN X_4.here hx rfl (hb hby at_53) rfl rfl ?_
    show Steps pP.tables eE below (T_4.setTop (mkF mM 54 #[.val (.int p1), .val (.int (0 : Int32)), .val (.ref oa), .val (.int (1 : Int32)), .val (.ref t), .val (.int (1 : Int32))] [(.ref oa)])) _
    refine st_5.trans ?_
    show Steps pP.tables eE below (T_5.setTop (mkF mM 57 #[.val (.int p1), .val (.int (0 : Int32)), .val (.ref oa), .val (.int (1 : Int32)), .val (.ref t), .val (.int (1 : Int32))] [(.int (1 : Int32))])) _
    refine XS.iloadN X_5.here hx rfl (hb hby at_57) rfl ?_
    show Steps pP.tables eE below (T_5.setTop (mkF mM 58 #[.val (.int p1), .val (.int (0 : Int32)), .val (.ref oa), .val (.int (1 : Int32)), .val (.ref t), .val (.int (1 : Int32))] [(.int (1 : Int32)), (.int (1 : Int32))])) _
    refine XS.icmpNo X_5.here hx rfl (hb hby at_58) rfl (by decide) ?_
    show Steps pP.tables eE below (T_5.setTop (mkF mM 61 #[.val (.int p1), .val (.int (0 : Int32)), .val (.ref oa), .val (.int (1 : Int32)), .val (.ref t), .val (.int (1 : Int32))] [])) _
    refine XS.iload X_5.here hx rfl (hb hby at_61) rfl ?_
    show Steps pP.tables eE below (T_5.setTop (mkF mM 63 #[.val (.int p1), .val (.int (0 : Int32)), .val (.ref oa), .val (.int (1 : Int32)), .val (.ref t), .val (.int (1 : Int32))] [(.int (1 : Int32))])) _
    refine XS.iloadN X_5.here hx rfl (hb hby at_63) rfl ?_
    show Steps pP.tables eE below (T_5.setTop (mkF mM 64 #[.val (.int p1), .val (.int (0 : Int32)), .val (.ref oa), .val (.int (1 : Int32)), .val (.ref t), .val (.int (1 : Int32))] [(.int (1 : Int32)), (.int (1 : Int32))])) _
    refine XS.icmpNo X_5.here hx rfl (hb hby at_64) rfl (by decide) ?_
    show Steps pP.tables eE below (T_5.setTop (mkF mM 67 #[.val (.int p1), .val (.int (0 : Int32)), .val (.ref oa), .val (.int (1 : Int32)), .val (.ref t), .val (.int (1 : Int32))] [])) _
    refine XS.iconst X_5.here hx rfl (hb hby at_67) ?_
    show Steps pP.tables eE below (T_5.setTop (mkF mM 68 #[.val (.int p1), .val (.int (0 : Int32)), .val (.ref oa), .val (.int (1 : Int32)), .val (.ref t), .val (.int (1 : Int32))] [(.int (1 : Int32))])) _
    refine XS.goto X_5.here hx rfl (pc0 := 68) (pc' := 72) rfl (hb hby at_68) (by decide) (by decide) ?_
    show Steps pP.tables eE below (T_5.setTop (mkF mM 72 #[.val (.int p1), .val (.int (0 : Int32)), .val (.ref oa), .val (.int (1 : Int32)), .val (.ref t), .val (.int (1 : Int32))] [(.int (1 : Int32))])) _
    exact retN X_5 hx (t := .boolean) Bd.returns (by simp) (hb hby at_72) hr
  · show Q_law0 Z p1 oa os t tv kt cs h0 n0 _ T_5.heap _
    exact ⟨rfl, N_5⟩
theorem ef_law1 (mM : MethodId) (x0 : Int32) : entryFrame mM #[(.int x0)] maxLocals = mkF mM 0 #[.val (.int x0), .unset, .unset, .unset, .unset, .unset] [] := by first | (simp [entryFrame, mkF, argsToLocals, Value.category, maxLocals]; done) | rfl
def Q_law1 (Z : State) (p1 : Int32) (oa : Addr) (os : Addr) (t : Addr) (tv : Addr) (kt : ClassId) (cs : Int32) (h0 : Heap) (n0 : Nat) (v_ : Option Value) (h_ : Heap) (L_ : List Loc) : Prop := v_ = some (.int (1 : Int32)) ∧ Fr n0 L_
set_option maxRecDepth 65536 in
set_option maxHeartbeats 40000000 in
theorem rm_law1 (l : Launch) (Z : State) (a0 : Array Value) (hw : ∀ d ∈ tables_1, d.before a0 Z = true) (ws : List Jvm.Cond) (p1 : Int32) (oa : Addr) (os : Addr) (t : Addr) (tv : Addr) (kt : ClassId) (cs : Int32) (h0 : Heap) (n0 : Nat) (Z0 : n0 ≤ h0.size) (hk : (p1 &&& (3 : Int32)) = (1 : Int32)) (S_ArithmeticOperator_ADD : Sta Z h0 "com/example/querent/querent/jpql/ArithmeticOperator" "ADD" "Lcom/example/querent/querent/jpql/ArithmeticOperator;" (.ref oa)) (S_ArithmeticOperator_SUBTRACT : Sta Z h0 "com/example/querent/querent/jpql/ArithmeticOperator" "SUBTRACT" "Lcom/example/querent/querent/jpql/ArithmeticOperator;" (.ref os)) (E_os : Exa Z h0 os "com/example/querent/querent/jpql/ArithmeticOperator") (F_symbol_os : Fld Z h0 os "com/example/querent/querent/jpql/ArithmeticOperator" "symbol" "Ljava/lang/String;" (.ref t)) (F_value_t : Fld Z h0 t "java/lang/String" "value" "[B" (.ref tv)) (F_coder_t : Fld Z h0 t "java/lang/String" "coder" "B" (.int (0 : Int32))) (E_t : Exa Z h0 t "java/lang/String") (V_tv : Arv Z h0 tv kt .byte (1 : Int32) [(.int (45 : Int32))] (.int (0 : Int32))) (S_String_COMPACT_STRINGS : Sta Z h0 "java/lang/String" "COMPACT_STRINGS" "Z" (.int cs)) (hcs : ¬ cs = 0) (n1 : os ≠ oa) :
    MetFree l x (head1 (Jvm.Cond.code x code maxLocals ret :: ws) room_1) (fun aa_ U_ => aa_ = #[(.int p1)] ∧ Z.Warmed39 U_.vm ∧ U_.heap = h0 ∧ CHv Z own_EL U_.vm h0) (fun _ _ _ _ _ => True) (fun _ U_ o_ U'_ => ∃ v_ L_, o_ = .returned v_ ∧ Q_law1 Z p1 oa os t tv kt cs h0 n0 v_ U'_.heap L_ ∧ ReturnedEndW U_ o_ U'_ L_ 4 16) := by
  refine MetFree.of_bodySF (plainFor_of_name pn_0) hisR ?_
  intro pP eE sS mM argsA below meth cC s₁ Bd hml0 hP hK
  obtain ⟨rfl, hZ, hh, hCH⟩ := hP
  have hx := Bd.exec
  have hby := Bd.bytes
  have hml : cC.maxLocals = 6 := hml0
  have hown : sS.vm.findClass "com/example/querent/querent/jpql/ArithmeticOperatorIsAdditivePinLaw" = some mM.cls := findClass_of_methodNamed Bd.named
  have hnm := (name_of_methodNamed Bd.named Bd.method).1
  have X0 : Stand pP l eE room_1 (sS.setVm sS.vm) mM #[(.int p1)] below meth cC s₁ [] 0 0 := Stand.of_body Bd
  have e0 : s₁.heap = h0 := by rw [← hh, Bd.state]; rfl
  have N0 := Fr.nil n0
  have pre0 : ∀ t_, Steps pP.tables eE below (s₁.setTop (mkF mM 0 #[.val (.int p1), .unset, .unset, .unset, .unset, .unset] [])) t_ → Steps pP.tables eE below (s₁.setTop (entryFrame mM #[(.int p1)] maxLocals)) t_ := fun t_ k_ => castTop (ef_law1 mM p1) k_
  have hZ : Z.Warmed39 (sS.setVm sS.vm).vm := hZ
  have hown : (sS.setVm sS.vm).vm.findClass "com/example/querent/querent/jpql/ArithmeticOperatorIsAdditivePinLaw" = some mM.cls := hown
  have hS0 : sS.Since sS.vm 0 := (State.WarmedH.refl sS).since 0
  have hk0 : 0 ≤ h0.size := Nat.zero_le _
  obtain ⟨_, _, ⟨T_1, L_1, k_1, n_1⟩, -, X_1, ⟨Lc_1, hQ_1, l_1, y_1, z_1⟩, st_1⟩ := Jvm.LawKit.callS X0 hx (y := (⟨"com/example/querent/querent/jpql/ArithmeticOperatorIsAdditivePinLaw", "pick", "(I)Lcom/example/querent/querent/jpql/ArithmeticOperator;"⟩ : MethodName)) hown (mvT hZ (hw _ (List.mem_of_getElem? (i := 0) rfl))) (mvT hZ (hw _ (List.mem_of_getElem? (i := 1) rfl))) (mvT hZ (hw _ (List.mem_of_getElem? (i := 2) rfl))) (mvT hZ (hw _ (List.mem_of_getElem? (i := 3) rfl))) (by decide) (backOf (W := 0) (rm_pick1 l Z a0 hw [] os h0 n0 Z0 S_ArithmeticOperator_SUBTRACT) hZ (hw _ (List.mem_of_getElem? (i := 3) rfl)) (hw _ (List.mem_of_getElem? (i := 2) rfl)) (by decide) (by decide)) (g := (mkF mM 5 #[.val (.int p1), .val (.int (1 : Int32)), .unset, .unset, .unset, .unset] [(.int (1 : Int32))])) rfl (by rw [hml]; rfl) (argsL := [(.int (1 : Int32))]) (rest := []) (lenOf pd_1 rfl) rfl (by show 2 * 0 + _ ≤ _; exact Nat.le_of_eq rfl) (hb hby at_5) (fun _ _ => ⟨rfl, e0, (by decide : 0 + 0 ≤ _), (by decide : 0 + 0 ≤ _)⟩)
  dsimp only [Pt.U, Pt.locs, Pt.cells, Pt.slots] at X_1 l_1 y_1 z_1 st_1 hQ_1
  subst l_1 y_1 z_1
  obtain ⟨rfl, N_1q, eh_1⟩ := hQ_1
  have N_1 := Fr.app N0 N_1q
  obtain ⟨cq_2, kq_2, q_2a, q_2b, q_2c⟩ := isOf hZ eh_1 E_os
  obtain ⟨_, _, ⟨T_2, L_2, k_2, n_2⟩, -, X_2, ⟨Lc_2, hQ_2, l_2, y_2, z_2⟩, st_2⟩ := X_1.virtualBack hx (y := (⟨"com/example/querent/querent/jpql/ArithmeticOperator", "symbol", "()Ljava/lang/String;"⟩ : MethodName)) (z := (⟨"com/example/querent/querent/jpql/ArithmeticOperator", "symbol", "()Ljava/lang/String;"⟩ : MethodName)) hown (mvT hZ (hw _ (List.mem_of_getElem? (i := 7) rfl))) (mvT hZ (hw _ (List.mem_of_getElem? (i := 8) rfl))) (notFace_of_selects (args := #[]) (mvT hZ (hw _ (List.mem_of_getElem? (i := 10) rfl)))) (mvT hZ (hw _ (List.mem_of_getElem? (i := 10) rfl))) (mvT hZ (hw _ (List.mem_of_getElem? (i := 9) rfl))) (by decide) (backOf (W := 0) (rm_sym l Z a0 hw [] os t h0 n0 Z0 F_symbol_os) hZ (hw _ (List.mem_of_getElem? (i := 11) rfl)) (hw _ (List.mem_of_getElem? (i := 5) rfl)) (by decide) (by decide)) q_2a q_2c (g := (mkF mM 21 #[.val (.int p1), .val (.int (1 : Int32)), .val (.ref os), .val (.int (1 : Int32)), .unset, .unset] [(.ref os)])) rfl (by rw [hml]; rfl) (Steps.refl _) (argsL := []) (rest := []) (lenOf pd_2 rfl) rfl (by show 2 * 0 + _ ≤ _; exact Nat.le_of_eq rfl) (hb hby at_21) (fun _ _ => ⟨rfl, eh_1, (by decide : 0 + 0 ≤ _), (by decide : 0 + 0 ≤ _)⟩)
  dsimp only [Pt.U, Pt.locs, Pt.cells, Pt.slots] at X_2 l_2 y_2 z_2 st_2 hQ_2
  subst l_2 y_2 z_2
  obtain ⟨rfl, N_2q, eh_2⟩ := hQ_2
  have N_2 := Fr.app N_1 N_2q
  obtain ⟨a_3, T_3, h_3, k_3, d_3, kd_3, X_3, e_3, E_3, hS_3, hk_3, hZ_3, hown_3, Es_3, Fc_3, Fv_3, Vs_3, -, -, CH_3, -, Sf_3, st_3⟩ := ldcCH X_2 hx hZ hown (hw _ (List.mem_of_getElem? (i := 14) rfl)) (own_wS hw) eh_2 hS0 hk0 (own_EW hw) (List.mem_of_getElem? (i := 0) rfl) hCH (vs := [(.int (43 : Int32))]) (z := (1 : Int32)) ⟨by decide, rfl⟩ (by decide) rfl (g := (mkF mM 28 #[.val (.int p1), .val (.int (1 : Int32)), .val (.ref os), .val (.int (1 : Int32)), .val (.ref t), .unset] [(.ref t)])) rfl (hb hby at_28) (n := 4) (by decide) (by decide) (by decide) (by decide)
  have Z_3 : n0 ≤ h_3.size := (Nat.le_trans Z0 E_3.1)
  have K_3 : Keep h0 h_3 [] := (Keep.refl h0 []).ext E_3
  obtain ⟨cq_4, kq_4, q_4a, q_4b, q_4c⟩ := isOf hZ_3 e_3 (E_t.ext E_3)
  obtain ⟨_, _, ⟨T_4, L_4, k_4, n_4⟩, -, X_4, ⟨Lc_4, hQ_4, l_4, y_4, z_4⟩, st_4⟩ := X_3.virtualBack hx (y := (⟨"java/lang/String", "equals", "(Ljava/lang/Object;)Z"⟩ : MethodName)) (z := (⟨"java/lang/String", "equals", "(Ljava/lang/Object;)Z"⟩ : MethodName)) hown_3 (mvT hZ_3 (hw _ (List.mem_of_getElem? (i := 22) rfl))) (mvT hZ_3 (hw _ (List.mem_of_getElem? (i := 23) rfl))) (notFace_of_selects (args := #[]) (mvT hZ_3 (hw _ (List.mem_of_getElem? (i := 25) rfl)))) (mvT hZ_3 (hw _ (List.mem_of_getElem? (i := 25) rfl))) (mvT hZ_3 (hw _ (List.mem_of_getElem? (i := 24) rfl))) (by decide) (backOf (W := 0) (rm_eq0 l Z a0 hw [] t a_3 tv kt d_3 kd_3 (45 : Int32) (43 : Int32) cs h_3 n0 Z_3 (F_value_t.ext E_3) (F_coder_t.ext E_3) (E_t.ext E_3) Fv_3 Fc_3 Es_3 (V_tv.ext E_3) Vs_3 (S_String_COMPACT_STRINGS.ext E_3) hcs (own_nes (F_value_t.ext E_3) Fv_3 (V_tv.ext E_3) Vs_3 (by decide)) (by decide)) hZ_3 (hw _ (List.mem_of_getElem? (i := 26) rfl)) (hw _ (List.mem_of_getElem? (i := 15) rfl)) (by decide) (by decide)) q_4a q_4c (g := (mkF mM 30 #[.val (.int p1), .val (.int (1 : Int32)), .val (.ref os), .val (.int (1 : Int32)), .val (.ref t), .unset] [(.ref a_3), (.ref t)])) rfl (by rw [hml]; rfl) (Steps.refl _) (argsL := [(.ref a_3)]) (rest := []) (lenOf pd_3 rfl) rfl (by show 2 * 0 + _ ≤ _; exact Nat.le_of_eq rfl) (hb hby at_30) (fun _ _ => ⟨rfl, e_3, (by decide : 2 + 0 ≤ _), (by decide : 8 + 0 ≤ _)⟩)
  dsimp only [Pt.U, Pt.locs, Pt.cells, Pt.slots] at X_4 l_4 y_4 z_4 st_4 hQ_4
  subst l_4 y_4 z_4
  obtain ⟨rfl, N_4q, eh_4⟩ := hQ_4
  have N_4 := Fr.app N_2 N_4q
  obtain ⟨a_5, T_5, h_5, k_5, d_5, kd_5, X_5, e_5, E_5, hS_5, hk_5, hZ_5, hown_5, Es_5, Fc_5, Fv_5, Vs_5, -, -, CH_5, -, Sf_5, st_5⟩ := ldcCH X_4 hx hZ_3 hown_3 (hw _ (List.mem_of_getElem? (i := 44) rfl)) (own_wS hw) eh_4 hS_3 hk_3 (own_EW hw) (List.mem_of_getElem? (i := 1) rfl) CH_3.1 (vs := [(.int (45 : Int32))]) (z := (1 : Int32)) ⟨by decide, rfl⟩ (by decide) rfl (g := (mkF mM 38 #[.val (.int p1), .val (.int (1 : Int32)), .val (.ref os), .val (.int (1 : Int32)), .val (.ref t), .unset] [(.ref t)])) rfl (hb hby at_38) (n := 4) (by decide) (by decide) (by decide) (by decide)
  have Z_5 : n0 ≤ h_5.size := (Nat.le_trans Z_3 E_5.1)
  have K_5 : Keep h0 h_5 [] := K_3.ext E_5
  obtain ⟨cq_6, kq_6, q_6a, q_6b, q_6c⟩ := isOf hZ_5 e_5 ((E_t.ext E_3).ext E_5)
  obtain ⟨_, _, ⟨T_6, L_6, k_6, n_6⟩, -, X_6, ⟨Lc_6, hQ_6, l_6, y_6, z_6⟩, st_6⟩ := X_5.virtualBack hx (y := (⟨"java/lang/String", "equals", "(Ljava/lang/Object;)Z"⟩ : MethodName)) (z := (⟨"java/lang/String", "equals", "(Ljava/lang/Object;)Z"⟩ : MethodName)) hown_5 (mvT hZ_5 (hw _ (List.mem_of_getElem? (i := 22) rfl))) (mvT hZ_5 (hw _ (List.mem_of_getElem? (i := 23) rfl))) (notFace_of_selects (args := #[]) (mvT hZ_5 (hw _ (List.mem_of_getElem? (i := 25) rfl)))) (mvT hZ_5 (hw _ (List.mem_of_getElem? (i := 25) rfl))) (mvT hZ_5 (hw _ (List.mem_of_getElem? (i := 24) rfl))) (by decide) (backOf (W := 0) (rm_eq1 l Z a0 hw [] t a_5 tv kt d_5 kd_5 (45 : Int32) cs h_5 n0 Z_5 ((F_value_t.ext E_3).ext E_5) ((F_coder_t.ext E_3).ext E_5) ((E_t.ext E_3).ext E_5) Fv_5 Fc_5 Es_5 ((V_tv.ext E_3).ext E_5) Vs_5 ((S_String_COMPACT_STRINGS.ext E_3).ext E_5) hcs) hZ_5 (hw _ (List.mem_of_getElem? (i := 26) rfl)) (hw _ (List.mem_of_getElem? (i := 15) rfl)) (by decide) (by decide)) q_6a q_6c (g := (mkF mM 40 #[.val (.int p1), .val (.int (1 : Int32)), .val (.ref os), .val (.int (1 : Int32)), .val (.ref t), .unset] [(.ref a_5), (.ref t)])) rfl (by rw [hml]; rfl) (Steps.refl _) (argsL := [(.ref a_5)]) (rest := []) (lenOf pd_3 rfl) rfl (by show 2 * 0 + _ ≤ _; exact Nat.le_of_eq rfl) (hb hby at_40) (fun _ _ => ⟨rfl, e_5, (by decide : 4 + 0 ≤ _), (by decide : 16 + 0 ≤ _)⟩)
  dsimp only [Pt.U, Pt.locs, Pt.cells, Pt.slots] at X_6 l_6 y_6 z_6 st_6 hQ_6
  subst l_6 y_6 z_6
  obtain ⟨rfl, N_6q, eh_6⟩ := hQ_6
  have N_6 := Fr.app N_4 N_6q
  obtain ⟨cq_7, kq_7, q_7a, q_7b, q_7c⟩ := isOf hZ_5 eh_6 ((E_os.ext E_3).ext E_5)
  obtain ⟨_, _, ⟨T_7, L_7, k_7, n_7⟩, -, X_7, ⟨Lc_7, hQ_7, l_7, y_7, z_7⟩, st_7⟩ := X_6.virtualBack hx (y := (⟨"com/example/querent/querent/jpql/ArithmeticOperator", "isAdditive", "()Z"⟩ : MethodName)) (z := (⟨"com/example/querent/querent/jpql/ArithmeticOperator", "isAdditive", "()Z"⟩ : MethodName)) hown_5 (mvT hZ_5 (hw _ (List.mem_of_getElem? (i := 36) rfl))) (mvT hZ_5 (hw _ (List.mem_of_getElem? (i := 37) rfl))) (notFace_of_selects (args := #[]) (mvT hZ_5 (hw _ (List.mem_of_getElem? (i := 39) rfl)))) (mvT hZ_5 (hw _ (List.mem_of_getElem? (i := 39) rfl))) (mvT hZ_5 (hw _ (List.mem_of_getElem? (i := 38) rfl))) (by decide) (backOf (W := 0) (rm_isa1 l Z a0 hw [] oa os h_5 n0 Z_5 ((S_ArithmeticOperator_ADD.ext E_3).ext E_5) ((S_ArithmeticOperator_SUBTRACT.ext E_3).ext E_5) n1) hZ_5 (hw _ (List.mem_of_getElem? (i := 40) rfl)) (hw _ (List.mem_of_getElem? (i := 5) rfl)) (by decide) (by decide)) q_7a q_7c (g := (mkF mM 54 #[.val (.int p1), .val (.int (1 : Int32)), .val (.ref os), .val (.int (1 : Int32)), .val (.ref t), .val (.int (1 : Int32))] [(.ref os)])) rfl (by rw [hml]; rfl) (Steps.refl _) (argsL := []) (rest := []) (lenOf pd_4 rfl) rfl (by show 2 * 0 + _ ≤ _; exact Nat.le_of_eq rfl) (hb hby at_54) (fun _ _ => ⟨rfl, eh_6, (by decide : 4 + 0 ≤ _), (by decide : 16 + 0 ≤ _)⟩)
  dsimp only [Pt.U, Pt.locs, Pt.cells, Pt.slots] at X_7 l_7 y_7 z_7 st_7 hQ_7
  subst l_7 y_7 z_7
  obtain ⟨rfl, N_7q, eh_7⟩ := hQ_7
  have N_7 := Fr.app N_6 N_7q
  obtain ⟨fs, hr, hrun, hended, hRE⟩ := X_7.leaveW hS_5 (show _ ≤ T_7.heap.size by rw [eh_7]; exact hk_5) (v := some (.int (1 : Int32))) (fun h => by rw [Bd.returns] at h; cases h)
  refine ⟨_, _, pre0 _ ?_, hrun, hended, _, _, rfl, ?_, ⟨_, rfl⟩, hRE.2.1, hRE.2.2.1, hRE.2.2.2.mono (by decide) (by decide)⟩
  · show Steps pP.tables eE below (s₁.setTop (mkF mM 0 #[.val (.int p1), .unset, .unset, .unset, .unset, .unset] [])) _
    refine XS.iloadN X0.here hx rfl (hb hby at_0) rfl ?_
    show Steps pP.tables eE below (s₁.setTop (mkF mM 1 #[.val (.int p1), .unset, .unset, .unset, .unset, .unset] [(.int p1)])) _
    refine XS.iconst X0.here hx rfl (hb hby at_1) ?_
    show Steps pP.tables eE below (s₁.setTop (mkF mM 2 #[.val (.int p1), .unset, .unset, .unset, .unset, .unset] [(.int (3 : Int32)), (.int p1)])) _
    refine XS.iand X0.here hx rfl (hb hby at_2) rfl ?_
    show Steps pP.tables eE below (s₁.setTop (mkF mM 3 #[.val (.int p1), .unset, .unset, .unset, .unset, .unset] [(.int (p1 &&& (3 : Int32)))])) _
    rw [hk]
    show Steps pP.tables eE below (s₁.setTop (mkF mM 3 #[.val (.int p1), .unset, .unset, .unset, .unset, .unset] [(.int (1 : Int32))])) _
    refine XS.istoreN X0.here hx rfl (hb hby at_3) rfl (l' := #[.val (.int p1), .val (.int (1 : Int32)), .unset, .unset, .unset, .unset]) rfl ?_
    show Steps pP.tables eE below (s₁.setTop (mkF mM 4 #[.val (.int p1), .val (.int (1 : Int32)), .unset, .unset, .unset, .unset] [])) _
    refine XS.iloadN X0.here hx rfl (hb hby at_4) rfl ?_
    show Steps pP.tables eE below (s₁.setTop (mkF mM 5 #[.val (.int p1), .val (.int (1 : Int32)), .unset, .unset, .unset, .unset] [(.int (1 : Int32))])) _
    refine st_1 _ ?_
    show Steps pP.tables eE below (T_1.setTop (mkF mM 8 #[.val (.int p1), .val (.int (1 : Int32)), .unset, .unset, .unset, .unset] [(.ref os)])) _
    refine XS.astoreN X_1.here hx rfl (hb hby at_8) rfl rfl (l' := #[.val (.int p1), .val (.int (1 : Int32)), .val (.ref os), .unset, .unset, .unset]) rfl ?_
    show Steps pP.tables eE below (T_1.setTop (mkF mM 9 #[.val (.int p1), .val (.int (1 : Int32)), .val (.ref os), .unset, .unset, .unset] [])) _
    refine XS.iloadN X_1.here hx rfl (hb hby at_9) rfl ?_
    show Steps pP.tables eE below (T_1.setTop (mkF mM 10 #[.val (.int p1), .val (.int (1 : Int32)), .val (.ref os), .unset, .unset, .unset] [(.int (1 : Int32))])) _
    refine XS.iconst X_1.here hx rfl (hb hby at_10) ?_
    show Steps pP.tables eE below (T_1.setTop (mkF mM 11 #[.val (.int p1), .val (.int (1 : Int32)), .val (.ref os), .unset, .unset, .unset] [(.int (1 : Int32)), (.int (1 : Int32))])) _
    refine XS.icmpNo X_1.here hx rfl (hb hby at_11) rfl (by decide) ?_
    show Steps pP.tables eE below (T_1.setTop (mkF mM 14 #[.val (.int p1), .val (.int (1 : Int32)), .val (.ref os), .unset, .unset, .unset] [])) _
    refine XS.iconst X_1.here hx rfl (hb hby at_14) ?_
    show Steps pP.tables eE below (T_1.setTop (mkF mM 15 #[.val (.int p1), .val (.int (1 : Int32)), .val (.ref os), .unset, .unset, .unset] [(.int (1 : Int32))])) _
    refine XS.goto X_1.here hx rfl (pc0 := 15) (pc' := 19) rfl (hb hby at_15) (by decide) (by decide) ?_
    show Steps pP.tables eE below (T_1.setTop (mkF mM 19 #[.val (.int p1), .val (.int (1 : Int32)), .val (.ref os), .unset, .unset, .unset] [(.int (1 : Int32))])) _
    refine XS.istoreN X_1.here hx rfl (hb hby at_19) rfl (l' := #[.val (.int p1), .val (.int (1 : Int32)), .val (.ref os), .val (.int (1 : Int32)), .unset, .unset]) rfl ?_
    show Steps pP.tables eE below (T_1.setTop (mkF mM 20 #[.val (.int p1), .val (.int (1 : Int32)), .val (.ref os), .val (.int (1 : Int32)), .unset, .unset] [])) _
    refine XS.aloadN X_1.here hx rfl (hb hby at_20) rfl rfl ?_
    show Steps pP.tables eE below (T_1.setTop (mkF mM 21 #[.val (.int p1), .val (.int (1 : Int32)), .val (.ref os), .val (.int (1 : Int32)), .unset, .unset] [(.ref os)])) _
    refine st_2.trans ?_
    show Steps pP.tables eE below (T_2.setTop (mkF mM 24 #[.val (.int p1), .val (.int (1 : Int32)), .val (.ref os), .val (.int (1 : Int32)), .unset, .unset] [(.ref t)])) _
    refine XS.astore X_2.here hx rfl (hb hby at_24) rfl rfl (l' := #[.val (.int p1), .val (.int (1 : Int32)), .val (.ref os), .val (.int (1 : Int32)), .val (.ref t), .unset]) rfl ?_
    show Steps pP.tables eE below (T_2.setTop (mkF mM 26 #[.val (.int p1), .val (.int (1 : Int32)), .val (.ref os), .val (.int (1 : Int32)), .val (.ref t), .unset] [])) _
    refine XS.aload X_2.here hx rfl (hb hby at_26) rfl rfl ?_
    show Steps pP.tables eE below (T_2.setTop (mkF mM 28 #[.val (.int p1), .val (.int (1 : Int32)), .val (.ref os), .val (.int (1 : Int32)), .val (.ref t), .unset] [(.ref t)])) _
    refine st_3 _ ?_
    show Steps pP.tables eE below (T_3.setTop (mkF mM 30 #[.val (.int p1), .val (.int (1 : Int32)), .val (.ref os), .val (.int (1 : Int32)), .val (.ref t), .unset] [(.ref a_3), (.ref t)])) _
    refine st_4.trans ?_
    show Steps pP.tables eE below (T_4.setTop (mkF mM 33 #[.val (.int p1), .val (.int (1 : Int32)), .val (.ref os), .val (.int (1 : Int32)), .val (.ref t), .unset] [(.int (0 : Int32))])) _
    refine XS.ifNo X_4.here hx rfl (hb hby at_33) rfl (by decide) ?_
    show Steps pP.tables eE below (T_4.setTop (mkF mM 36 #[.val (.int p1), .val (.int (1 : Int32)), .val (.ref os), .val (.int (1 : Int32)), .val (.ref t), .unset] [])) _
    refine XS.aload X_4.here hx rfl (hb hby at_36) rfl rfl ?_
    show Steps pP.tables eE below (T_4.setTop (mkF mM 38 #[.val (.int p1), .val (.int (1 : Int32)), .val (.ref os), .val (.int (1 : Int32)), .val (.ref t), .unset] [(.ref t)])) _
    refine st_5 _ ?_
    show Steps pP.tables eE below (T_5.setTop (mkF mM 40 #[.val (.int p1), .val (.int (1 : Int32)), .val (.ref os), .val (.int (1 : Int32)), .val (.ref t), .unset] [(.ref a_5), (.ref t)])) _
    refine st_6.trans ?_
    show Steps pP.tables eE below (T_6.setTop (mkF mM 43 #[.val (.int p1), .val (.int (1 : Int32)), .val (.ref os), .val (.int (1 : Int32)), .val (.ref t), .unset] [(.int (1 : Int32))])) _
    refine XS.ifNo X_6.here hx rfl (hb hby at_43) rfl (by decide) ?_
    show Steps pP.tables eE below (T_6.setTop (mkF mM 46 #[.val (.int p1), .val (.int (1 : Int32)), .val (.ref os), .val (.int (1 : Int32)), .val (.ref t), .unset] [])) _
    refine XS.iconst X_6.here hx rfl (hb hby at_46) ?_
    show Steps pP.tables eE below (T_6.setTop (mkF mM 47 #[.val (.int p1), .val (.int (1 : Int32)), .val (.ref os), .val (.int (1 : Int32)), .val (.ref t), .unset] [(.int (1 : Int32))])) _
    refine XS.goto X_6.here hx rfl (pc0 := 47) (pc' := 51) rfl (hb hby at_47) (by decide) (by decide) ?_
    show Steps pP.tables eE below (T_6.setTop (mkF mM 51 #[.val (.int p1), .val (.int (1 : Int32)), .val (.ref os), .val (.int (1 : Int32)), .val (.ref t), .unset] [(.int (1 : Int32))])) _
    refine XS.istore X_6.here hx rfl (hb hby at_51) rfl (l' := #[.val (.int p1), .val (.int (1 : Int32)), .val (.ref os), .val (.int (1 : Int32)), .val (.ref t), .val (.int (1 : Int32))]) rfl ?_
    show Steps pP.tables eE below (T_6.setTop (mkF mM 53 #[.val (.int p1), .val (.int (1 : Int32)), .val (.ref os), .val (.int (1 : Int32)), .val (.ref t), .val (.int (1 : Int32))] [])) _
    refine XS.aloadN X_6.here hx rfl (hb hby at_53) rfl rfl ?_
    show Steps pP.tables eE below (T_6.setTop (mkF mM 54 #[.val (.int p1), .val (.int (1 : Int32)), .val (.ref os), .val (.int (1 : Int32)), .val (.ref t), .val (.int (1 : Int32))] [(.ref os)])) _
    refine st_7.trans ?_
    show Steps pP.tables eE below (T_7.setTop (mkF mM 57 #[.val (.int p1), .val (.int (1 : Int32)), .val (.ref os), .val (.int (1 : Int32)), .val (.ref t), .val (.int (1 : Int32))] [(.int (1 : Int32))])) _
    refine XS.iloadN X_7.here hx rfl (hb hby at_57) rfl ?_
    show Steps pP.tables eE below (T_7.setTop (mkF mM 58 #[.val (.int p1), .val (.int (1 : Int32)), .val (.ref os), .val (.int (1 : Int32)), .val (.ref t), .val (.int (1 : Int32))] [(.int (1 : Int32)), (.int (1 : Int32))])) _
    refine XS.icmpNo X_7.here hx rfl (hb hby at_58) rfl (by decide) ?_
    show Steps pP.tables eE below (T_7.setTop (mkF mM 61 #[.val (.int p1), .val (.int (1 : Int32)), .val (.ref os), .val (.int (1 : Int32)), .val (.ref t), .val (.int (1 : Int32))] [])) _
    refine XS.iload X_7.here hx rfl (hb hby at_61) rfl ?_
    show Steps pP.tables eE below (T_7.setTop (mkF mM 63 #[.val (.int p1), .val (.int (1 : Int32)), .val (.ref os), .val (.int (1 : Int32)), .val (.ref t), .val (.int (1 : Int32))] [(.int (1 : Int32))])) _
    refine XS.iloadN X_7.here hx rfl (hb hby at_63) rfl ?_
    show Steps pP.tables eE below (T_7.setTop (mkF mM 64 #[.val (.int p1), .val (.int (1 : Int32)), .val (.ref os), .val (.int (1 : Int32)), .val (.ref t), .val (.int (1 : Int32))] [(.int (1 : Int32)), (.int (1 : Int32))])) _
    refine XS.icmpNo X_7.here hx rfl (hb hby at_64) rfl (by decide) ?_
    show Steps pP.tables eE below (T_7.setTop (mkF mM 67 #[.val (.int p1), .val (.int (1 : Int32)), .val (.ref os), .val (.int (1 : Int32)), .val (.ref t), .val (.int (1 : Int32))] [])) _
    refine XS.iconst X_7.here hx rfl (hb hby at_67) ?_
    show Steps pP.tables eE below (T_7.setTop (mkF mM 68 #[.val (.int p1), .val (.int (1 : Int32)), .val (.ref os), .val (.int (1 : Int32)), .val (.ref t), .val (.int (1 : Int32))] [(.int (1 : Int32))])) _
    refine XS.goto X_7.here hx rfl (pc0 := 68) (pc' := 72) rfl (hb hby at_68) (by decide) (by decide) ?_
    show Steps pP.tables eE below (T_7.setTop (mkF mM 72 #[.val (.int p1), .val (.int (1 : Int32)), .val (.ref os), .val (.int (1 : Int32)), .val (.ref t), .val (.int (1 : Int32))] [(.int (1 : Int32))])) _
    exact retN X_7 hx (t := .boolean) Bd.returns (by simp) (hb hby at_72) hr
  · show Q_law1 Z p1 oa os t tv kt cs h0 n0 _ T_7.heap _
    exact ⟨rfl, N_7⟩
theorem ef_law2 (mM : MethodId) (x0 : Int32) : entryFrame mM #[(.int x0)] maxLocals = mkF mM 0 #[.val (.int x0), .unset, .unset, .unset, .unset, .unset] [] := by first | (simp [entryFrame, mkF, argsToLocals, Value.category, maxLocals]; done) | rfl
def Q_law2 (Z : State) (p1 : Int32) (oa : Addr) (os : Addr) (x2 : Addr) (t : Addr) (tv : Addr) (kt : ClassId) (cs : Int32) (h0 : Heap) (n0 : Nat) (v_ : Option Value) (h_ : Heap) (L_ : List Loc) : Prop := v_ = some (.int (1 : Int32)) ∧ Fr n0 L_
set_option maxRecDepth 65536 in
set_option maxHeartbeats 40000000 in
theorem rm_law2 (l : Launch) (Z : State) (a0 : Array Value) (hw : ∀ d ∈ tables_1, d.before a0 Z = true) (ws : List Jvm.Cond) (p1 : Int32) (oa : Addr) (os : Addr) (x2 : Addr) (t : Addr) (tv : Addr) (kt : ClassId) (cs : Int32) (h0 : Heap) (n0 : Nat) (Z0 : n0 ≤ h0.size) (hk : (p1 &&& (3 : Int32)) = (2 : Int32)) (S_ArithmeticOperator_ADD : Sta Z h0 "com/example/querent/querent/jpql/ArithmeticOperator" "ADD" "Lcom/example/querent/querent/jpql/ArithmeticOperator;" (.ref oa)) (S_ArithmeticOperator_SUBTRACT : Sta Z h0 "com/example/querent/querent/jpql/ArithmeticOperator" "SUBTRACT" "Lcom/example/querent/querent/jpql/ArithmeticOperator;" (.ref os)) (S_ArithmeticOperator_MULTIPLY : Sta Z h0 "com/example/querent/querent/jpql/ArithmeticOperator" "MULTIPLY" "Lcom/example/querent/querent/jpql/ArithmeticOperator;" (.ref x2)) (E_x2 : Exa Z h0 x2 "com/example/querent/querent/jpql/ArithmeticOperator") (F_symbol_x2 : Fld Z h0 x2 "com/example/querent/querent/jpql/ArithmeticOperator" "symbol" "Ljava/lang/String;" (.ref t)) (F_value_t : Fld Z h0 t "java/lang/String" "value" "[B" (.ref tv)) (F_coder_t : Fld Z h0 t "java/lang/String" "coder" "B" (.int (0 : Int32))) (E_t : Exa Z h0 t "java/lang/String") (V_tv : Arv Z h0 tv kt .byte (1 : Int32) [(.int (42 : Int32))] (.int (0 : Int32))) (S_String_COMPACT_STRINGS : Sta Z h0 "java/lang/String" "COMPACT_STRINGS" "Z" (.int cs)) (hcs : ¬ cs = 0) (n1 : x2 ≠ oa) (n2 : x2 ≠ os) :
    MetFree l x (head1 (Jvm.Cond.code x code maxLocals ret :: ws) room_1) (fun aa_ U_ => aa_ = #[(.int p1)] ∧ Z.Warmed39 U_.vm ∧ U_.heap = h0 ∧ CHv Z own_EL U_.vm h0) (fun _ _ _ _ _ => True) (fun _ U_ o_ U'_ => ∃ v_ L_, o_ = .returned v_ ∧ Q_law2 Z p1 oa os x2 t tv kt cs h0 n0 v_ U'_.heap L_ ∧ ReturnedEndW U_ o_ U'_ L_ 4 16) := by
  refine MetFree.of_bodySF (plainFor_of_name pn_0) hisR ?_
  intro pP eE sS mM argsA below meth cC s₁ Bd hml0 hP hK
  obtain ⟨rfl, hZ, hh, hCH⟩ := hP
  have hx := Bd.exec
  have hby := Bd.bytes
  have hml : cC.maxLocals = 6 := hml0
  have hown : sS.vm.findClass "com/example/querent/querent/jpql/ArithmeticOperatorIsAdditivePinLaw" = some mM.cls := findClass_of_methodNamed Bd.named
  have hnm := (name_of_methodNamed Bd.named Bd.method).1
  have X0 : Stand pP l eE room_1 (sS.setVm sS.vm) mM #[(.int p1)] below meth cC s₁ [] 0 0 := Stand.of_body Bd
  have e0 : s₁.heap = h0 := by rw [← hh, Bd.state]; rfl
  have N0 := Fr.nil n0
  have pre0 : ∀ t_, Steps pP.tables eE below (s₁.setTop (mkF mM 0 #[.val (.int p1), .unset, .unset, .unset, .unset, .unset] [])) t_ → Steps pP.tables eE below (s₁.setTop (entryFrame mM #[(.int p1)] maxLocals)) t_ := fun t_ k_ => castTop (ef_law2 mM p1) k_
  have hZ : Z.Warmed39 (sS.setVm sS.vm).vm := hZ
  have hown : (sS.setVm sS.vm).vm.findClass "com/example/querent/querent/jpql/ArithmeticOperatorIsAdditivePinLaw" = some mM.cls := hown
  have hS0 : sS.Since sS.vm 0 := (State.WarmedH.refl sS).since 0
  have hk0 : 0 ≤ h0.size := Nat.zero_le _
  obtain ⟨_, _, ⟨T_1, L_1, k_1, n_1⟩, -, X_1, ⟨Lc_1, hQ_1, l_1, y_1, z_1⟩, st_1⟩ := Jvm.LawKit.callS X0 hx (y := (⟨"com/example/querent/querent/jpql/ArithmeticOperatorIsAdditivePinLaw", "pick", "(I)Lcom/example/querent/querent/jpql/ArithmeticOperator;"⟩ : MethodName)) hown (mvT hZ (hw _ (List.mem_of_getElem? (i := 0) rfl))) (mvT hZ (hw _ (List.mem_of_getElem? (i := 1) rfl))) (mvT hZ (hw _ (List.mem_of_getElem? (i := 2) rfl))) (mvT hZ (hw _ (List.mem_of_getElem? (i := 3) rfl))) (by decide) (backOf (W := 0) (rm_pick2 l Z a0 hw [] x2 h0 n0 Z0 S_ArithmeticOperator_MULTIPLY) hZ (hw _ (List.mem_of_getElem? (i := 3) rfl)) (hw _ (List.mem_of_getElem? (i := 2) rfl)) (by decide) (by decide)) (g := (mkF mM 5 #[.val (.int p1), .val (.int (2 : Int32)), .unset, .unset, .unset, .unset] [(.int (2 : Int32))])) rfl (by rw [hml]; rfl) (argsL := [(.int (2 : Int32))]) (rest := []) (lenOf pd_1 rfl) rfl (by show 2 * 0 + _ ≤ _; exact Nat.le_of_eq rfl) (hb hby at_5) (fun _ _ => ⟨rfl, e0, (by decide : 0 + 0 ≤ _), (by decide : 0 + 0 ≤ _)⟩)
  dsimp only [Pt.U, Pt.locs, Pt.cells, Pt.slots] at X_1 l_1 y_1 z_1 st_1 hQ_1
  subst l_1 y_1 z_1
  obtain ⟨rfl, N_1q, eh_1⟩ := hQ_1
  have N_1 := Fr.app N0 N_1q
  obtain ⟨cq_2, kq_2, q_2a, q_2b, q_2c⟩ := isOf hZ eh_1 E_x2
  obtain ⟨_, _, ⟨T_2, L_2, k_2, n_2⟩, -, X_2, ⟨Lc_2, hQ_2, l_2, y_2, z_2⟩, st_2⟩ := X_1.virtualBack hx (y := (⟨"com/example/querent/querent/jpql/ArithmeticOperator", "symbol", "()Ljava/lang/String;"⟩ : MethodName)) (z := (⟨"com/example/querent/querent/jpql/ArithmeticOperator", "symbol", "()Ljava/lang/String;"⟩ : MethodName)) hown (mvT hZ (hw _ (List.mem_of_getElem? (i := 7) rfl))) (mvT hZ (hw _ (List.mem_of_getElem? (i := 8) rfl))) (notFace_of_selects (args := #[]) (mvT hZ (hw _ (List.mem_of_getElem? (i := 10) rfl)))) (mvT hZ (hw _ (List.mem_of_getElem? (i := 10) rfl))) (mvT hZ (hw _ (List.mem_of_getElem? (i := 9) rfl))) (by decide) (backOf (W := 0) (rm_sym l Z a0 hw [] x2 t h0 n0 Z0 F_symbol_x2) hZ (hw _ (List.mem_of_getElem? (i := 11) rfl)) (hw _ (List.mem_of_getElem? (i := 5) rfl)) (by decide) (by decide)) q_2a q_2c (g := (mkF mM 21 #[.val (.int p1), .val (.int (2 : Int32)), .val (.ref x2), .val (.int (0 : Int32)), .unset, .unset] [(.ref x2)])) rfl (by rw [hml]; rfl) (Steps.refl _) (argsL := []) (rest := []) (lenOf pd_2 rfl) rfl (by show 2 * 0 + _ ≤ _; exact Nat.le_of_eq rfl) (hb hby at_21) (fun _ _ => ⟨rfl, eh_1, (by decide : 0 + 0 ≤ _), (by decide : 0 + 0 ≤ _)⟩)
  dsimp only [Pt.U, Pt.locs, Pt.cells, Pt.slots] at X_2 l_2 y_2 z_2 st_2 hQ_2
  subst l_2 y_2 z_2
  obtain ⟨rfl, N_2q, eh_2⟩ := hQ_2
  have N_2 := Fr.app N_1 N_2q
  obtain ⟨a_3, T_3, h_3, k_3, d_3, kd_3, X_3, e_3, E_3, hS_3, hk_3, hZ_3, hown_3, Es_3, Fc_3, Fv_3, Vs_3, -, -, CH_3, -, Sf_3, st_3⟩ := ldcCH X_2 hx hZ hown (hw _ (List.mem_of_getElem? (i := 14) rfl)) (own_wS hw) eh_2 hS0 hk0 (own_EW hw) (List.mem_of_getElem? (i := 0) rfl) hCH (vs := [(.int (43 : Int32))]) (z := (1 : Int32)) ⟨by decide, rfl⟩ (by decide) rfl (g := (mkF mM 28 #[.val (.int p1), .val (.int (2 : Int32)), .val (.ref x2), .val (.int (0 : Int32)), .val (.ref t), .unset] [(.ref t)])) rfl (hb hby at_28) (n := 4) (by decide) (by decide) (by decide) (by decide)
  have Z_3 : n0 ≤ h_3.size := (Nat.le_trans Z0 E_3.1)
  have K_3 : Keep h0 h_3 [] := (Keep.refl h0 []).ext E_3
  obtain ⟨cq_4, kq_4, q_4a, q_4b, q_4c⟩ := isOf hZ_3 e_3 (E_t.ext E_3)
  obtain ⟨_, _, ⟨T_4, L_4, k_4, n_4⟩, -, X_4, ⟨Lc_4, hQ_4, l_4, y_4, z_4⟩, st_4⟩ := X_3.virtualBack hx (y := (⟨"java/lang/String", "equals", "(Ljava/lang/Object;)Z"⟩ : MethodName)) (z := (⟨"java/lang/String", "equals", "(Ljava/lang/Object;)Z"⟩ : MethodName)) hown_3 (mvT hZ_3 (hw _ (List.mem_of_getElem? (i := 22) rfl))) (mvT hZ_3 (hw _ (List.mem_of_getElem? (i := 23) rfl))) (notFace_of_selects (args := #[]) (mvT hZ_3 (hw _ (List.mem_of_getElem? (i := 25) rfl)))) (mvT hZ_3 (hw _ (List.mem_of_getElem? (i := 25) rfl))) (mvT hZ_3 (hw _ (List.mem_of_getElem? (i := 24) rfl))) (by decide) (backOf (W := 0) (rm_eq0 l Z a0 hw [] t a_3 tv kt d_3 kd_3 (42 : Int32) (43 : Int32) cs h_3 n0 Z_3 (F_value_t.ext E_3) (F_coder_t.ext E_3) (E_t.ext E_3) Fv_3 Fc_3 Es_3 (V_tv.ext E_3) Vs_3 (S_String_COMPACT_STRINGS.ext E_3) hcs (own_nes (F_value_t.ext E_3) Fv_3 (V_tv.ext E_3) Vs_3 (by decide)) (by decide)) hZ_3 (hw _ (List.mem_of_getElem? (i := 26) rfl)) (hw _ (List.mem_of_getElem? (i := 15) rfl)) (by decide) (by decide)) q_4a q_4c (g := (mkF mM 30 #[.val (.int p1), .val (.int (2 : Int32)), .val (.ref x2), .val (.int (0 : Int32)), .val (.ref t), .unset] [(.ref a_3), (.ref t)])) rfl (by rw [hml]; rfl) (Steps.refl _) (argsL := [(.ref a_3)]) (rest := []) (lenOf pd_3 rfl) rfl (by show 2 * 0 + _ ≤ _; exact Nat.le_of_eq rfl) (hb hby at_30) (fun _ _ => ⟨rfl, e_3, (by decide : 2 + 0 ≤ _), (by decide : 8 + 0 ≤ _)⟩)
  dsimp only [Pt.U, Pt.locs, Pt.cells, Pt.slots] at X_4 l_4 y_4 z_4 st_4 hQ_4
  subst l_4 y_4 z_4
  obtain ⟨rfl, N_4q, eh_4⟩ := hQ_4
  have N_4 := Fr.app N_2 N_4q
  obtain ⟨a_5, T_5, h_5, k_5, d_5, kd_5, X_5, e_5, E_5, hS_5, hk_5, hZ_5, hown_5, Es_5, Fc_5, Fv_5, Vs_5, -, -, CH_5, -, Sf_5, st_5⟩ := ldcCH X_4 hx hZ_3 hown_3 (hw _ (List.mem_of_getElem? (i := 44) rfl)) (own_wS hw) eh_4 hS_3 hk_3 (own_EW hw) (List.mem_of_getElem? (i := 1) rfl) CH_3.1 (vs := [(.int (45 : Int32))]) (z := (1 : Int32)) ⟨by decide, rfl⟩ (by decide) rfl (g := (mkF mM 38 #[.val (.int p1), .val (.int (2 : Int32)), .val (.ref x2), .val (.int (0 : Int32)), .val (.ref t), .unset] [(.ref t)])) rfl (hb hby at_38) (n := 4) (by decide) (by decide) (by decide) (by decide)
  have Z_5 : n0 ≤ h_5.size := (Nat.le_trans Z_3 E_5.1)
  have K_5 : Keep h0 h_5 [] := K_3.ext E_5
  obtain ⟨cq_6, kq_6, q_6a, q_6b, q_6c⟩ := isOf hZ_5 e_5 ((E_t.ext E_3).ext E_5)
  obtain ⟨_, _, ⟨T_6, L_6, k_6, n_6⟩, -, X_6, ⟨Lc_6, hQ_6, l_6, y_6, z_6⟩, st_6⟩ := X_5.virtualBack hx (y := (⟨"java/lang/String", "equals", "(Ljava/lang/Object;)Z"⟩ : MethodName)) (z := (⟨"java/lang/String", "equals", "(Ljava/lang/Object;)Z"⟩ : MethodName)) hown_5 (mvT hZ_5 (hw _ (List.mem_of_getElem? (i := 22) rfl))) (mvT hZ_5 (hw _ (List.mem_of_getElem? (i := 23) rfl))) (notFace_of_selects (args := #[]) (mvT hZ_5 (hw _ (List.mem_of_getElem? (i := 25) rfl)))) (mvT hZ_5 (hw _ (List.mem_of_getElem? (i := 25) rfl))) (mvT hZ_5 (hw _ (List.mem_of_getElem? (i := 24) rfl))) (by decide) (backOf (W := 0) (rm_eq0 l Z a0 hw [] t a_5 tv kt d_5 kd_5 (42 : Int32) (45 : Int32) cs h_5 n0 Z_5 ((F_value_t.ext E_3).ext E_5) ((F_coder_t.ext E_3).ext E_5) ((E_t.ext E_3).ext E_5) Fv_5 Fc_5 Es_5 ((V_tv.ext E_3).ext E_5) Vs_5 ((S_String_COMPACT_STRINGS.ext E_3).ext E_5) hcs (own_nes ((F_value_t.ext E_3).ext E_5) Fv_5 ((V_tv.ext E_3).ext E_5) Vs_5 (by decide)) (by decide)) hZ_5 (hw _ (List.mem_of_getElem? (i := 26) rfl)) (hw _ (List.mem_of_getElem? (i := 15) rfl)) (by decide) (by decide)) q_6a q_6c (g := (mkF mM 40 #[.val (.int p1), .val (.int (2 : Int32)), .val (.ref x2), .val (.int (0 : Int32)), .val (.ref t), .unset] [(.ref a_5), (.ref t)])) rfl (by rw [hml]; rfl) (Steps.refl _) (argsL := [(.ref a_5)]) (rest := []) (lenOf pd_3 rfl) rfl (by show 2 * 0 + _ ≤ _; exact Nat.le_of_eq rfl) (hb hby at_40) (fun _ _ => ⟨rfl, e_5, (by decide : 4 + 0 ≤ _), (by decide : 16 + 0 ≤ _)⟩)
  dsimp only [Pt.U, Pt.locs, Pt.cells, Pt.slots] at X_6 l_6 y_6 z_6 st_6 hQ_6
  subst l_6 y_6 z_6
  obtain ⟨rfl, N_6q, eh_6⟩ := hQ_6
  have N_6 := Fr.app N_4 N_6q
  obtain ⟨cq_7, kq_7, q_7a, q_7b, q_7c⟩ := isOf hZ_5 eh_6 ((E_x2.ext E_3).ext E_5)
  obtain ⟨_, _, ⟨T_7, L_7, k_7, n_7⟩, -, X_7, ⟨Lc_7, hQ_7, l_7, y_7, z_7⟩, st_7⟩ := X_6.virtualBack hx (y := (⟨"com/example/querent/querent/jpql/ArithmeticOperator", "isAdditive", "()Z"⟩ : MethodName)) (z := (⟨"com/example/querent/querent/jpql/ArithmeticOperator", "isAdditive", "()Z"⟩ : MethodName)) hown_5 (mvT hZ_5 (hw _ (List.mem_of_getElem? (i := 36) rfl))) (mvT hZ_5 (hw _ (List.mem_of_getElem? (i := 37) rfl))) (notFace_of_selects (args := #[]) (mvT hZ_5 (hw _ (List.mem_of_getElem? (i := 39) rfl)))) (mvT hZ_5 (hw _ (List.mem_of_getElem? (i := 39) rfl))) (mvT hZ_5 (hw _ (List.mem_of_getElem? (i := 38) rfl))) (by decide) (backOf (W := 0) (rm_isa2 l Z a0 hw [] x2 oa os h_5 n0 Z_5 ((S_ArithmeticOperator_ADD.ext E_3).ext E_5) ((S_ArithmeticOperator_SUBTRACT.ext E_3).ext E_5) n1 n2) hZ_5 (hw _ (List.mem_of_getElem? (i := 40) rfl)) (hw _ (List.mem_of_getElem? (i := 5) rfl)) (by decide) (by decide)) q_7a q_7c (g := (mkF mM 54 #[.val (.int p1), .val (.int (2 : Int32)), .val (.ref x2), .val (.int (0 : Int32)), .val (.ref t), .val (.int (0 : Int32))] [(.ref x2)])) rfl (by rw [hml]; rfl) (Steps.refl _) (argsL := []) (rest := []) (lenOf pd_4 rfl) rfl (by show 2 * 0 + _ ≤ _; exact Nat.le_of_eq rfl) (hb hby at_54) (fun _ _ => ⟨rfl, eh_6, (by decide : 4 + 0 ≤ _), (by decide : 16 + 0 ≤ _)⟩)
  dsimp only [Pt.U, Pt.locs, Pt.cells, Pt.slots] at X_7 l_7 y_7 z_7 st_7 hQ_7
  subst l_7 y_7 z_7
  obtain ⟨rfl, N_7q, eh_7⟩ := hQ_7
  have N_7 := Fr.app N_6 N_7q
  obtain ⟨fs, hr, hrun, hended, hRE⟩ := X_7.leaveW hS_5 (show _ ≤ T_7.heap.size by rw [eh_7]; exact hk_5) (v := some (.int (1 : Int32))) (fun h => by rw [Bd.returns] at h; cases h)
  refine ⟨_, _, pre0 _ ?_, hrun, hended, _, _, rfl, ?_, ⟨_, rfl⟩, hRE.2.1, hRE.2.2.1, hRE.2.2.2.mono (by decide) (by decide)⟩
  · show Steps pP.tables eE below (s₁.setTop (mkF mM 0 #[.val (.int p1), .unset, .unset, .unset, .unset, .unset] [])) _
    refine XS.iloadN X0.here hx rfl (hb hby at_0) rfl ?_
    show Steps pP.tables eE below (s₁.setTop (mkF mM 1 #[.val (.int p1), .unset, .unset, .unset, .unset, .unset] [(.int p1)])) _
    refine XS.iconst X0.here hx rfl (hb hby at_1) ?_
    show Steps pP.tables eE below (s₁.setTop (mkF mM 2 #[.val (.int p1), .unset, .unset, .unset, .unset, .unset] [(.int (3 : Int32)), (.int p1)])) _
    refine XS.iand X0.here hx rfl (hb hby at_2) rfl ?_
    show Steps pP.tables eE below (s₁.setTop (mkF mM 3 #[.val (.int p1), .unset, .unset, .unset, .unset, .unset] [(.int (p1 &&& (3 : Int32)))])) _
    rw [hk]
    show Steps pP.tables eE below (s₁.setTop (mkF mM 3 #[.val (.int p1), .unset, .unset, .unset, .unset, .unset] [(.int (2 : Int32))])) _
    refine XS.istoreN X0.here hx rfl (hb hby at_3) rfl (l' := #[.val (.int p1), .val (.int (2 : Int32)), .unset, .unset, .unset, .unset]) rfl ?_
    show Steps pP.tables eE below (s₁.setTop (mkF mM 4 #[.val (.int p1), .val (.int (2 : Int32)), .unset, .unset, .unset, .unset] [])) _
    refine XS.iloadN X0.here hx rfl (hb hby at_4) rfl ?_
    show Steps pP.tables eE below (s₁.setTop (mkF mM 5 #[.val (.int p1), .val (.int (2 : Int32)), .unset, .unset, .unset, .unset] [(.int (2 : Int32))])) _
    refine st_1 _ ?_
    show Steps pP.tables eE below (T_1.setTop (mkF mM 8 #[.val (.int p1), .val (.int (2 : Int32)), .unset, .unset, .unset, .unset] [(.ref x2)])) _
    refine XS.astoreN X_1.here hx rfl (hb hby at_8) rfl rfl (l' := #[.val (.int p1), .val (.int (2 : Int32)), .val (.ref x2), .unset, .unset, .unset]) rfl ?_
    show Steps pP.tables eE below (T_1.setTop (mkF mM 9 #[.val (.int p1), .val (.int (2 : Int32)), .val (.ref x2), .unset, .unset, .unset] [])) _
    refine XS.iloadN X_1.here hx rfl (hb hby at_9) rfl ?_
    show Steps pP.tables eE below (T_1.setTop (mkF mM 10 #[.val (.int p1), .val (.int (2 : Int32)), .val (.ref x2), .unset, .unset, .unset] [(.int (2 : Int32))])) _
    refine XS.iconst X_1.here hx rfl (hb hby at_10) ?_
    show Steps pP.tables eE below (T_1.setTop (mkF mM 11 #[.val (.int p1), .val (.int (2 : Int32)), .val (.ref x2), .unset, .unset, .unset] [(.int (1 : Int32)), (.int (2 : Int32))])) _
    refine XS.icmpYes X_1.here hx rfl (pc0 := 11) (pc' := 18) rfl (hb hby at_11) rfl (by decide) (by decide) (by decide) ?_
    show Steps pP.tables eE below (T_1.setTop (mkF mM 18 #[.val (.int p1), .val (.int (2 : Int32)), .val (.ref x2), .unset, .unset, .unset] [])) _
    refine XS.iconst X_1.here hx rfl (hb hby at_18) ?_
    show Steps pP.tables eE below (T_1.setTop (mkF mM 19 #[.val (.int p1), .val (.int (2 : Int32)), .val (.ref x2), .unset, .unset, .unset] [(.int (0 : Int32))])) _
    refine XS.istoreN X_1.here hx rfl (hb hby at_19) rfl (l' := #[.val (.int p1), .val (.int (2 : Int32)), .val (.ref x2), .val (.int (0 : Int32)), .unset, .unset]) rfl ?_
    show Steps pP.tables eE below (T_1.setTop (mkF mM 20 #[.val (.int p1), .val (.int (2 : Int32)), .val (.ref x2), .val (.int (0 : Int32)), .unset, .unset] [])) _
    refine XS.aloadN X_1.here hx rfl (hb hby at_20) rfl rfl ?_
    show Steps pP.tables eE below (T_1.setTop (mkF mM 21 #[.val (.int p1), .val (.int (2 : Int32)), .val (.ref x2), .val (.int (0 : Int32)), .unset, .unset] [(.ref x2)])) _
    refine st_2.trans ?_
    show Steps pP.tables eE below (T_2.setTop (mkF mM 24 #[.val (.int p1), .val (.int (2 : Int32)), .val (.ref x2), .val (.int (0 : Int32)), .unset, .unset] [(.ref t)])) _
    refine XS.astore X_2.here hx rfl (hb hby at_24) rfl rfl (l' := #[.val (.int p1), .val (.int (2 : Int32)), .val (.ref x2), .val (.int (0 : Int32)), .val (.ref t), .unset]) rfl ?_
    show Steps pP.tables eE below (T_2.setTop (mkF mM 26 #[.val (.int p1), .val (.int (2 : Int32)), .val (.ref x2), .val (.int (0 : Int32)), .val (.ref t), .unset] [])) _
    refine XS.aload X_2.here hx rfl (hb hby at_26) rfl rfl ?_
    show Steps pP.tables eE below (T_2.setTop (mkF mM 28 #[.val (.int p1), .val (.int (2 : Int32)), .val (.ref x2), .val (.int (0 : Int32)), .val (.ref t), .unset] [(.ref t)])) _
    refine st_3 _ ?_
    show Steps pP.tables eE below (T_3.setTop (mkF mM 30 #[.val (.int p1), .val (.int (2 : Int32)), .val (.ref x2), .val (.int (0 : Int32)), .val (.ref t), .unset] [(.ref a_3), (.ref t)])) _
    refine st_4.trans ?_
    show Steps pP.tables eE below (T_4.setTop (mkF mM 33 #[.val (.int p1), .val (.int (2 : Int32)), .val (.ref x2), .val (.int (0 : Int32)), .val (.ref t), .unset] [(.int (0 : Int32))])) _
    refine XS.ifNo X_4.here hx rfl (hb hby at_33) rfl (by decide) ?_
    show Steps pP.tables eE below (T_4.setTop (mkF mM 36 #[.val (.int p1), .val (.int (2 : Int32)), .val (.ref x2), .val (.int (0 : Int32)), .val (.ref t), .unset] [])) _
    refine XS.aload X_4.here hx rfl (hb hby at_36) rfl rfl ?_
    show Steps pP.tables eE below (T_4.setTop (mkF mM 38 #[.val (.int p1), .val (.int (2 : Int32)), .val (.ref x2), .val (.int (0 : Int32)), .val (.ref t), .unset] [(.ref t)])) _
    refine st_5 _ ?_
    show Steps pP.tables eE below (T_5.setTop (mkF mM 40 #[.val (.int p1), .val (.int (2 : Int32)), .val (.ref x2), .val (.int (0 : Int32)), .val (.ref t), .unset] [(.ref a_5), (.ref t)])) _
    refine st_6.trans ?_
    show Steps pP.tables eE below (T_6.setTop (mkF mM 43 #[.val (.int p1), .val (.int (2 : Int32)), .val (.ref x2), .val (.int (0 : Int32)), .val (.ref t), .unset] [(.int (0 : Int32))])) _
    refine XS.ifYes X_6.here hx rfl (pc0 := 43) (pc' := 50) rfl (hb hby at_43) rfl (by decide) (by decide) (by decide) ?_
    show Steps pP.tables eE below (T_6.setTop (mkF mM 50 #[.val (.int p1), .val (.int (2 : Int32)), .val (.ref x2), .val (.int (0 : Int32)), .val (.ref t), .unset] [])) _
    refine XS.iconst X_6.here hx rfl (hb hby at_50) ?_
    show Steps pP.tables eE below (T_6.setTop (mkF mM 51 #[.val (.int p1), .val (.int (2 : Int32)), .val (.ref x2), .val (.int (0 : Int32)), .val (.ref t), .unset] [(.int (0 : Int32))])) _
    refine XS.istore X_6.here hx rfl (hb hby at_51) rfl (l' := #[.val (.int p1), .val (.int (2 : Int32)), .val (.ref x2), .val (.int (0 : Int32)), .val (.ref t), .val (.int (0 : Int32))]) rfl ?_
    show Steps pP.tables eE below (T_6.setTop (mkF mM 53 #[.val (.int p1), .val (.int (2 : Int32)), .val (.ref x2), .val (.int (0 : Int32)), .val (.ref t), .val (.int (0 : Int32))] [])) _
    refine XS.aloadN X_6.here hx rfl (hb hby at_53) rfl rfl ?_
    show Steps pP.tables eE below (T_6.setTop (mkF mM 54 #[.val (.int p1), .val (.int (2 : Int32)), .val (.ref x2), .val (.int (0 : Int32)), .val (.ref t), .val (.int (0 : Int32))] [(.ref x2)])) _
    refine st_7.trans ?_
    show Steps pP.tables eE below (T_7.setTop (mkF mM 57 #[.val (.int p1), .val (.int (2 : Int32)), .val (.ref x2), .val (.int (0 : Int32)), .val (.ref t), .val (.int (0 : Int32))] [(.int (0 : Int32))])) _
    refine XS.iloadN X_7.here hx rfl (hb hby at_57) rfl ?_
    show Steps pP.tables eE below (T_7.setTop (mkF mM 58 #[.val (.int p1), .val (.int (2 : Int32)), .val (.ref x2), .val (.int (0 : Int32)), .val (.ref t), .val (.int (0 : Int32))] [(.int (0 : Int32)), (.int (0 : Int32))])) _
    refine XS.icmpNo X_7.here hx rfl (hb hby at_58) rfl (by decide) ?_
    show Steps pP.tables eE below (T_7.setTop (mkF mM 61 #[.val (.int p1), .val (.int (2 : Int32)), .val (.ref x2), .val (.int (0 : Int32)), .val (.ref t), .val (.int (0 : Int32))] [])) _
    refine XS.iload X_7.here hx rfl (hb hby at_61) rfl ?_
    show Steps pP.tables eE below (T_7.setTop (mkF mM 63 #[.val (.int p1), .val (.int (2 : Int32)), .val (.ref x2), .val (.int (0 : Int32)), .val (.ref t), .val (.int (0 : Int32))] [(.int (0 : Int32))])) _
    refine XS.iloadN X_7.here hx rfl (hb hby at_63) rfl ?_
    show Steps pP.tables eE below (T_7.setTop (mkF mM 64 #[.val (.int p1), .val (.int (2 : Int32)), .val (.ref x2), .val (.int (0 : Int32)), .val (.ref t), .val (.int (0 : Int32))] [(.int (0 : Int32)), (.int (0 : Int32))])) _
    refine XS.icmpNo X_7.here hx rfl (hb hby at_64) rfl (by decide) ?_
    show Steps pP.tables eE below (T_7.setTop (mkF mM 67 #[.val (.int p1), .val (.int (2 : Int32)), .val (.ref x2), .val (.int (0 : Int32)), .val (.ref t), .val (.int (0 : Int32))] [])) _
    refine XS.iconst X_7.here hx rfl (hb hby at_67) ?_
    show Steps pP.tables eE below (T_7.setTop (mkF mM 68 #[.val (.int p1), .val (.int (2 : Int32)), .val (.ref x2), .val (.int (0 : Int32)), .val (.ref t), .val (.int (0 : Int32))] [(.int (1 : Int32))])) _
    refine XS.goto X_7.here hx rfl (pc0 := 68) (pc' := 72) rfl (hb hby at_68) (by decide) (by decide) ?_
    show Steps pP.tables eE below (T_7.setTop (mkF mM 72 #[.val (.int p1), .val (.int (2 : Int32)), .val (.ref x2), .val (.int (0 : Int32)), .val (.ref t), .val (.int (0 : Int32))] [(.int (1 : Int32))])) _
    exact retN X_7 hx (t := .boolean) Bd.returns (by simp) (hb hby at_72) hr
  · show Q_law2 Z p1 oa os x2 t tv kt cs h0 n0 _ T_7.heap _
    exact ⟨rfl, N_7⟩
theorem ef_law3 (mM : MethodId) (x0 : Int32) : entryFrame mM #[(.int x0)] maxLocals = mkF mM 0 #[.val (.int x0), .unset, .unset, .unset, .unset, .unset] [] := by first | (simp [entryFrame, mkF, argsToLocals, Value.category, maxLocals]; done) | rfl
def Q_law3 (Z : State) (p1 : Int32) (oa : Addr) (os : Addr) (x2 : Addr) (t : Addr) (tv : Addr) (kt : ClassId) (cs : Int32) (h0 : Heap) (n0 : Nat) (v_ : Option Value) (h_ : Heap) (L_ : List Loc) : Prop := v_ = some (.int (1 : Int32)) ∧ Fr n0 L_
set_option maxRecDepth 65536 in
set_option maxHeartbeats 40000000 in
theorem rm_law3 (l : Launch) (Z : State) (a0 : Array Value) (hw : ∀ d ∈ tables_1, d.before a0 Z = true) (ws : List Jvm.Cond) (p1 : Int32) (oa : Addr) (os : Addr) (x2 : Addr) (t : Addr) (tv : Addr) (kt : ClassId) (cs : Int32) (h0 : Heap) (n0 : Nat) (Z0 : n0 ≤ h0.size) (hk : (p1 &&& (3 : Int32)) = (3 : Int32)) (S_ArithmeticOperator_ADD : Sta Z h0 "com/example/querent/querent/jpql/ArithmeticOperator" "ADD" "Lcom/example/querent/querent/jpql/ArithmeticOperator;" (.ref oa)) (S_ArithmeticOperator_SUBTRACT : Sta Z h0 "com/example/querent/querent/jpql/ArithmeticOperator" "SUBTRACT" "Lcom/example/querent/querent/jpql/ArithmeticOperator;" (.ref os)) (S_ArithmeticOperator_DIVIDE : Sta Z h0 "com/example/querent/querent/jpql/ArithmeticOperator" "DIVIDE" "Lcom/example/querent/querent/jpql/ArithmeticOperator;" (.ref x2)) (E_x2 : Exa Z h0 x2 "com/example/querent/querent/jpql/ArithmeticOperator") (F_symbol_x2 : Fld Z h0 x2 "com/example/querent/querent/jpql/ArithmeticOperator" "symbol" "Ljava/lang/String;" (.ref t)) (F_value_t : Fld Z h0 t "java/lang/String" "value" "[B" (.ref tv)) (F_coder_t : Fld Z h0 t "java/lang/String" "coder" "B" (.int (0 : Int32))) (E_t : Exa Z h0 t "java/lang/String") (V_tv : Arv Z h0 tv kt .byte (1 : Int32) [(.int (47 : Int32))] (.int (0 : Int32))) (S_String_COMPACT_STRINGS : Sta Z h0 "java/lang/String" "COMPACT_STRINGS" "Z" (.int cs)) (hcs : ¬ cs = 0) (n1 : x2 ≠ oa) (n2 : x2 ≠ os) :
    MetFree l x (head1 (Jvm.Cond.code x code maxLocals ret :: ws) room_1) (fun aa_ U_ => aa_ = #[(.int p1)] ∧ Z.Warmed39 U_.vm ∧ U_.heap = h0 ∧ CHv Z own_EL U_.vm h0) (fun _ _ _ _ _ => True) (fun _ U_ o_ U'_ => ∃ v_ L_, o_ = .returned v_ ∧ Q_law3 Z p1 oa os x2 t tv kt cs h0 n0 v_ U'_.heap L_ ∧ ReturnedEndW U_ o_ U'_ L_ 4 16) := by
  refine MetFree.of_bodySF (plainFor_of_name pn_0) hisR ?_
  intro pP eE sS mM argsA below meth cC s₁ Bd hml0 hP hK
  obtain ⟨rfl, hZ, hh, hCH⟩ := hP
  have hx := Bd.exec
  have hby := Bd.bytes
  have hml : cC.maxLocals = 6 := hml0
  have hown : sS.vm.findClass "com/example/querent/querent/jpql/ArithmeticOperatorIsAdditivePinLaw" = some mM.cls := findClass_of_methodNamed Bd.named
  have hnm := (name_of_methodNamed Bd.named Bd.method).1
  have X0 : Stand pP l eE room_1 (sS.setVm sS.vm) mM #[(.int p1)] below meth cC s₁ [] 0 0 := Stand.of_body Bd
  have e0 : s₁.heap = h0 := by rw [← hh, Bd.state]; rfl
  have N0 := Fr.nil n0
  have pre0 : ∀ t_, Steps pP.tables eE below (s₁.setTop (mkF mM 0 #[.val (.int p1), .unset, .unset, .unset, .unset, .unset] [])) t_ → Steps pP.tables eE below (s₁.setTop (entryFrame mM #[(.int p1)] maxLocals)) t_ := fun t_ k_ => castTop (ef_law3 mM p1) k_
  have hZ : Z.Warmed39 (sS.setVm sS.vm).vm := hZ
  have hown : (sS.setVm sS.vm).vm.findClass "com/example/querent/querent/jpql/ArithmeticOperatorIsAdditivePinLaw" = some mM.cls := hown
  have hS0 : sS.Since sS.vm 0 := (State.WarmedH.refl sS).since 0
  have hk0 : 0 ≤ h0.size := Nat.zero_le _
  obtain ⟨_, _, ⟨T_1, L_1, k_1, n_1⟩, -, X_1, ⟨Lc_1, hQ_1, l_1, y_1, z_1⟩, st_1⟩ := Jvm.LawKit.callS X0 hx (y := (⟨"com/example/querent/querent/jpql/ArithmeticOperatorIsAdditivePinLaw", "pick", "(I)Lcom/example/querent/querent/jpql/ArithmeticOperator;"⟩ : MethodName)) hown (mvT hZ (hw _ (List.mem_of_getElem? (i := 0) rfl))) (mvT hZ (hw _ (List.mem_of_getElem? (i := 1) rfl))) (mvT hZ (hw _ (List.mem_of_getElem? (i := 2) rfl))) (mvT hZ (hw _ (List.mem_of_getElem? (i := 3) rfl))) (by decide) (backOf (W := 0) (rm_pick3 l Z a0 hw [] x2 h0 n0 Z0 S_ArithmeticOperator_DIVIDE) hZ (hw _ (List.mem_of_getElem? (i := 3) rfl)) (hw _ (List.mem_of_getElem? (i := 2) rfl)) (by decide) (by decide)) (g := (mkF mM 5 #[.val (.int p1), .val (.int (3 : Int32)), .unset, .unset, .unset, .unset] [(.int (3 : Int32))])) rfl (by rw [hml]; rfl) (argsL := [(.int (3 : Int32))]) (rest := []) (lenOf pd_1 rfl) rfl (by show 2 * 0 + _ ≤ _; exact Nat.le_of_eq rfl) (hb hby at_5) (fun _ _ => ⟨rfl, e0, (by decide : 0 + 0 ≤ _), (by decide : 0 + 0 ≤ _)⟩)
  dsimp only [Pt.U, Pt.locs, Pt.cells, Pt.slots] at X_1 l_1 y_1 z_1 st_1 hQ_1
  subst l_1 y_1 z_1
  obtain ⟨rfl, N_1q, eh_1⟩ := hQ_1
  have N_1 := Fr.app N0 N_1q
  obtain ⟨cq_2, kq_2, q_2a, q_2b, q_2c⟩ := isOf hZ eh_1 E_x2
  obtain ⟨_, _, ⟨T_2, L_2, k_2, n_2⟩, -, X_2, ⟨Lc_2, hQ_2, l_2, y_2, z_2⟩, st_2⟩ := X_1.virtualBack hx (y := (⟨"com/example/querent/querent/jpql/ArithmeticOperator", "symbol", "()Ljava/lang/String;"⟩ : MethodName)) (z := (⟨"com/example/querent/querent/jpql/ArithmeticOperator", "symbol", "()Ljava/lang/String;"⟩ : MethodName)) hown (mvT hZ (hw _ (List.mem_of_getElem? (i := 7) rfl))) (mvT hZ (hw _ (List.mem_of_getElem? (i := 8) rfl))) (notFace_of_selects (args := #[]) (mvT hZ (hw _ (List.mem_of_getElem? (i := 10) rfl)))) (mvT hZ (hw _ (List.mem_of_getElem? (i := 10) rfl))) (mvT hZ (hw _ (List.mem_of_getElem? (i := 9) rfl))) (by decide) (backOf (W := 0) (rm_sym l Z a0 hw [] x2 t h0 n0 Z0 F_symbol_x2) hZ (hw _ (List.mem_of_getElem? (i := 11) rfl)) (hw _ (List.mem_of_getElem? (i := 5) rfl)) (by decide) (by decide)) q_2a q_2c (g := (mkF mM 21 #[.val (.int p1), .val (.int (3 : Int32)), .val (.ref x2), .val (.int (0 : Int32)), .unset, .unset] [(.ref x2)])) rfl (by rw [hml]; rfl) (Steps.refl _) (argsL := []) (rest := []) (lenOf pd_2 rfl) rfl (by show 2 * 0 + _ ≤ _; exact Nat.le_of_eq rfl) (hb hby at_21) (fun _ _ => ⟨rfl, eh_1, (by decide : 0 + 0 ≤ _), (by decide : 0 + 0 ≤ _)⟩)
  dsimp only [Pt.U, Pt.locs, Pt.cells, Pt.slots] at X_2 l_2 y_2 z_2 st_2 hQ_2
  subst l_2 y_2 z_2
  obtain ⟨rfl, N_2q, eh_2⟩ := hQ_2
  have N_2 := Fr.app N_1 N_2q
  obtain ⟨a_3, T_3, h_3, k_3, d_3, kd_3, X_3, e_3, E_3, hS_3, hk_3, hZ_3, hown_3, Es_3, Fc_3, Fv_3, Vs_3, -, -, CH_3, -, Sf_3, st_3⟩ := ldcCH X_2 hx hZ hown (hw _ (List.mem_of_getElem? (i := 14) rfl)) (own_wS hw) eh_2 hS0 hk0 (own_EW hw) (List.mem_of_getElem? (i := 0) rfl) hCH (vs := [(.int (43 : Int32))]) (z := (1 : Int32)) ⟨by decide, rfl⟩ (by decide) rfl (g := (mkF mM 28 #[.val (.int p1), .val (.int (3 : Int32)), .val (.ref x2), .val (.int (0 : Int32)), .val (.ref t), .unset] [(.ref t)])) rfl (hb hby at_28) (n := 4) (by decide) (by decide) (by decide) (by decide)
  have Z_3 : n0 ≤ h_3.size := (Nat.le_trans Z0 E_3.1)
  have K_3 : Keep h0 h_3 [] := (Keep.refl h0 []).ext E_3
  obtain ⟨cq_4, kq_4, q_4a, q_4b, q_4c⟩ := isOf hZ_3 e_3 (E_t.ext E_3)
  obtain ⟨_, _, ⟨T_4, L_4, k_4, n_4⟩, -, X_4, ⟨Lc_4, hQ_4, l_4, y_4, z_4⟩, st_4⟩ := X_3.virtualBack hx (y := (⟨"java/lang/String", "equals", "(Ljava/lang/Object;)Z"⟩ : MethodName)) (z := (⟨"java/lang/String", "equals", "(Ljava/lang/Object;)Z"⟩ : MethodName)) hown_3 (mvT hZ_3 (hw _ (List.mem_of_getElem? (i := 22) rfl))) (mvT hZ_3 (hw _ (List.mem_of_getElem? (i := 23) rfl))) (notFace_of_selects (args := #[]) (mvT hZ_3 (hw _ (List.mem_of_getElem? (i := 25) rfl)))) (mvT hZ_3 (hw _ (List.mem_of_getElem? (i := 25) rfl))) (mvT hZ_3 (hw _ (List.mem_of_getElem? (i := 24) rfl))) (by decide) (backOf (W := 0) (rm_eq0 l Z a0 hw [] t a_3 tv kt d_3 kd_3 (47 : Int32) (43 : Int32) cs h_3 n0 Z_3 (F_value_t.ext E_3) (F_coder_t.ext E_3) (E_t.ext E_3) Fv_3 Fc_3 Es_3 (V_tv.ext E_3) Vs_3 (S_String_COMPACT_STRINGS.ext E_3) hcs (own_nes (F_value_t.ext E_3) Fv_3 (V_tv.ext E_3) Vs_3 (by decide)) (by decide)) hZ_3 (hw _ (List.mem_of_getElem? (i := 26) rfl)) (hw _ (List.mem_of_getElem? (i := 15) rfl)) (by decide) (by decide)) q_4a q_4c (g := (mkF mM 30 #[.val (.int p1), .val (.int (3 : Int32)), .val (.ref x2), .val (.int (0 : Int32)), .val (.ref t), .unset] [(.ref a_3), (.ref t)])) rfl (by rw [hml]; rfl) (Steps.refl _) (argsL := [(.ref a_3)]) (rest := []) (lenOf pd_3 rfl) rfl (by show 2 * 0 + _ ≤ _; exact Nat.le_of_eq rfl) (hb hby at_30) (fun _ _ => ⟨rfl, e_3, (by decide : 2 + 0 ≤ _), (by decide : 8 + 0 ≤ _)⟩)
  dsimp only [Pt.U, Pt.locs, Pt.cells, Pt.slots] at X_4 l_4 y_4 z_4 st_4 hQ_4
  subst l_4 y_4 z_4
  obtain ⟨rfl, N_4q, eh_4⟩ := hQ_4
  have N_4 := Fr.app N_2 N_4q
  obtain ⟨a_5, T_5, h_5, k_5, d_5, kd_5, X_5, e_5, E_5, hS_5, hk_5, hZ_5, hown_5, Es_5, Fc_5, Fv_5, Vs_5, -, -, CH_5, -, Sf_5, st_5⟩ := ldcCH X_4 hx hZ_3 hown_3 (hw _ (List.mem_of_getElem? (i := 44) rfl)) (own_wS hw) eh_4 hS_3 hk_3 (own_EW hw) (List.mem_of_getElem? (i := 1) rfl) CH_3.1 (vs := [(.int (45 : Int32))]) (z := (1 : Int32)) ⟨by decide, rfl⟩ (by decide) rfl (g := (mkF mM 38 #[.val (.int p1), .val (.int (3 : Int32)), .val (.ref x2), .val (.int (0 : Int32)), .val (.ref t), .unset] [(.ref t)])) rfl (hb hby at_38) (n := 4) (by decide) (by decide) (by decide) (by decide)
  have Z_5 : n0 ≤ h_5.size := (Nat.le_trans Z_3 E_5.1)
  have K_5 : Keep h0 h_5 [] := K_3.ext E_5
  obtain ⟨cq_6, kq_6, q_6a, q_6b, q_6c⟩ := isOf hZ_5 e_5 ((E_t.ext E_3).ext E_5)
  obtain ⟨_, _, ⟨T_6, L_6, k_6, n_6⟩, -, X_6, ⟨Lc_6, hQ_6, l_6, y_6, z_6⟩, st_6⟩ := X_5.virtualBack hx (y := (⟨"java/lang/String", "equals", "(Ljava/lang/Object;)Z"⟩ : MethodName)) (z := (⟨"java/lang/String", "equals", "(Ljava/lang/Object;)Z"⟩ : MethodName)) hown_5 (mvT hZ_5 (hw _ (List.mem_of_getElem? (i := 22) rfl))) (mvT hZ_5 (hw _ (List.mem_of_getElem? (i := 23) rfl))) (notFace_of_selects (args := #[]) (mvT hZ_5 (hw _ (List.mem_of_getElem? (i := 25) rfl)))) (mvT hZ_5 (hw _ (List.mem_of_getElem? (i := 25) rfl))) (mvT hZ_5 (hw _ (List.mem_of_getElem? (i := 24) rfl))) (by decide) (backOf (W := 0) (rm_eq0 l Z a0 hw [] t a_5 tv kt d_5 kd_5 (47 : Int32) (45 : Int32) cs h_5 n0 Z_5 ((F_value_t.ext E_3).ext E_5) ((F_coder_t.ext E_3).ext E_5) ((E_t.ext E_3).ext E_5) Fv_5 Fc_5 Es_5 ((V_tv.ext E_3).ext E_5) Vs_5 ((S_String_COMPACT_STRINGS.ext E_3).ext E_5) hcs (own_nes ((F_value_t.ext E_3).ext E_5) Fv_5 ((V_tv.ext E_3).ext E_5) Vs_5 (by decide)) (by decide)) hZ_5 (hw _ (List.mem_of_getElem? (i := 26) rfl)) (hw _ (List.mem_of_getElem? (i := 15) rfl)) (by decide) (by decide)) q_6a q_6c (g := (mkF mM 40 #[.val (.int p1), .val (.int (3 : Int32)), .val (.ref x2), .val (.int (0 : Int32)), .val (.ref t), .unset] [(.ref a_5), (.ref t)])) rfl (by rw [hml]; rfl) (Steps.refl _) (argsL := [(.ref a_5)]) (rest := []) (lenOf pd_3 rfl) rfl (by show 2 * 0 + _ ≤ _; exact Nat.le_of_eq rfl) (hb hby at_40) (fun _ _ => ⟨rfl, e_5, (by decide : 4 + 0 ≤ _), (by decide : 16 + 0 ≤ _)⟩)
  dsimp only [Pt.U, Pt.locs, Pt.cells, Pt.slots] at X_6 l_6 y_6 z_6 st_6 hQ_6
  subst l_6 y_6 z_6
  obtain ⟨rfl, N_6q, eh_6⟩ := hQ_6
  have N_6 := Fr.app N_4 N_6q
  obtain ⟨cq_7, kq_7, q_7a, q_7b, q_7c⟩ := isOf hZ_5 eh_6 ((E_x2.ext E_3).ext E_5)
  obtain ⟨_, _, ⟨T_7, L_7, k_7, n_7⟩, -, X_7, ⟨Lc_7, hQ_7, l_7, y_7, z_7⟩, st_7⟩ := X_6.virtualBack hx (y := (⟨"com/example/querent/querent/jpql/ArithmeticOperator", "isAdditive", "()Z"⟩ : MethodName)) (z := (⟨"com/example/querent/querent/jpql/ArithmeticOperator", "isAdditive", "()Z"⟩ : MethodName)) hown_5 (mvT hZ_5 (hw _ (List.mem_of_getElem? (i := 36) rfl))) (mvT hZ_5 (hw _ (List.mem_of_getElem? (i := 37) rfl))) (notFace_of_selects (args := #[]) (mvT hZ_5 (hw _ (List.mem_of_getElem? (i := 39) rfl)))) (mvT hZ_5 (hw _ (List.mem_of_getElem? (i := 39) rfl))) (mvT hZ_5 (hw _ (List.mem_of_getElem? (i := 38) rfl))) (by decide) (backOf (W := 0) (rm_isa2 l Z a0 hw [] x2 oa os h_5 n0 Z_5 ((S_ArithmeticOperator_ADD.ext E_3).ext E_5) ((S_ArithmeticOperator_SUBTRACT.ext E_3).ext E_5) n1 n2) hZ_5 (hw _ (List.mem_of_getElem? (i := 40) rfl)) (hw _ (List.mem_of_getElem? (i := 5) rfl)) (by decide) (by decide)) q_7a q_7c (g := (mkF mM 54 #[.val (.int p1), .val (.int (3 : Int32)), .val (.ref x2), .val (.int (0 : Int32)), .val (.ref t), .val (.int (0 : Int32))] [(.ref x2)])) rfl (by rw [hml]; rfl) (Steps.refl _) (argsL := []) (rest := []) (lenOf pd_4 rfl) rfl (by show 2 * 0 + _ ≤ _; exact Nat.le_of_eq rfl) (hb hby at_54) (fun _ _ => ⟨rfl, eh_6, (by decide : 4 + 0 ≤ _), (by decide : 16 + 0 ≤ _)⟩)
  dsimp only [Pt.U, Pt.locs, Pt.cells, Pt.slots] at X_7 l_7 y_7 z_7 st_7 hQ_7
  subst l_7 y_7 z_7
  obtain ⟨rfl, N_7q, eh_7⟩ := hQ_7
  have N_7 := Fr.app N_6 N_7q
  obtain ⟨fs, hr, hrun, hended, hRE⟩ := X_7.leaveW hS_5 (show _ ≤ T_7.heap.size by rw [eh_7]; exact hk_5) (v := some (.int (1 : Int32))) (fun h => by rw [Bd.returns] at h; cases h)
  refine ⟨_, _, pre0 _ ?_, hrun, hended, _, _, rfl, ?_, ⟨_, rfl⟩, hRE.2.1, hRE.2.2.1, hRE.2.2.2.mono (by decide) (by decide)⟩
  · show Steps pP.tables eE below (s₁.setTop (mkF mM 0 #[.val (.int p1), .unset, .unset, .unset, .unset, .unset] [])) _
    refine XS.iloadN X0.here hx rfl (hb hby at_0) rfl ?_
    show Steps pP.tables eE below (s₁.setTop (mkF mM 1 #[.val (.int p1), .unset, .unset, .unset, .unset, .unset] [(.int p1)])) _
    refine XS.iconst X0.here hx rfl (hb hby at_1) ?_
    show Steps pP.tables eE below (s₁.setTop (mkF mM 2 #[.val (.int p1), .unset, .unset, .unset, .unset, .unset] [(.int (3 : Int32)), (.int p1)])) _
    refine XS.iand X0.here hx rfl (hb hby at_2) rfl ?_
    show Steps pP.tables eE below (s₁.setTop (mkF mM 3 #[.val (.int p1), .unset, .unset, .unset, .unset, .unset] [(.int (p1 &&& (3 : Int32)))])) _
    rw [hk]
    show Steps pP.tables eE below (s₁.setTop (mkF mM 3 #[.val (.int p1), .unset, .unset, .unset, .unset, .unset] [(.int (3 : Int32))])) _
    refine XS.istoreN X0.here hx rfl (hb hby at_3) rfl (l' := #[.val (.int p1), .val (.int (3 : Int32)), .unset, .unset, .unset, .unset]) rfl ?_
    show Steps pP.tables eE below (s₁.setTop (mkF mM 4 #[.val (.int p1), .val (.int (3 : Int32)), .unset, .unset, .unset, .unset] [])) _
    refine XS.iloadN X0.here hx rfl (hb hby at_4) rfl ?_
    show Steps pP.tables eE below (s₁.setTop (mkF mM 5 #[.val (.int p1), .val (.int (3 : Int32)), .unset, .unset, .unset, .unset] [(.int (3 : Int32))])) _
    refine st_1 _ ?_
    show Steps pP.tables eE below (T_1.setTop (mkF mM 8 #[.val (.int p1), .val (.int (3 : Int32)), .unset, .unset, .unset, .unset] [(.ref x2)])) _
    refine XS.astoreN X_1.here hx rfl (hb hby at_8) rfl rfl (l' := #[.val (.int p1), .val (.int (3 : Int32)), .val (.ref x2), .unset, .unset, .unset]) rfl ?_
    show Steps pP.tables eE below (T_1.setTop (mkF mM 9 #[.val (.int p1), .val (.int (3 : Int32)), .val (.ref x2), .unset, .unset, .unset] [])) _
    refine XS.iloadN X_1.here hx rfl (hb hby at_9) rfl ?_
    show Steps pP.tables eE below (T_1.setTop (mkF mM 10 #[.val (.int p1), .val (.int (3 : Int32)), .val (.ref x2), .unset, .unset, .unset] [(.int (3 : Int32))])) _
    refine XS.iconst X_1.here hx rfl (hb hby at_10) ?_
    show Steps pP.tables eE below (T_1.setTop (mkF mM 11 #[.val (.int p1), .val (.int (3 : Int32)), .val (.ref x2), .unset, .unset, .unset] [(.int (1 : Int32)), (.int (3 : Int32))])) _
    refine XS.icmpYes X_1.here hx rfl (pc0 := 11) (pc' := 18) rfl (hb hby at_11) rfl (by decide) (by decide) (by decide) ?_
    show Steps pP.tables eE below (T_1.setTop (mkF mM 18 #[.val (.int p1), .val (.int (3 : Int32)), .val (.ref x2), .unset, .unset, .unset] [])) _
    refine XS.iconst X_1.here hx rfl (hb hby at_18) ?_
    show Steps pP.tables eE below (T_1.setTop (mkF mM 19 #[.val (.int p1), .val (.int (3 : Int32)), .val (.ref x2), .unset, .unset, .unset] [(.int (0 : Int32))])) _
    refine XS.istoreN X_1.here hx rfl (hb hby at_19) rfl (l' := #[.val (.int p1), .val (.int (3 : Int32)), .val (.ref x2), .val (.int (0 : Int32)), .unset, .unset]) rfl ?_
    show Steps pP.tables eE below (T_1.setTop (mkF mM 20 #[.val (.int p1), .val (.int (3 : Int32)), .val (.ref x2), .val (.int (0 : Int32)), .unset, .unset] [])) _
    refine XS.aloadN X_1.here hx rfl (hb hby at_20) rfl rfl ?_
    show Steps pP.tables eE below (T_1.setTop (mkF mM 21 #[.val (.int p1), .val (.int (3 : Int32)), .val (.ref x2), .val (.int (0 : Int32)), .unset, .unset] [(.ref x2)])) _
    refine st_2.trans ?_
    show Steps pP.tables eE below (T_2.setTop (mkF mM 24 #[.val (.int p1), .val (.int (3 : Int32)), .val (.ref x2), .val (.int (0 : Int32)), .unset, .unset] [(.ref t)])) _
    refine XS.astore X_2.here hx rfl (hb hby at_24) rfl rfl (l' := #[.val (.int p1), .val (.int (3 : Int32)), .val (.ref x2), .val (.int (0 : Int32)), .val (.ref t), .unset]) rfl ?_
    show Steps pP.tables eE below (T_2.setTop (mkF mM 26 #[.val (.int p1), .val (.int (3 : Int32)), .val (.ref x2), .val (.int (0 : Int32)), .val (.ref t), .unset] [])) _
    refine XS.aload X_2.here hx rfl (hb hby at_26) rfl rfl ?_
    show Steps pP.tables eE below (T_2.setTop (mkF mM 28 #[.val (.int p1), .val (.int (3 : Int32)), .val (.ref x2), .val (.int (0 : Int32)), .val (.ref t), .unset] [(.ref t)])) _
    refine st_3 _ ?_
    show Steps pP.tables eE below (T_3.setTop (mkF mM 30 #[.val (.int p1), .val (.int (3 : Int32)), .val (.ref x2), .val (.int (0 : Int32)), .val (.ref t), .unset] [(.ref a_3), (.ref t)])) _
    refine st_4.trans ?_
    show Steps pP.tables eE below (T_4.setTop (mkF mM 33 #[.val (.int p1), .val (.int (3 : Int32)), .val (.ref x2), .val (.int (0 : Int32)), .val (.ref t), .unset] [(.int (0 : Int32))])) _
    refine XS.ifNo X_4.here hx rfl (hb hby at_33) rfl (by decide) ?_
    show Steps pP.tables eE below (T_4.setTop (mkF mM 36 #[.val (.int p1), .val (.int (3 : Int32)), .val (.ref x2), .val (.int (0 : Int32)), .val (.ref t), .unset] [])) _
    refine XS.aload X_4.here hx rfl (hb hby at_36) rfl rfl ?_
    show Steps pP.tables eE below (T_4.setTop (mkF mM 38 #[.val (.int p1), .val (.int (3 : Int32)), .val (.ref x2), .val (.int (0 : Int32)), .val (.ref t), .unset] [(.ref t)])) _
    refine st_5 _ ?_
    show Steps pP.tables eE below (T_5.setTop (mkF mM 40 #[.val (.int p1), .val (.int (3 : Int32)), .val (.ref x2), .val (.int (0 : Int32)), .val (.ref t), .unset] [(.ref a_5), (.ref t)])) _
    refine st_6.trans ?_
    show Steps pP.tables eE below (T_6.setTop (mkF mM 43 #[.val (.int p1), .val (.int (3 : Int32)), .val (.ref x2), .val (.int (0 : Int32)), .val (.ref t), .unset] [(.int (0 : Int32))])) _
    refine XS.ifYes X_6.here hx rfl (pc0 := 43) (pc' := 50) rfl (hb hby at_43) rfl (by decide) (by decide) (by decide) ?_
    show Steps pP.tables eE below (T_6.setTop (mkF mM 50 #[.val (.int p1), .val (.int (3 : Int32)), .val (.ref x2), .val (.int (0 : Int32)), .val (.ref t), .unset] [])) _
    refine XS.iconst X_6.here hx rfl (hb hby at_50) ?_
    show Steps pP.tables eE below (T_6.setTop (mkF mM 51 #[.val (.int p1), .val (.int (3 : Int32)), .val (.ref x2), .val (.int (0 : Int32)), .val (.ref t), .unset] [(.int (0 : Int32))])) _
    refine XS.istore X_6.here hx rfl (hb hby at_51) rfl (l' := #[.val (.int p1), .val (.int (3 : Int32)), .val (.ref x2), .val (.int (0 : Int32)), .val (.ref t), .val (.int (0 : Int32))]) rfl ?_
    show Steps pP.tables eE below (T_6.setTop (mkF mM 53 #[.val (.int p1), .val (.int (3 : Int32)), .val (.ref x2), .val (.int (0 : Int32)), .val (.ref t), .val (.int (0 : Int32))] [])) _
    refine XS.aloadN X_6.here hx rfl (hb hby at_53) rfl rfl ?_
    show Steps pP.tables eE below (T_6.setTop (mkF mM 54 #[.val (.int p1), .val (.int (3 : Int32)), .val (.ref x2), .val (.int (0 : Int32)), .val (.ref t), .val (.int (0 : Int32))] [(.ref x2)])) _
    refine st_7.trans ?_
    show Steps pP.tables eE below (T_7.setTop (mkF mM 57 #[.val (.int p1), .val (.int (3 : Int32)), .val (.ref x2), .val (.int (0 : Int32)), .val (.ref t), .val (.int (0 : Int32))] [(.int (0 : Int32))])) _
    refine XS.iloadN X_7.here hx rfl (hb hby at_57) rfl ?_
    show Steps pP.tables eE below (T_7.setTop (mkF mM 58 #[.val (.int p1), .val (.int (3 : Int32)), .val (.ref x2), .val (.int (0 : Int32)), .val (.ref t), .val (.int (0 : Int32))] [(.int (0 : Int32)), (.int (0 : Int32))])) _
    refine XS.icmpNo X_7.here hx rfl (hb hby at_58) rfl (by decide) ?_
    show Steps pP.tables eE below (T_7.setTop (mkF mM 61 #[.val (.int p1), .val (.int (3 : Int32)), .val (.ref x2), .val (.int (0 : Int32)), .val (.ref t), .val (.int (0 : Int32))] [])) _
    refine XS.iload X_7.here hx rfl (hb hby at_61) rfl ?_
    show Steps pP.tables eE below (T_7.setTop (mkF mM 63 #[.val (.int p1), .val (.int (3 : Int32)), .val (.ref x2), .val (.int (0 : Int32)), .val (.ref t), .val (.int (0 : Int32))] [(.int (0 : Int32))])) _
    refine XS.iloadN X_7.here hx rfl (hb hby at_63) rfl ?_
    show Steps pP.tables eE below (T_7.setTop (mkF mM 64 #[.val (.int p1), .val (.int (3 : Int32)), .val (.ref x2), .val (.int (0 : Int32)), .val (.ref t), .val (.int (0 : Int32))] [(.int (0 : Int32)), (.int (0 : Int32))])) _
    refine XS.icmpNo X_7.here hx rfl (hb hby at_64) rfl (by decide) ?_
    show Steps pP.tables eE below (T_7.setTop (mkF mM 67 #[.val (.int p1), .val (.int (3 : Int32)), .val (.ref x2), .val (.int (0 : Int32)), .val (.ref t), .val (.int (0 : Int32))] [])) _
    refine XS.iconst X_7.here hx rfl (hb hby at_67) ?_
    show Steps pP.tables eE below (T_7.setTop (mkF mM 68 #[.val (.int p1), .val (.int (3 : Int32)), .val (.ref x2), .val (.int (0 : Int32)), .val (.ref t), .val (.int (0 : Int32))] [(.int (1 : Int32))])) _
    refine XS.goto X_7.here hx rfl (pc0 := 68) (pc' := 72) rfl (hb hby at_68) (by decide) (by decide) ?_
    show Steps pP.tables eE below (T_7.setTop (mkF mM 72 #[.val (.int p1), .val (.int (3 : Int32)), .val (.ref x2), .val (.int (0 : Int32)), .val (.ref t), .val (.int (0 : Int32))] [(.int (1 : Int32))])) _
    exact retN X_7 hx (t := .boolean) Bd.returns (by simp) (hb hby at_72) hr
  · show Q_law3 Z p1 oa os x2 t tv kt cs h0 n0 _ T_7.heap _
    exact ⟨rfl, N_7⟩
set_option maxRecDepth 65536 in
set_option maxHeartbeats 40000000 in
theorem comes_1 {Post : Tables → Env → Array Value → State → Outcome → State → Prop} (hpost : ∀ tb e args s v u, (limb_1_1.after args s (.returned v) u = true ∧ limb_1_2.after args s (.returned v) u = true ∧ True) → ReturnedEndW s (.returned v) u (Jvm.fieldLocs frame_1_writes args s ++ Jvm.arrayLocs frame_1_arrays args s ++ Jvm.staticLocs frame_1_statics s) 8 2112 → Post tb e args s (.returned v) u) :
    ArmFor flags0 classFile x code maxLocals ret World_1 tables_1 room_1 Calls_1 rest_1 Pre_1 Post := by
  intro l hfl _ _ p e ha hc hk s m args below hf hA hF happ hP
  obtain ⟨hcalls, hrest, hpre⟩ := hP
  obtain ⟨-, -, -, hnamed, -, -, -, hat⟩ := (Spec.applies_iff hf).mp happ
  obtain ⟨hg, hn⟩ := and_e (Cond.before_iff.mp (show (Jvm.Cond.and given_1 narrow_1).before args s = true from hpre))
  obtain ⟨hg1, hg2⟩ := and_e hg
  obtain ⟨w0, rfl⟩ : ∃ w0 : Value, args = #[w0] := by
    have hs : args.size = 1 := by simpa [Cond.value, given_1] using hg1
    obtain ⟨L⟩ := args
    match L, hs with
    | [w0], _ => exact ⟨w0, rfl⟩
  obtain ⟨i0, ei0⟩ := is_v hg2
  obtain rfl : w0 = (.int i0) := Option.some.inj ei0
  have hw := fun d (hd : d ∈ tables_1) => atoms_spec (ws := Jvm.Cond.code x code maxLocals ret :: tables_1) hat d (List.mem_cons_of_mem _ hd)
  have hfit : Fit s := fun {y c} hc i hi => by
    obtain ⟨ha, rfl⟩ := Array.getElem?_eq_some_iff.mp hc
    have q := List.all_eq_true.mp ((Array.all_eq_true_iff_forall_mem.mp hF) _ (Array.getElem_mem ha)) i (List.mem_range.mpr hi)
    simpa [Array.getElem?_eq_getElem hi] using q
  obtain ⟨hsets, hown0⟩ := atoms_of _ (rest_1_c_eq ▸ (show rest_1_c.before _ s = true from hrest))
  obtain ⟨hn1, hn2⟩ := and_e hn
  obtain ⟨hn3, hn4⟩ := and_e hn2
  obtain ⟨hn5, hn6⟩ := and_e hn4
  obtain ⟨hn7, hn8⟩ := and_e hn6
  obtain ⟨hn9, hn10⟩ := and_e hn8
  obtain ⟨hn11, hn12⟩ := and_e hn10
  obtain ⟨hn13, hn14⟩ := and_e hn12
  obtain ⟨hn15, hn16⟩ := and_e hn14
  obtain ⟨hn17, hn18⟩ := and_e hn16
  obtain ⟨hn19, hn20⟩ := and_e hn18
  obtain ⟨hn21, hn22⟩ := and_e hn20
  obtain ⟨hn23, hn24⟩ := and_e hn22
  obtain ⟨hn25, hn26⟩ := and_e hn24
  obtain ⟨hn27, hn28⟩ := and_e hn26
  obtain ⟨hn29, hn30⟩ := and_e hn28
  obtain ⟨hn31, hn32⟩ := and_e hn30
  obtain ⟨hn33, hn34⟩ := and_e hn32
  obtain ⟨hn35, hn36⟩ := and_e hn34
  obtain ⟨hn37, hn38⟩ := and_e hn36
  obtain ⟨hn39, hn40⟩ := and_e hn38
  obtain ⟨hn41, hn42⟩ := and_e hn40
  obtain ⟨hn43, hn44⟩ := and_e hn42
  obtain ⟨hn45, hn46⟩ := and_e hn44
  obtain ⟨hn47, hn48⟩ := and_e hn46
  obtain ⟨hn49, hn50⟩ := and_e hn48
  obtain ⟨hn51, hn52⟩ := and_e hn50
  obtain ⟨hn53, hn54⟩ := and_e hn52
  obtain ⟨x_ArithmeticOperator_ADD, ev_x_ArithmeticOperator_ADD⟩ := exa_v hn1
  have E_x_ArithmeticOperator_ADD := Exa.start ev_x_ArithmeticOperator_ADD hn1
  have S_ArithmeticOperator_ADD := Sta.start ev_x_ArithmeticOperator_ADD (Or.inr ⟨(hw _ (List.mem_of_getElem? (i := 5) rfl)), (hw _ (List.mem_of_getElem? (i := 6) rfl))⟩)
  obtain ⟨x_ArithmeticOperator_ADD_symbol, ev_x_ArithmeticOperator_ADD_symbol⟩ := exa_v hn3
  have E_x_ArithmeticOperator_ADD_symbol := Exa.start ev_x_ArithmeticOperator_ADD_symbol hn3
  have F_x_ArithmeticOperator_ADD_symbol := own_fld ev_x_ArithmeticOperator_ADD ev_x_ArithmeticOperator_ADD_symbol
  have F_x_ArithmeticOperator_ADD_symbol_coder := own_fld ev_x_ArithmeticOperator_ADD_symbol (own_eqi hn5)
  obtain ⟨x_ArithmeticOperator_DIVIDE, ev_x_ArithmeticOperator_DIVIDE⟩ := exa_v hn13
  have E_x_ArithmeticOperator_DIVIDE := Exa.start ev_x_ArithmeticOperator_DIVIDE hn13
  have S_ArithmeticOperator_DIVIDE := Sta.start ev_x_ArithmeticOperator_DIVIDE (Or.inr ⟨(hw _ (List.mem_of_getElem? (i := 5) rfl)), (hw _ (List.mem_of_getElem? (i := 43) rfl))⟩)
  obtain ⟨x_ArithmeticOperator_DIVIDE_symbol, ev_x_ArithmeticOperator_DIVIDE_symbol⟩ := exa_v hn15
  have E_x_ArithmeticOperator_DIVIDE_symbol := Exa.start ev_x_ArithmeticOperator_DIVIDE_symbol hn15
  have F_x_ArithmeticOperator_DIVIDE_symbol := own_fld ev_x_ArithmeticOperator_DIVIDE ev_x_ArithmeticOperator_DIVIDE_symbol
  have F_x_ArithmeticOperator_DIVIDE_symbol_coder := own_fld ev_x_ArithmeticOperator_DIVIDE_symbol (own_eqi hn17)
  have F_x_ArithmeticOperator_DIVIDE_ordinal := own_fld ev_x_ArithmeticOperator_DIVIDE (own_eqi hn25)
  have F_x_ArithmeticOperator_ADD_ordinal := own_fld ev_x_ArithmeticOperator_ADD (own_eqi hn27)
  obtain ⟨x_ArithmeticOperator_SUBTRACT, ev_x_ArithmeticOperator_SUBTRACT⟩ := exa_v hn29
  have E_x_ArithmeticOperator_SUBTRACT := Exa.start ev_x_ArithmeticOperator_SUBTRACT hn29
  have S_ArithmeticOperator_SUBTRACT := Sta.start ev_x_ArithmeticOperator_SUBTRACT (Or.inr ⟨(hw _ (List.mem_of_getElem? (i := 5) rfl)), (hw _ (List.mem_of_getElem? (i := 46) rfl))⟩)
  have F_x_ArithmeticOperator_SUBTRACT_ordinal := own_fld ev_x_ArithmeticOperator_SUBTRACT (own_eqi hn31)
  obtain ⟨x_ArithmeticOperator_MULTIPLY, ev_x_ArithmeticOperator_MULTIPLY⟩ := exa_v hn33
  have E_x_ArithmeticOperator_MULTIPLY := Exa.start ev_x_ArithmeticOperator_MULTIPLY hn33
  have S_ArithmeticOperator_MULTIPLY := Sta.start ev_x_ArithmeticOperator_MULTIPLY (Or.inr ⟨(hw _ (List.mem_of_getElem? (i := 5) rfl)), (hw _ (List.mem_of_getElem? (i := 48) rfl))⟩)
  obtain ⟨x_ArithmeticOperator_MULTIPLY_symbol, ev_x_ArithmeticOperator_MULTIPLY_symbol⟩ := exa_v hn35
  have E_x_ArithmeticOperator_MULTIPLY_symbol := Exa.start ev_x_ArithmeticOperator_MULTIPLY_symbol hn35
  have F_x_ArithmeticOperator_MULTIPLY_symbol := own_fld ev_x_ArithmeticOperator_MULTIPLY ev_x_ArithmeticOperator_MULTIPLY_symbol
  have F_x_ArithmeticOperator_MULTIPLY_symbol_coder := own_fld ev_x_ArithmeticOperator_MULTIPLY_symbol (own_eqi hn37)
  have F_x_ArithmeticOperator_MULTIPLY_ordinal := own_fld ev_x_ArithmeticOperator_MULTIPLY (own_eqi hn45)
  obtain ⟨x_ArithmeticOperator_SUBTRACT_symbol, ev_x_ArithmeticOperator_SUBTRACT_symbol⟩ := exa_v hn47
  have E_x_ArithmeticOperator_SUBTRACT_symbol := Exa.start ev_x_ArithmeticOperator_SUBTRACT_symbol hn47
  have F_x_ArithmeticOperator_SUBTRACT_symbol := own_fld ev_x_ArithmeticOperator_SUBTRACT ev_x_ArithmeticOperator_SUBTRACT_symbol
  have F_x_ArithmeticOperator_SUBTRACT_symbol_coder := own_fld ev_x_ArithmeticOperator_SUBTRACT_symbol (own_eqi hn49)
  obtain ⟨x_ArithmeticOperator_ADD_symbol_value, ev_x_ArithmeticOperator_ADD_symbol_value⟩ := arr_v hn7
  have F_x_ArithmeticOperator_ADD_symbol_value := own_fld ev_x_ArithmeticOperator_ADD_symbol ev_x_ArithmeticOperator_ADD_symbol_value
  obtain ⟨cA_x_ArithmeticOperator_ADD_symbol_value, AA_x_ArithmeticOperator_ADD_symbol_value⟩ := Arr.start ev_x_ArithmeticOperator_ADD_symbol_value hn7
  obtain ⟨hl1_x_ArithmeticOperator_ADD_symbol_value, hl2_x_ArithmeticOperator_ADD_symbol_value⟩ := own_len ev_x_ArithmeticOperator_ADD_symbol_value AA_x_ArithmeticOperator_ADD_symbol_value hn9
  have VA_x_ArithmeticOperator_ADD_symbol_value : Arv s s.heap x_ArithmeticOperator_ADD_symbol_value cA_x_ArithmeticOperator_ADD_symbol_value.cls .byte (1 : Int32) [(.int (43 : Int32))] (.int (0 : Int32)) := Arv.start hfit AA_x_ArithmeticOperator_ADD_symbol_value hl1_x_ArithmeticOperator_ADD_symbol_value hl2_x_ArithmeticOperator_ADD_symbol_value (by decide) rfl ⟨own_elem ev_x_ArithmeticOperator_ADD_symbol_value AA_x_ArithmeticOperator_ADD_symbol_value.1 hn11, trivial⟩
  obtain ⟨x_ArithmeticOperator_DIVIDE_symbol_value, ev_x_ArithmeticOperator_DIVIDE_symbol_value⟩ := arr_v hn19
  have F_x_ArithmeticOperator_DIVIDE_symbol_value := own_fld ev_x_ArithmeticOperator_DIVIDE_symbol ev_x_ArithmeticOperator_DIVIDE_symbol_value
  obtain ⟨cA_x_ArithmeticOperator_DIVIDE_symbol_value, AA_x_ArithmeticOperator_DIVIDE_symbol_value⟩ := Arr.start ev_x_ArithmeticOperator_DIVIDE_symbol_value hn19
  obtain ⟨hl1_x_ArithmeticOperator_DIVIDE_symbol_value, hl2_x_ArithmeticOperator_DIVIDE_symbol_value⟩ := own_len ev_x_ArithmeticOperator_DIVIDE_symbol_value AA_x_ArithmeticOperator_DIVIDE_symbol_value hn21
  have VA_x_ArithmeticOperator_DIVIDE_symbol_value : Arv s s.heap x_ArithmeticOperator_DIVIDE_symbol_value cA_x_ArithmeticOperator_DIVIDE_symbol_value.cls .byte (1 : Int32) [(.int (47 : Int32))] (.int (0 : Int32)) := Arv.start hfit AA_x_ArithmeticOperator_DIVIDE_symbol_value hl1_x_ArithmeticOperator_DIVIDE_symbol_value hl2_x_ArithmeticOperator_DIVIDE_symbol_value (by decide) rfl ⟨own_elem ev_x_ArithmeticOperator_DIVIDE_symbol_value AA_x_ArithmeticOperator_DIVIDE_symbol_value.1 hn23, trivial⟩
  obtain ⟨x_ArithmeticOperator_MULTIPLY_symbol_value, ev_x_ArithmeticOperator_MULTIPLY_symbol_value⟩ := arr_v hn39
  have F_x_ArithmeticOperator_MULTIPLY_symbol_value := own_fld ev_x_ArithmeticOperator_MULTIPLY_symbol ev_x_ArithmeticOperator_MULTIPLY_symbol_value
  obtain ⟨cA_x_ArithmeticOperator_MULTIPLY_symbol_value, AA_x_ArithmeticOperator_MULTIPLY_symbol_value⟩ := Arr.start ev_x_ArithmeticOperator_MULTIPLY_symbol_value hn39
  obtain ⟨hl1_x_ArithmeticOperator_MULTIPLY_symbol_value, hl2_x_ArithmeticOperator_MULTIPLY_symbol_value⟩ := own_len ev_x_ArithmeticOperator_MULTIPLY_symbol_value AA_x_ArithmeticOperator_MULTIPLY_symbol_value hn41
  have VA_x_ArithmeticOperator_MULTIPLY_symbol_value : Arv s s.heap x_ArithmeticOperator_MULTIPLY_symbol_value cA_x_ArithmeticOperator_MULTIPLY_symbol_value.cls .byte (1 : Int32) [(.int (42 : Int32))] (.int (0 : Int32)) := Arv.start hfit AA_x_ArithmeticOperator_MULTIPLY_symbol_value hl1_x_ArithmeticOperator_MULTIPLY_symbol_value hl2_x_ArithmeticOperator_MULTIPLY_symbol_value (by decide) rfl ⟨own_elem ev_x_ArithmeticOperator_MULTIPLY_symbol_value AA_x_ArithmeticOperator_MULTIPLY_symbol_value.1 hn43, trivial⟩
  obtain ⟨x_ArithmeticOperator_SUBTRACT_symbol_value, ev_x_ArithmeticOperator_SUBTRACT_symbol_value⟩ := arr_v hn51
  have F_x_ArithmeticOperator_SUBTRACT_symbol_value := own_fld ev_x_ArithmeticOperator_SUBTRACT_symbol ev_x_ArithmeticOperator_SUBTRACT_symbol_value
  obtain ⟨cA_x_ArithmeticOperator_SUBTRACT_symbol_value, AA_x_ArithmeticOperator_SUBTRACT_symbol_value⟩ := Arr.start ev_x_ArithmeticOperator_SUBTRACT_symbol_value hn51
  obtain ⟨hl1_x_ArithmeticOperator_SUBTRACT_symbol_value, hl2_x_ArithmeticOperator_SUBTRACT_symbol_value⟩ := own_len ev_x_ArithmeticOperator_SUBTRACT_symbol_value AA_x_ArithmeticOperator_SUBTRACT_symbol_value hn53
  have VA_x_ArithmeticOperator_SUBTRACT_symbol_value : Arv s s.heap x_ArithmeticOperator_SUBTRACT_symbol_value cA_x_ArithmeticOperator_SUBTRACT_symbol_value.cls .byte (1 : Int32) [(.int (45 : Int32))] (.int (0 : Int32)) := Arv.start hfit AA_x_ArithmeticOperator_SUBTRACT_symbol_value hl1_x_ArithmeticOperator_SUBTRACT_symbol_value hl2_x_ArithmeticOperator_SUBTRACT_symbol_value (by decide) rfl ⟨own_elem ev_x_ArithmeticOperator_SUBTRACT_symbol_value AA_x_ArithmeticOperator_SUBTRACT_symbol_value.1 hn54, trivial⟩
  obtain ⟨cs, ecs⟩ := is_v (Cond.before_iff.mp (hsets _ (List.mem_of_getElem? (i := 1) rfl)))
  have S1 := Sta.start ecs (Or.inl (hsets _ (List.mem_of_getElem? (i := 0) rfl)))
  have hcs : ¬ cs = 0 := fun q => by
    have h2 := not_v (Cond.before_iff.mp (hsets _ (List.mem_of_getElem? (i := 2) rfl)))
    have h3 := eq_i ecs (Term.int_eval (0)) (congrArg Value.int q) (o := none) (first := s)
    rw [h3] at h2; cases h2
  have hCH := CHv.start (own_EW hw) (fun q hq => hcalls.1 q hq) (hsets _ (List.mem_of_getElem? (i := 2) rfl)) (hw _ (List.mem_of_getElem? (i := 17) rfl)) (hw _ (List.mem_of_getElem? (i := 16) rfl))
  rcases own_and3 i0 with hcs3 | hcs3 | hcs3 | hcs3
  · obtain ⟨n, o, h1, h2, h3, _, L, rfl, ⟨rfl, N⟩, hq⟩ := rm_law0 l s _ hw tables_1 i0 x_ArithmeticOperator_ADD x_ArithmeticOperator_SUBTRACT x_ArithmeticOperator_ADD_symbol x_ArithmeticOperator_ADD_symbol_value cA_x_ArithmeticOperator_ADD_symbol_value.cls cs s.heap s.heap.size (Nat.le_refl _) hcs3 S_ArithmeticOperator_ADD S_ArithmeticOperator_SUBTRACT E_x_ArithmeticOperator_ADD F_x_ArithmeticOperator_ADD_symbol F_x_ArithmeticOperator_ADD_symbol_value F_x_ArithmeticOperator_ADD_symbol_coder E_x_ArithmeticOperator_ADD_symbol VA_x_ArithmeticOperator_ADD_symbol_value S1 hcs p e ha hc hk s m _ below hf ((Spec.applies_iff_loose hf).mp happ).1 ⟨rfl, State.Warmed39.refl s, rfl, hCH⟩ trivial
    exact ⟨n, _, h1, h2, h3, hpost _ _ _ _ _ _ ⟨Cond.after_iff.mpr rfl, Cond.after_iff.mpr (eq_i res_at (Term.int_eval (1)) rfl), trivial⟩ ⟨hq.1, hq.2.1, hq.2.2.1, (hq.2.2.2.sift fun y hy => Or.inr (N y hy)).mono (by decide) (by decide)⟩⟩
  · obtain ⟨n, o, h1, h2, h3, _, L, rfl, ⟨rfl, N⟩, hq⟩ := rm_law1 l s _ hw tables_1 i0 x_ArithmeticOperator_ADD x_ArithmeticOperator_SUBTRACT x_ArithmeticOperator_SUBTRACT_symbol x_ArithmeticOperator_SUBTRACT_symbol_value cA_x_ArithmeticOperator_SUBTRACT_symbol_value.cls cs s.heap s.heap.size (Nat.le_refl _) hcs3 S_ArithmeticOperator_ADD S_ArithmeticOperator_SUBTRACT E_x_ArithmeticOperator_SUBTRACT F_x_ArithmeticOperator_SUBTRACT_symbol F_x_ArithmeticOperator_SUBTRACT_symbol_value F_x_ArithmeticOperator_SUBTRACT_symbol_coder E_x_ArithmeticOperator_SUBTRACT_symbol VA_x_ArithmeticOperator_SUBTRACT_symbol_value S1 hcs (Fld.ne F_x_ArithmeticOperator_SUBTRACT_ordinal F_x_ArithmeticOperator_ADD_ordinal (by decide)) p e ha hc hk s m _ below hf ((Spec.applies_iff_loose hf).mp happ).1 ⟨rfl, State.Warmed39.refl s, rfl, hCH⟩ trivial
    exact ⟨n, _, h1, h2, h3, hpost _ _ _ _ _ _ ⟨Cond.after_iff.mpr rfl, Cond.after_iff.mpr (eq_i res_at (Term.int_eval (1)) rfl), trivial⟩ ⟨hq.1, hq.2.1, hq.2.2.1, (hq.2.2.2.sift fun y hy => Or.inr (N y hy)).mono (by decide) (by decide)⟩⟩
  · obtain ⟨n, o, h1, h2, h3, _, L, rfl, ⟨rfl, N⟩, hq⟩ := rm_law2 l s _ hw tables_1 i0 x_ArithmeticOperator_ADD x_ArithmeticOperator_SUBTRACT x_ArithmeticOperator_MULTIPLY x_ArithmeticOperator_MULTIPLY_symbol x_ArithmeticOperator_MULTIPLY_symbol_value cA_x_ArithmeticOperator_MULTIPLY_symbol_value.cls cs s.heap s.heap.size (Nat.le_refl _) hcs3 S_ArithmeticOperator_ADD S_ArithmeticOperator_SUBTRACT S_ArithmeticOperator_MULTIPLY E_x_ArithmeticOperator_MULTIPLY F_x_ArithmeticOperator_MULTIPLY_symbol F_x_ArithmeticOperator_MULTIPLY_symbol_value F_x_ArithmeticOperator_MULTIPLY_symbol_coder E_x_ArithmeticOperator_MULTIPLY_symbol VA_x_ArithmeticOperator_MULTIPLY_symbol_value S1 hcs (Fld.ne F_x_ArithmeticOperator_MULTIPLY_ordinal F_x_ArithmeticOperator_ADD_ordinal (by decide)) (Fld.ne F_x_ArithmeticOperator_MULTIPLY_ordinal F_x_ArithmeticOperator_SUBTRACT_ordinal (by decide)) p e ha hc hk s m _ below hf ((Spec.applies_iff_loose hf).mp happ).1 ⟨rfl, State.Warmed39.refl s, rfl, hCH⟩ trivial
    exact ⟨n, _, h1, h2, h3, hpost _ _ _ _ _ _ ⟨Cond.after_iff.mpr rfl, Cond.after_iff.mpr (eq_i res_at (Term.int_eval (1)) rfl), trivial⟩ ⟨hq.1, hq.2.1, hq.2.2.1, (hq.2.2.2.sift fun y hy => Or.inr (N y hy)).mono (by decide) (by decide)⟩⟩
  · obtain ⟨n, o, h1, h2, h3, _, L, rfl, ⟨rfl, N⟩, hq⟩ := rm_law3 l s _ hw tables_1 i0 x_ArithmeticOperator_ADD x_ArithmeticOperator_SUBTRACT x_ArithmeticOperator_DIVIDE x_ArithmeticOperator_DIVIDE_symbol x_ArithmeticOperator_DIVIDE_symbol_value cA_x_ArithmeticOperator_DIVIDE_symbol_value.cls cs s.heap s.heap.size (Nat.le_refl _) hcs3 S_ArithmeticOperator_ADD S_ArithmeticOperator_SUBTRACT S_ArithmeticOperator_DIVIDE E_x_ArithmeticOperator_DIVIDE F_x_ArithmeticOperator_DIVIDE_symbol F_x_ArithmeticOperator_DIVIDE_symbol_value F_x_ArithmeticOperator_DIVIDE_symbol_coder E_x_ArithmeticOperator_DIVIDE_symbol VA_x_ArithmeticOperator_DIVIDE_symbol_value S1 hcs (Fld.ne F_x_ArithmeticOperator_DIVIDE_ordinal F_x_ArithmeticOperator_ADD_ordinal (by decide)) (Fld.ne F_x_ArithmeticOperator_DIVIDE_ordinal F_x_ArithmeticOperator_SUBTRACT_ordinal (by decide)) p e ha hc hk s m _ below hf ((Spec.applies_iff_loose hf).mp happ).1 ⟨rfl, State.Warmed39.refl s, rfl, hCH⟩ trivial
    exact ⟨n, _, h1, h2, h3, hpost _ _ _ _ _ _ ⟨Cond.after_iff.mpr rfl, Cond.after_iff.mpr (eq_i res_at (Term.int_eval (1)) rfl), trivial⟩ ⟨hq.1, hq.2.1, hq.2.2.1, (hq.2.2.2.sift fun y hy => Or.inr (N y hy)).mono (by decide) (by decide)⟩⟩
theorem main_1_1 : Claimed_1_1 := comes_1 fun _ _ _ _ _ _ h hF => ⟨h.1, hF⟩
theorem main_1_2 : Claimed_1_2 := comes_1 fun _ _ _ _ _ _ h hF => ⟨h.2.1, hF⟩
end Jvm.Pilot.@@N@@
namespace Jvm.Pilot.@@N@@
open Jvm Jvm.ClassFile Sem Op Lib Jvm.Free Jvm.Stand Jvm.Pilot.@@N@@.Jvm.D
/-! MADE BY PROGRAM (witnessworld.py) out of the Statement's table words and the real class files: 18 classes; the members and pool entries that the words name. The judged class is class 1, her method 2. -/
namespace start1
open Jvm.ClassFile
def u (s : String) : CpInfo := .utf8 (stringToUtf16 s)
/-- a pool by its gaps: so many unusable entries, then the entry; so many at the end -/
def gap : Nat → List CpInfo → List CpInfo
  | 0, r => r
  | n + 1, r => .unusable :: gap n r
def poolList (es : List (Nat × CpInfo)) (last : Nat) : List CpInfo := es.foldr (fun e r => gap e.1 (e.2 :: r)) (gap last [])
def pool (es : List (Nat × CpInfo)) (last : Nat) : Array CpInfo := ⟨poolList es last⟩
def fileOf (pool : Array CpInfo) (this : Nat) (attrs : Array Attribute := #[]) (ms : Array MethodInfo := #[]) (fl : Nat := 33) (sup : Nat := 0) (ifs : Array Nat := #[]) (fds : Array FieldInfo := #[]) : ClassFile where
  minorVersion := 0
  majorVersion := 65
  constantPool := pool
  accessFlags := fl
  thisClass := this
  superClass := sup
  interfaces := ifs
  fields := fds
  methods := ms
  attributes := attrs
def plain (name : String) (sup : Option ClassId) : Class where
  name := name
  kind := .ordinary
  loader := none
  accessFlags := 33
  super := sup
  interfaces := #[]
  cf := none
  fields := #[]
  methods := #[]
  instanceTypes := #[]
  staticTypes := #[]
  resolved := #[]
  callSites := []
  init := .initialized
  statics := none
  mirror := none

def pool0 : Array CpInfo := pool [(5, u "<init>"), (0, u "()V"), (1, .class_ 10), (1, u "java/lang/Object")] 113

def k0m0 : Method := { name := "<init>", desc := "()V", sig := { parameters := [], returnType := none }, accessFlags := 1, code := none }
/-- java/lang/Object -/
def k0 : Class := { plain "java/lang/Object" none with
  accessFlags := 33
  interfaces := #[]
  cf := some (fileOf pool0 8 #[] #[{ accessFlags := 1, nameIndex := 5, descriptorIndex := 6, attributes := #[] }] 33 0 #[] #[])
  fields := #[]
  methods := #[k0m0]
  instanceTypes := #[]
  staticTypes := #[]
  resolved := Array.replicate 124 none
  statics := none }

def pool1 : Array CpInfo := pool [(2, .class_ 4), (1, u "java/lang/Object"), (0, u "<init>"), (0, u "()V"), (0, .fieldref 8 9), (0, .class_ 10), (0, .nameAndType 11 12), (0, u "com/example/querent/querent/jpql/ArithmeticOperator"), (0, u "ADD"), (0, u "Lcom/example/querent/querent/jpql/ArithmeticOperator;"), (0, .fieldref 8 14), (0, .nameAndType 15 12), (0, u "SUBTRACT"), (0, .fieldref 8 17), (0, .nameAndType 18 12), (0, u "MULTIPLY"), (0, .fieldref 8 20), (0, .nameAndType 21 12), (0, u "DIVIDE"), (0, .methodref 23 24), (0, .class_ 25), (0, .nameAndType 26 27), (0, u "com/example/querent/querent/jpql/ArithmeticOperatorIsAdditivePinLaw"), (0, u "pick"), (0, u "(I)Lcom/example/querent/querent/jpql/ArithmeticOperator;"), (0, .methodref 8 29), (0, .nameAndType 30 31), (0, u "symbol"), (0, u "()Ljava/lang/String;"), (0, .string 33), (0, u "+"), (0, .methodref 35 36), (0, .class_ 37), (0, .nameAndType 38 39), (0, u "java/lang/String"), (0, u "equals"), (0, u "(Ljava/lang/Object;)Z"), (0, .string 41), (0, u "-"), (0, .methodref 8 43), (0, .nameAndType 44 45), (0, u "isAdditive"), (0, u "()Z"), (3, u "law"), (0, u "(I)Z")] 2

def k1m0 : Method := { name := "<init>", desc := "()V", sig := { parameters := [], returnType := none }, accessFlags := 1, code := none }
def k1c1 : Code := { maxStack := 2, maxLocals := 1, code := method_2_code, exceptionTable := #[], attributes := #[] }
def k1m1 : Method := { name := "pick", desc := "(I)Lcom/example/querent/querent/jpql/ArithmeticOperator;", sig := { parameters := [.int], returnType := some (.object "com/example/querent/querent/jpql/ArithmeticOperator") }, accessFlags := 10, code := some k1c1 }
def k1c2 : Code := { maxStack := 2, maxLocals := 6, code := code, exceptionTable := #[], attributes := #[] }
def k1m2 : Method := { name := "law", desc := "(I)Z", sig := { parameters := [.int], returnType := some .boolean }, accessFlags := 9, code := some k1c2 }
/-- com/example/querent/querent/jpql/ArithmeticOperatorIsAdditivePinLaw -/
def k1 : Class := { plain "com/example/querent/querent/jpql/ArithmeticOperatorIsAdditivePinLaw" (some 0) with
  accessFlags := 49
  interfaces := #[]
  cf := some (fileOf pool1 23 #[] #[{ accessFlags := 1, nameIndex := 5, descriptorIndex := 6, attributes := #[] }, { accessFlags := 10, nameIndex := 26, descriptorIndex := 27, attributes := #[] }, { accessFlags := 9, nameIndex := 49, descriptorIndex := 50, attributes := #[] }] 49 2 #[] #[])
  fields := #[]
  methods := #[k1m0, k1m1, k1m2]
  instanceTypes := #[]
  staticTypes := #[]
  resolved := Array.replicate 53 none
  statics := none }

def pool2 : Array CpInfo := pool [(1, .class_ 2), (0, u "java/lang/constant/Constable"), (0, .class_ 4), (0, u "java/lang/Object")] 6

/-- java/lang/constant/Constable -/
def k2 : Class := { plain "java/lang/constant/Constable" (some 0) with
  accessFlags := 1537
  interfaces := #[]
  cf := some (fileOf pool2 1 #[] #[] 1537 3 #[] #[])
  fields := #[]
  methods := #[]
  instanceTypes := #[]
  staticTypes := #[]
  resolved := Array.replicate 11 none
  statics := none }

def pool3 : Array CpInfo := pool [(1, .class_ 2), (0, u "java/lang/Comparable"), (0, .class_ 4), (0, u "java/lang/Object")] 7

/-- java/lang/Comparable -/
def k3 : Class := { plain "java/lang/Comparable" (some 0) with
  accessFlags := 1537
  interfaces := #[]
  cf := some (fileOf pool3 1 #[] #[] 1537 3 #[] #[])
  fields := #[]
  methods := #[]
  instanceTypes := #[]
  staticTypes := #[]
  resolved := Array.replicate 12 none
  statics := none }

def pool4 : Array CpInfo := pool [(1, .class_ 2), (0, u "java/io/Serializable"), (0, .class_ 4), (0, u "java/lang/Object")] 2

/-- java/io/Serializable -/
def k4 : Class := { plain "java/io/Serializable" (some 0) with
  accessFlags := 1537
  interfaces := #[]
  cf := some (fileOf pool4 1 #[] #[] 1537 3 #[] #[])
  fields := #[]
  methods := #[]
  instanceTypes := #[]
  staticTypes := #[]
  resolved := Array.replicate 7 none
  statics := none }

def pool5 : Array CpInfo := pool [(2, .class_ 4), (1, u "java/lang/Enum"), (0, u "name"), (0, u "Ljava/lang/String;"), (2, u "ordinal"), (0, u "I"), (1, .class_ 14), (1, u "java/lang/Object"), (4, u "hash"), (86, .class_ 108), (1, u "java/lang/Enum$EnumDesc"), (2, .class_ 112), (0, u "java/lang/constant/Constable"), (0, .class_ 114), (0, u "java/lang/Comparable"), (0, .class_ 116), (0, u "java/io/Serializable")] 87

/-- java/lang/Enum -/
def k5 : Class := { plain "java/lang/Enum" (some 0) with
  accessFlags := 1057
  interfaces := #[2, 3, 4]
  cf := some (fileOf pool5 2 #[.nestMembers #[106]] #[] 1057 12 #[111, 113, 115] #[{ accessFlags := 18, nameIndex := 5, descriptorIndex := 6, attributes := #[] }, { accessFlags := 18, nameIndex := 9, descriptorIndex := 10, attributes := #[] }, { accessFlags := 2, nameIndex := 19, descriptorIndex := 10, attributes := #[] }])
  fields := #[{ name := "name", type := (.object "java/lang/String"), accessFlags := 18, slot := 0, constantValue := 0 }, { name := "ordinal", type := .int, accessFlags := 18, slot := 1, constantValue := 0 }, { name := "hash", type := .int, accessFlags := 2, slot := 2, constantValue := 0 }]
  methods := #[]
  instanceTypes := #[(.object "java/lang/String"), .int, .int]
  staticTypes := #[]
  resolved := Array.replicate 204 none
  statics := none }

def pool6 : Array CpInfo := pool [(1, .class_ 2), (0, u "com/example/querent/querent/jpql/ArithmeticOperator"), (0, .fieldref 1 4), (0, .nameAndType 5 6), (0, u "ADD"), (0, u "Lcom/example/querent/querent/jpql/ArithmeticOperator;"), (0, .fieldref 1 8), (0, .nameAndType 9 6), (0, u "SUBTRACT"), (2, u "MULTIPLY"), (2, u "DIVIDE"), (2, u "$VALUES"), (0, u "[Lcom/example/querent/querent/jpql/ArithmeticOperator;"), (6, .class_ 28), (1, u "java/lang/Enum"), (6, .fieldref 1 36), (0, .nameAndType 37 38), (0, u "symbol"), (0, u "Ljava/lang/String;"), (34, u "()Ljava/lang/String;"), (0, u "isAdditive"), (0, u "()Z")] 7

def k6c0 : Code := { maxStack := 1, maxLocals := 1, code := prog_71_method_4_code, exceptionTable := #[], attributes := #[] }
def k6m0 : Method := { name := "symbol", desc := "()Ljava/lang/String;", sig := { parameters := [], returnType := some (.object "java/lang/String") }, accessFlags := 1, code := some k6c0 }
def k6c1 : Code := { maxStack := 2, maxLocals := 1, code := prog_71_method_5_code, exceptionTable := #[], attributes := #[] }
def k6m1 : Method := { name := "isAdditive", desc := "()Z", sig := { parameters := [], returnType := some .boolean }, accessFlags := 0, code := some k6c1 }
/-- com/example/querent/querent/jpql/ArithmeticOperator -/
def k6 : Class := { plain "com/example/querent/querent/jpql/ArithmeticOperator" (some 5) with
  accessFlags := 16433
  interfaces := #[]
  cf := some (fileOf pool6 1 #[] #[{ accessFlags := 1, nameIndex := 37, descriptorIndex := 73, attributes := #[] }, { accessFlags := 0, nameIndex := 74, descriptorIndex := 75, attributes := #[] }] 16433 26 #[] #[{ accessFlags := 16409, nameIndex := 5, descriptorIndex := 6, attributes := #[] }, { accessFlags := 16409, nameIndex := 9, descriptorIndex := 6, attributes := #[] }, { accessFlags := 16409, nameIndex := 12, descriptorIndex := 6, attributes := #[] }, { accessFlags := 16409, nameIndex := 15, descriptorIndex := 6, attributes := #[] }, { accessFlags := 18, nameIndex := 37, descriptorIndex := 38, attributes := #[] }, { accessFlags := 4122, nameIndex := 18, descriptorIndex := 19, attributes := #[] }])
  fields := #[{ name := "ADD", type := (.object "com/example/querent/querent/jpql/ArithmeticOperator"), accessFlags := 16409, slot := 0, constantValue := 0 }, { name := "SUBTRACT", type := (.object "com/example/querent/querent/jpql/ArithmeticOperator"), accessFlags := 16409, slot := 1, constantValue := 0 }, { name := "MULTIPLY", type := (.object "com/example/querent/querent/jpql/ArithmeticOperator"), accessFlags := 16409, slot := 2, constantValue := 0 }, { name := "DIVIDE", type := (.object "com/example/querent/querent/jpql/ArithmeticOperator"), accessFlags := 16409, slot := 3, constantValue := 0 }, { name := "symbol", type := (.object "java/lang/String"), accessFlags := 18, slot := 3, constantValue := 0 }, { name := "$VALUES", type := (.array (.object "com/example/querent/querent/jpql/ArithmeticOperator")), accessFlags := 4122, slot := 4, constantValue := 0 }]
  methods := #[k6m0, k6m1]
  instanceTypes := #[(.object "java/lang/String"), .int, .int, (.object "java/lang/String")]
  staticTypes := #[(.object "com/example/querent/querent/jpql/ArithmeticOperator"), (.object "com/example/querent/querent/jpql/ArithmeticOperator"), (.object "com/example/querent/querent/jpql/ArithmeticOperator"), (.object "com/example/querent/querent/jpql/ArithmeticOperator"), (.array (.object "com/example/querent/querent/jpql/ArithmeticOperator"))]
  resolved := Array.replicate 83 none
  statics := some 0 }

def pool7 : Array CpInfo := pool [(2, .class_ 4), (1, u "java/lang/CharSequence"), (42, .class_ 48), (0, u "java/lang/CharSequence$1CodePointIterator"), (10, .class_ 60), (0, u "java/lang/CharSequence$1CharIterator"), (5, .class_ 67), (0, u "java/lang/Object")] 63

/-- java/lang/CharSequence -/
def k7 : Class := { plain "java/lang/CharSequence" (some 0) with
  accessFlags := 1537
  interfaces := #[]
  cf := some (fileOf pool7 2 #[.nestMembers #[47, 59]] #[] 1537 66 #[] #[])
  fields := #[]
  methods := #[]
  instanceTypes := #[]
  staticTypes := #[]
  resolved := Array.replicate 131 none
  statics := none }

def pool8 : Array CpInfo := pool [(1, .class_ 2), (0, u "java/lang/constant/ConstantDesc"), (0, .class_ 4), (0, u "java/lang/Object")] 32

/-- java/lang/constant/ConstantDesc -/
def k8 : Class := { plain "java/lang/constant/ConstantDesc" (some 0) with
  accessFlags := 1537
  interfaces := #[]
  cf := some (fileOf pool8 1 #[] #[] 1537 3 #[] #[])
  fields := #[]
  methods := #[]
  instanceTypes := #[]
  staticTypes := #[]
  resolved := Array.replicate 37 none
  statics := none }

def pool9 : Array CpInfo := pool [(2, .class_ 4), (1, u "java/lang/Object"), (0, u "<init>"), (0, u "()V"), (2, .fieldref 10 11), (0, .class_ 12), (0, .nameAndType 13 14), (0, u "java/lang/String"), (0, u "value"), (0, u "[B"), (0, .fieldref 10 16), (0, .nameAndType 17 18), (0, u "coder"), (0, u "B"), (2, u "hash"), (0, u "I"), (2, u "hashIsZero"), (0, u "Z"), (11, .fieldref 10 39), (0, .nameAndType 40 26), (0, u "COMPACT_STRINGS"), (66, .class_ 109), (1, u "java/lang/StringLatin1"), (431, .methodref 107 542), (0, .nameAndType 543 544), (0, u "equals"), (0, u "([B[B)Z"), (28, u "(Ljava/lang/Object;)Z"), (1, .class_ 576), (0, u "java/lang/CharSequence"), (22, u "CASE_INSENSITIVE_ORDER"), (0, u "Ljava/util/Comparator;"), (500, u "serialPersistentFields"), (0, u "[Ljava/io/ObjectStreamField;"), (0, .class_ 1104), (0, u "java/lang/String$CaseInsensitiveComparator"), (1, .class_ 1107), (0, u "java/io/Serializable"), (0, .class_ 1109), (0, u "java/lang/Comparable"), (0, .class_ 1111), (0, u "java/lang/constant/Constable"), (0, .class_ 1113), (0, u "java/lang/constant/ConstantDesc"), (2, u "serialVersionUID"), (0, u "J"), (3, u "REPL"), (0, u "C"), (2, u "LATIN1"), (1, u "UTF16")] 323

def k9m0 : Method := { name := "<init>", desc := "()V", sig := { parameters := [], returnType := none }, accessFlags := 1, code := none }
def k9c1 : Code := { maxStack := 2, maxLocals := 3, code := jdk_42_method_66_code, exceptionTable := #[], attributes := #[] }
def k9m1 : Method := { name := "equals", desc := "(Ljava/lang/Object;)Z", sig := { parameters := [(.object "java/lang/Object")], returnType := some .boolean }, accessFlags := 1, code := some k9c1 }
/-- java/lang/String -/
def k9 : Class := { plain "java/lang/String" (some 0) with
  accessFlags := 49
  interfaces := #[4, 3, 7, 2, 8]
  cf := some (fileOf pool9 10 #[.nestMembers #[1103]] #[{ accessFlags := 1, nameIndex := 5, descriptorIndex := 6, attributes := #[] }, { accessFlags := 1, nameIndex := 543, descriptorIndex := 573, attributes := #[] }] 49 2 #[1106, 1108, 575, 1110, 1112] #[{ accessFlags := 18, nameIndex := 13, descriptorIndex := 14, attributes := #[] }, { accessFlags := 18, nameIndex := 17, descriptorIndex := 18, attributes := #[] }, { accessFlags := 2, nameIndex := 21, descriptorIndex := 22, attributes := #[] }, { accessFlags := 2, nameIndex := 25, descriptorIndex := 26, attributes := #[] }, { accessFlags := 26, nameIndex := 1116, descriptorIndex := 1117, attributes := #[] }, { accessFlags := 24, nameIndex := 40, descriptorIndex := 26, attributes := #[] }, { accessFlags := 26, nameIndex := 1101, descriptorIndex := 1102, attributes := #[] }, { accessFlags := 26, nameIndex := 1121, descriptorIndex := 1122, attributes := #[] }, { accessFlags := 25, nameIndex := 599, descriptorIndex := 600, attributes := #[] }, { accessFlags := 24, nameIndex := 1125, descriptorIndex := 18, attributes := #[] }, { accessFlags := 24, nameIndex := 1127, descriptorIndex := 18, attributes := #[] }])
  fields := #[{ name := "value", type := (.array .byte), accessFlags := 18, slot := 0, constantValue := 0 }, { name := "coder", type := .byte, accessFlags := 18, slot := 1, constantValue := 0 }, { name := "hash", type := .int, accessFlags := 2, slot := 2, constantValue := 0 }, { name := "hashIsZero", type := .boolean, accessFlags := 2, slot := 3, constantValue := 0 }, { name := "serialVersionUID", type := .long, accessFlags := 26, slot := 0, constantValue := 0 }, { name := "COMPACT_STRINGS", type := .boolean, accessFlags := 24, slot := 1, constantValue := 0 }, { name := "serialPersistentFields", type := (.array (.object "java/io/ObjectStreamField")), accessFlags := 26, slot := 2, constantValue := 0 }, { name := "REPL", type := .char, accessFlags := 26, slot := 3, constantValue := 0 }, { name := "CASE_INSENSITIVE_ORDER", type := (.object "java/util/Comparator"), accessFlags := 25, slot := 4, constantValue := 0 }, { name := "LATIN1", type := .byte, accessFlags := 24, slot := 5, constantValue := 0 }, { name := "UTF16", type := .byte, accessFlags := 24, slot := 6, constantValue := 0 }]
  methods := #[k9m0, k9m1]
  instanceTypes := #[(.array .byte), .byte, .int, .boolean]
  staticTypes := #[.long, .boolean, (.array (.object "java/io/ObjectStreamField")), .char, (.object "java/util/Comparator"), .byte, .byte]
  resolved := Array.replicate 1451 none
  statics := some 1 }

def pool10 : Array CpInfo := pool [(4, .class_ 6), (1, u "java/lang/Object"), (0, u "<init>"), (0, u "()V"), (5, .class_ 16), (1, u "java/lang/StringLatin1"), (104, u "$assertionsDisabled"), (0, u "Z"), (98, .class_ 223), (1, u "java/lang/StringLatin1$LinesSpliterator"), (57, u "equals"), (0, u "([B[B)Z"), (107, .class_ 391), (0, u "java/lang/StringLatin1$CharsSpliterator")] 3

def k10m0 : Method := { name := "<init>", desc := "()V", sig := { parameters := [], returnType := none }, accessFlags := 0, code := none }
def k10c1 : Code := { maxStack := 3, maxLocals := 3, code := jdk_43_method_13_code, exceptionTable := #[], attributes := #[] }
def k10m1 : Method := { name := "equals", desc := "([B[B)Z", sig := { parameters := [(.array .byte), (.array .byte)], returnType := some .boolean }, accessFlags := 9, code := some k10c1 }
/-- java/lang/StringLatin1 -/
def k10 : Class := { plain "java/lang/StringLatin1" (some 0) with
  accessFlags := 48
  interfaces := #[]
  cf := some (fileOf pool10 14 #[.nestMembers #[390, 221]] #[{ accessFlags := 0, nameIndex := 7, descriptorIndex := 8, attributes := #[] }, { accessFlags := 9, nameIndex := 281, descriptorIndex := 282, attributes := #[] }] 48 4 #[] #[{ accessFlags := 4120, nameIndex := 121, descriptorIndex := 122, attributes := #[] }])
  fields := #[{ name := "$assertionsDisabled", type := .boolean, accessFlags := 4120, slot := 0, constantValue := 0 }]
  methods := #[k10m0, k10m1]
  instanceTypes := #[]
  staticTypes := #[.boolean]
  resolved := Array.replicate 395 none
  statics := none }

def pool11 : Array CpInfo := pool [(2, .class_ 4), (1, u "java/lang/Object"), (0, u "<init>"), (0, u "()V"), (17, .class_ 26), (1, u "jdk/internal/util/Preconditions"), (28, .class_ 56), (0, u "jdk/internal/util/Preconditions$4"), (57, .class_ 115), (0, u "jdk/internal/util/Preconditions$1"), (7, u "SIOOBE_FORMATTER"), (0, u "Ljava/util/function/BiFunction;"), (0, .class_ 126), (0, u "jdk/internal/util/Preconditions$2"), (3, u "AIOOBE_FORMATTER"), (0, .class_ 132), (0, u "jdk/internal/util/Preconditions$3"), (3, u "IOOBE_FORMATTER")] 57

def k11m0 : Method := { name := "<init>", desc := "()V", sig := { parameters := [], returnType := none }, accessFlags := 1, code := none }
/-- jdk/internal/util/Preconditions -/
def k11 : Class := { plain "jdk/internal/util/Preconditions" (some 0) with
  accessFlags := 33
  interfaces := #[]
  cf := some (fileOf pool11 24 #[.nestMembers #[55, 131, 125, 114]] #[{ accessFlags := 1, nameIndex := 5, descriptorIndex := 6, attributes := #[] }] 33 2 #[] #[{ accessFlags := 25, nameIndex := 123, descriptorIndex := 124, attributes := #[] }, { accessFlags := 25, nameIndex := 130, descriptorIndex := 124, attributes := #[] }, { accessFlags := 25, nameIndex := 136, descriptorIndex := 124, attributes := #[] }])
  fields := #[{ name := "SIOOBE_FORMATTER", type := (.object "java/util/function/BiFunction"), accessFlags := 25, slot := 0, constantValue := 0 }, { name := "AIOOBE_FORMATTER", type := (.object "java/util/function/BiFunction"), accessFlags := 25, slot := 1, constantValue := 0 }, { name := "IOOBE_FORMATTER", type := (.object "java/util/function/BiFunction"), accessFlags := 25, slot := 2, constantValue := 0 }]
  methods := #[k11m0]
  instanceTypes := #[]
  staticTypes := #[(.object "java/util/function/BiFunction"), (.object "java/util/function/BiFunction"), (.object "java/util/function/BiFunction")]
  resolved := Array.replicate 194 none
  statics := some 2 }

def pool12 : Array CpInfo := pool [(9, u "<init>"), (6, .class_ 18), (1, u "java/lang/Object"), (0, u "()V"), (1, .class_ 23), (1, u "jdk/internal/util/ArraysSupport"), (0, u "LOG2_ARRAY_LONG_INDEX_SCALE"), (0, u "I"), (2, u "U"), (0, u "Ljdk/internal/misc/Unsafe;"), (8, u "BIG_ENDIAN"), (0, u "Z"), (8, u "LOG2_BYTE_BIT_SIZE"), (4, u "LOG2_ARRAY_INT_INDEX_SCALE"), (54, u "JLA"), (0, u "Ljdk/internal/access/JavaLangAccess;"), (11, u "LOG2_ARRAY_BOOLEAN_INDEX_SCALE"), (9, u "LOG2_ARRAY_BYTE_INDEX_SCALE"), (5, u "LOG2_ARRAY_CHAR_INDEX_SCALE"), (5, u "LOG2_ARRAY_SHORT_INDEX_SCALE"), (18, u "LOG2_ARRAY_FLOAT_INDEX_SCALE"), (24, u "LOG2_ARRAY_DOUBLE_INDEX_SCALE"), (89, u "T_BOOLEAN"), (2, u "T_CHAR"), (1, u "T_FLOAT"), (1, u "T_DOUBLE"), (1, u "T_BYTE"), (1, u "T_SHORT"), (1, u "T_INT"), (1, u "T_LONG"), (1, u "SOFT_MAX_ARRAY_LENGTH")] 83

def k12m0 : Method := { name := "<init>", desc := "()V", sig := { parameters := [], returnType := none }, accessFlags := 2, code := none }
/-- jdk/internal/util/ArraysSupport -/
def k12 : Class := { plain "jdk/internal/util/ArraysSupport" (some 0) with
  accessFlags := 33
  interfaces := #[]
  cf := some (fileOf pool12 21 #[] #[{ accessFlags := 2, nameIndex := 9, descriptorIndex := 19, attributes := #[] }] 33 16 #[] #[{ accessFlags := 24, nameIndex := 28, descriptorIndex := 29, attributes := #[] }, { accessFlags := 26, nameIndex := 38, descriptorIndex := 39, attributes := #[] }, { accessFlags := 25, nameIndex := 121, descriptorIndex := 25, attributes := #[] }, { accessFlags := 25, nameIndex := 131, descriptorIndex := 25, attributes := #[] }, { accessFlags := 25, nameIndex := 137, descriptorIndex := 25, attributes := #[] }, { accessFlags := 25, nameIndex := 143, descriptorIndex := 25, attributes := #[] }, { accessFlags := 25, nameIndex := 53, descriptorIndex := 25, attributes := #[] }, { accessFlags := 25, nameIndex := 24, descriptorIndex := 25, attributes := #[] }, { accessFlags := 25, nameIndex := 162, descriptorIndex := 25, attributes := #[] }, { accessFlags := 25, nameIndex := 187, descriptorIndex := 25, attributes := #[] }, { accessFlags := 26, nameIndex := 48, descriptorIndex := 25, attributes := #[] }, { accessFlags := 25, nameIndex := 277, descriptorIndex := 25, attributes := #[] }, { accessFlags := 25, nameIndex := 280, descriptorIndex := 25, attributes := #[] }, { accessFlags := 25, nameIndex := 282, descriptorIndex := 25, attributes := #[] }, { accessFlags := 25, nameIndex := 284, descriptorIndex := 25, attributes := #[] }, { accessFlags := 25, nameIndex := 286, descriptorIndex := 25, attributes := #[] }, { accessFlags := 25, nameIndex := 288, descriptorIndex := 25, attributes := #[] }, { accessFlags := 25, nameIndex := 290, descriptorIndex := 25, attributes := #[] }, { accessFlags := 25, nameIndex := 292, descriptorIndex := 25, attributes := #[] }, { accessFlags := 26, nameIndex := 108, descriptorIndex := 109, attributes := #[] }, { accessFlags := 25, nameIndex := 294, descriptorIndex := 25, attributes := #[] }])
  fields := #[{ name := "U", type := (.object "jdk/internal/misc/Unsafe"), accessFlags := 24, slot := 0, constantValue := 0 }, { name := "BIG_ENDIAN", type := .boolean, accessFlags := 26, slot := 1, constantValue := 0 }, { name := "LOG2_ARRAY_BOOLEAN_INDEX_SCALE", type := .int, accessFlags := 25, slot := 2, constantValue := 0 }, { name := "LOG2_ARRAY_BYTE_INDEX_SCALE", type := .int, accessFlags := 25, slot := 3, constantValue := 0 }, { name := "LOG2_ARRAY_CHAR_INDEX_SCALE", type := .int, accessFlags := 25, slot := 4, constantValue := 0 }, { name := "LOG2_ARRAY_SHORT_INDEX_SCALE", type := .int, accessFlags := 25, slot := 5, constantValue := 0 }, { name := "LOG2_ARRAY_INT_INDEX_SCALE", type := .int, accessFlags := 25, slot := 6, constantValue := 0 }, { name := "LOG2_ARRAY_LONG_INDEX_SCALE", type := .int, accessFlags := 25, slot := 7, constantValue := 0 }, { name := "LOG2_ARRAY_FLOAT_INDEX_SCALE", type := .int, accessFlags := 25, slot := 8, constantValue := 0 }, { name := "LOG2_ARRAY_DOUBLE_INDEX_SCALE", type := .int, accessFlags := 25, slot := 9, constantValue := 0 }, { name := "LOG2_BYTE_BIT_SIZE", type := .int, accessFlags := 26, slot := 10, constantValue := 0 }, { name := "T_BOOLEAN", type := .int, accessFlags := 25, slot := 11, constantValue := 0 }, { name := "T_CHAR", type := .int, accessFlags := 25, slot := 12, constantValue := 0 }, { name := "T_FLOAT", type := .int, accessFlags := 25, slot := 13, constantValue := 0 }, { name := "T_DOUBLE", type := .int, accessFlags := 25, slot := 14, constantValue := 0 }, { name := "T_BYTE", type := .int, accessFlags := 25, slot := 15, constantValue := 0 }, { name := "T_SHORT", type := .int, accessFlags := 25, slot := 16, constantValue := 0 }, { name := "T_INT", type := .int, accessFlags := 25, slot := 17, constantValue := 0 }, { name := "T_LONG", type := .int, accessFlags := 25, slot := 18, constantValue := 0 }, { name := "JLA", type := (.object "jdk/internal/access/JavaLangAccess"), accessFlags := 26, slot := 19, constantValue := 0 }, { name := "SOFT_MAX_ARRAY_LENGTH", type := .int, accessFlags := 25, slot := 20, constantValue := 0 }]
  methods := #[k12m0]
  instanceTypes := #[]
  staticTypes := #[(.object "jdk/internal/misc/Unsafe"), .boolean, .int, .int, .int, .int, .int, .int, .int, .int, .int, .int, .int, .int, .int, .int, .int, .int, .int, (.object "jdk/internal/access/JavaLangAccess"), .int]
  resolved := Array.replicate 378 none
  statics := none }

def pool13 : Array CpInfo := pool [(1, u "java/lang/Cloneable"), (0, .class_ 1), (0, u "java/lang/Object"), (0, .class_ 3)] 3

/-- java/lang/Cloneable -/
def k13 : Class := { plain "java/lang/Cloneable" (some 0) with
  accessFlags := 1537
  interfaces := #[]
  cf := some (fileOf pool13 2 #[] #[] 1537 4 #[] #[])
  fields := #[]
  methods := #[]
  instanceTypes := #[]
  staticTypes := #[]
  resolved := Array.replicate 8 none
  statics := none }

/-- the primitive byte -/
def k14 : Class := { plain "byte" none with kind := .primitive 'B', accessFlags := 0x411 }
/-- [B -/
def k15 : Class := { plain "[B" (some 0) with kind := .array 14 .byte, interfaces := #[13, 4], accessFlags := 1041 }

/-- the primitive int -/
def k16 : Class := { plain "int" none with kind := .primitive 'I', accessFlags := 0x411 }
/-- [I -/
def k17 : Class := { plain "[I" (some 0) with kind := .array 16 .int, interfaces := #[13, 4], accessFlags := 1041 }

def heap : Heap := #[{ cls := 6, slots := #[.ref 3, .ref 7, .ref 8, .ref 5, .null], vm := .statics 6 },
  { cls := 9, slots := #[.long 0, .int 1, .null, .int 0, .null, .int 0, .int 0], vm := .statics 9 },
  { cls := 11, slots := #[.null, .null, .null], vm := .statics 11 },
  { cls := 6, slots := #[.null, .int 0, .int 0, .ref 4], vm := .none },
  { cls := 9, slots := #[.ref 11, .int 0, .int 0, .int 0], vm := .none },
  { cls := 6, slots := #[.null, .int 3, .int 0, .ref 6], vm := .none },
  { cls := 9, slots := #[.ref 12, .int 0, .int 0, .int 0], vm := .none },
  { cls := 6, slots := #[.null, .int 1, .int 0, .ref 10], vm := .none },
  { cls := 6, slots := #[.null, .int 2, .int 0, .ref 9], vm := .none },
  { cls := 9, slots := #[.ref 13, .int 0, .int 0, .int 0], vm := .none },
  { cls := 9, slots := #[.ref 14, .int 0, .int 0, .int 0], vm := .none },
  { cls := 15, slots := #[.int 43], vm := .none },
  { cls := 15, slots := #[.int 47], vm := .none },
  { cls := 15, slots := #[.int 42], vm := .none },
  { cls := 15, slots := #[.int 45], vm := .none }]
def classes : Array Class := #[k0, k1, k2, k3, k4, k5, k6, k7, k8, k9, k10, k11, k12, k13, k14, k15, k16, k17]
def interned : List (Array UInt16 × Addr) := []
def slotsUsed : Nat := 51
def theMethod : MethodId := ⟨1, 2⟩
def args0 : Array Value := #[.int 1]
def aboutOver (below : List Frame) : State where
  vm := { classes := classes, interned := interned.toArray }
  heap := heap
  slotsUsed := slotsUsed
  threads := #[{ frames := .invoking theMethod args0 :: below }]
def below0 : List Frame := [.native { method := ⟨0, 0⟩, args := #[] }]
def about1 : State := aboutOver below0
def p0 : Program := .bare "" "" ""
def e0 : Env := launch0.env 0 0 0
theorem w_frames : about1.frames = Frame.invoking theMethod args0 :: below0 := rfl
set_option maxRecDepth 65536 in
theorem w_args : argsFit about1.vm theMethod args0 = true := by decide +kernel
set_option maxRecDepth 65536 in
theorem w_heap : heapFits about1 = true := by decide +kernel
set_option maxRecDepth 65536 in
theorem w_runnable : about1.curStatus? = some .runnable := by decide +kernel
set_option maxRecDepth 65536 in
theorem w_alone : about1.alone = true := by decide +kernel
set_option maxRecDepth 65536 in
theorem w_named : about1.methodNamed? x = some theMethod := by decide +kernel
set_option maxRecDepth 65536 in
theorem w_hears : about1.hears theMethod below0 = true := by decide +kernel
set_option maxRecDepth 65536 in
theorem w_ripe : about1.ripe theMethod args0 below0 = true := by decide +kernel
theorem w_running : about1.status = .running := rfl
set_option maxRecDepth 65536 in
theorem w_room : about1.hasRoom e0.platform room_1 = true :=
  launch0.hasRoom_least _ room_1 (by decide +kernel) (by decide +kernel) (by decide +kernel) (by decide +kernel) (by decide +kernel) (by decide +kernel)
theorem allAtoms_all (ts : List Jvm.Cond) (a : Array Jvm.Value) (st : Jvm.State) : (allAtoms ts).before a st = ts.all (fun c => c.before a st) := by
  induction ts with
  | nil => rfl
  | cons c t ih =>
    show (Jvm.Cond.and c (allAtoms t)).before a st = _
    rw [Jvm.Cond.before_and, ih, List.all_cons]
def words1 : List Jvm.Cond := Jvm.Cond.code x code maxLocals ret :: tables_1
/-- a 'code' word, met by the world's own term for the bytes: nothing is compared byte by byte -/
theorem code_word {y : MethodName} {bytes : ByteArray} {mx : Nat} {rt : Option FieldType} {a : Array Value} {s : State} {m : MethodId} {meth : Method} {c : Code} (h1 : s.methodNamed? y = some m) (h2 : s.vm.method? m = some meth) (h3 : meth.code = some c) (h4 : c.code = bytes)
    (h5 : (c.maxLocals == mx && c.exceptionTable.isEmpty && decide (c.maxStack ≤ mostOperands) && decide (meth.sig.returnType = rt) && !meth.locks && decide (parseMethodDescriptor y.desc = some meth.sig)) = true) : (Jvm.Cond.code y bytes mx rt).before a s = true := by
  simp only [Bool.and_eq_true, beq_iff_eq, Bool.not_eq_true', decide_eq_true_eq] at h5
  obtain ⟨⟨⟨⟨⟨g1, g2⟩, g3⟩, g4⟩, g5⟩, g6⟩ := h5
  simp [Cond.before, Cond.holds, Cond.value, h1, h2, h3, h4, g1, g2, g3, g4, g5, g6]
def isCode : Jvm.Cond → Bool
  | .code _ _ _ _ => true
  | _ => false
theorem all_split {L : List Jvm.Cond} {P : Jvm.Cond → Bool} (h1 : L.all (fun c => isCode c || P c) = true) (h2 : ∀ c ∈ L.filter isCode, P c = true) : L.all P = true := by
  refine List.all_eq_true.mpr fun c hc => ?_
  have h := List.all_eq_true.mp h1 c hc
  rcases Bool.eq_false_or_eq_true (isCode c) with hi | hi
  · exact h2 c (List.mem_filter.mpr ⟨hc, hi⟩)
  · simpa [hi] using h
set_option maxRecDepth 65536 in
theorem w_c0 : (Jvm.Cond.code x code maxLocals ret).before args0 about1 = true := code_word (m := ⟨1, 2⟩) (meth := k1m2) (c := k1c2) (by decide +kernel) rfl rfl rfl (by decide +kernel)
set_option maxRecDepth 65536 in
theorem w_c1 : (Jvm.Cond.code ({ cls := "com/example/querent/querent/jpql/ArithmeticOperatorIsAdditivePinLaw", name := "pick", desc := "(I)Lcom/example/querent/querent/jpql/ArithmeticOperator;" } : Jvm.MethodName) method_2_code (1 : Nat) (Option.some (Jvm.ClassFile.FieldType.object "com/example/querent/querent/jpql/ArithmeticOperator"))).before args0 about1 = true := code_word (m := ⟨1, 1⟩) (meth := k1m1) (c := k1c1) (by decide +kernel) rfl rfl rfl (by decide +kernel)
set_option maxRecDepth 65536 in
theorem w_c2 : (Jvm.Cond.code ({ cls := "com/example/querent/querent/jpql/ArithmeticOperator", name := "symbol", desc := "()Ljava/lang/String;" } : Jvm.MethodName) prog_71_method_4_code (1 : Nat) (Option.some (Jvm.ClassFile.FieldType.object "java/lang/String"))).before args0 about1 = true := code_word (m := ⟨6, 0⟩) (meth := k6m0) (c := k6c0) (by decide +kernel) rfl rfl rfl (by decide +kernel)
set_option maxRecDepth 65536 in
theorem w_c3 : (Jvm.Cond.code ({ cls := "java/lang/String", name := "equals", desc := "(Ljava/lang/Object;)Z" } : Jvm.MethodName) jdk_42_method_66_code (3 : Nat) (Option.some Jvm.ClassFile.FieldType.boolean)).before args0 about1 = true := code_word (m := ⟨9, 1⟩) (meth := k9m1) (c := k9c1) (by decide +kernel) rfl rfl rfl (by decide +kernel)
set_option maxRecDepth 65536 in
theorem w_c4 : (Jvm.Cond.code ({ cls := "java/lang/StringLatin1", name := "equals", desc := "([B[B)Z" } : Jvm.MethodName) jdk_43_method_13_code (3 : Nat) (Option.some Jvm.ClassFile.FieldType.boolean)).before args0 about1 = true := code_word (m := ⟨10, 1⟩) (meth := k10m1) (c := k10c1) (by decide +kernel) rfl rfl rfl (by decide +kernel)
set_option maxRecDepth 65536 in
theorem w_c5 : (Jvm.Cond.code ({ cls := "com/example/querent/querent/jpql/ArithmeticOperator", name := "isAdditive", desc := "()Z" } : Jvm.MethodName) prog_71_method_5_code (1 : Nat) (Option.some Jvm.ClassFile.FieldType.boolean)).before args0 about1 = true := code_word (m := ⟨6, 1⟩) (meth := k6m1) (c := k6c1) (by decide +kernel) rfl rfl rfl (by decide +kernel)
def codes1 : List Jvm.Cond := [Jvm.Cond.code x code maxLocals ret, Jvm.Cond.code ({ cls := "com/example/querent/querent/jpql/ArithmeticOperatorIsAdditivePinLaw", name := "pick", desc := "(I)Lcom/example/querent/querent/jpql/ArithmeticOperator;" } : Jvm.MethodName) method_2_code (1 : Nat) (Option.some (Jvm.ClassFile.FieldType.object "com/example/querent/querent/jpql/ArithmeticOperator")), Jvm.Cond.code ({ cls := "com/example/querent/querent/jpql/ArithmeticOperator", name := "symbol", desc := "()Ljava/lang/String;" } : Jvm.MethodName) prog_71_method_4_code (1 : Nat) (Option.some (Jvm.ClassFile.FieldType.object "java/lang/String")), Jvm.Cond.code ({ cls := "java/lang/String", name := "equals", desc := "(Ljava/lang/Object;)Z" } : Jvm.MethodName) jdk_42_method_66_code (3 : Nat) (Option.some Jvm.ClassFile.FieldType.boolean), Jvm.Cond.code ({ cls := "java/lang/StringLatin1", name := "equals", desc := "([B[B)Z" } : Jvm.MethodName) jdk_43_method_13_code (3 : Nat) (Option.some Jvm.ClassFile.FieldType.boolean), Jvm.Cond.code ({ cls := "com/example/querent/querent/jpql/ArithmeticOperator", name := "isAdditive", desc := "()Z" } : Jvm.MethodName) prog_71_method_5_code (1 : Nat) (Option.some Jvm.ClassFile.FieldType.boolean)]
set_option maxRecDepth 65536 in
theorem codes_eq : words1.filter isCode = codes1 := rfl
theorem w_codes : ∀ c ∈ words1.filter isCode, c.before args0 about1 = true := by
  rw [codes_eq]
  intro c hc
  simp only [codes1, List.mem_cons, List.not_mem_nil, or_false] at hc
  rcases hc with rfl | rfl | rfl | rfl | rfl | rfl
  · exact w_c0
  · exact w_c1
  · exact w_c2
  · exact w_c3
  · exact w_c4
  · exact w_c5
set_option maxRecDepth 65536 in
theorem w_t1 : (words1.take 24).all (fun c => isCode c || c.before args0 about1) = true := by decide +kernel
set_option maxRecDepth 65536 in
theorem w_t2 : ((words1.drop 24).take 24).all (fun c => isCode c || c.before args0 about1) = true := by decide +kernel
set_option maxRecDepth 65536 in
theorem w_t3 : ((words1.drop 24).drop 24).all (fun c => isCode c || c.before args0 about1) = true := by decide +kernel
theorem w_tables : (allAtoms (Jvm.Cond.code x code maxLocals ret :: tables_1)).before args0 about1 = true := by
  rw [allAtoms_all]
  show words1.all (fun c => c.before args0 about1) = true
  refine all_split ?_ w_codes
  rw [← List.take_append_drop 24 words1, List.all_append, w_t1, ← List.take_append_drop 24 (words1.drop 24), List.all_append, w_t2, w_t3]
  rfl
set_option maxRecDepth 65536 in
theorem w_rest : rest_1_c.before args0 about1 = true := by decide +kernel
set_option maxRecDepth 65536 in
theorem w_case : (Jvm.Cond.and given_1 narrow_1).before args0 about1 = true := by decide +kernel
set_option maxRecDepth 65536 in
theorem w_consts : constsHeld consts_1 about1 := Jvm.Lit.constsHeldB_iff.mp (by decide +kernel)
theorem w_applies : (headSpec (Jvm.Cond.code x code maxLocals ret :: tables_1) room_1).applies x e0.platform about1 = true :=
  (Spec.applies_iff w_frames).mpr ⟨w_running, w_runnable, w_alone, w_named, w_hears, w_ripe, w_room, w_tables⟩
theorem atStart : AtStart classFile x code maxLocals ret World_1 tables_1 room_1 Calls_1 rest_1 Pre_1 launch0 p0 e0 about1 theMethod args0 below0 :=
  ⟨lists_1, trivial, launch0.admits_env _ _ _, launch0.least_env, fairChoices_fair.cas, fairChoices_fair.clock, w_frames, w_args, w_heap, w_applies, ⟨w_consts, trivial⟩, w_rest, w_case⟩
end start1
theorem witness_1 : WitnessClaimed_1 := ⟨start1.p0, start1.e0, start1.about1, start1.theMethod, start1.args0, start1.below0, start1.atStart⟩
end Jvm.Pilot.@@N@@
