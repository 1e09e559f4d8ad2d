import JvmDerived
import JvmDerived.Pilot.@@N@@Statement
import JvmDerived.Pilot.@@N@@Code
set_option linter.unusedVariables false
set_option linter.unusedSimpArgs false
namespace Jvm.RoadKit
open Sem ClassFile Op Lib Jvm.Stand Jvm.Free Jvm.LawKit
section New
variable {p : Program} {l : Launch} {e : Env} {R : Room} {s : State} {m : MethodId} {args : Array Value} {below : List Frame} {meth : Method} {c : Code} {T : State} {locs : List Loc} {cells slots : Nat}
theorem retI (X : Stand p l e R s m args below meth c T locs cells slots) (hx : p.tables.exec = Jvm.exec) {pc : Nat} {Ls : Array Slot} {z : Int32} {rest : List Value} (hret : meth.sig.returnType = some .int) (hd : decode c.code pc = .ok (.ireturn, 1)) {fs : List Frame}
    (hl : ∀ (f : JFrame) (acts : List Action), f.method = m → f.locked = none → f.entered = [] → (doReturn e (T.setTop f) acts (some (.int z))).1 = T.setFrames fs) : Steps p.tables e below (T.setTop (mkF m pc Ls (.int z :: rest))) (T.setFrames fs) := by
  have hm' : T.vm.method? m = some meth := X.method'
  have hn : narrow .int (.int z) = .int z := rfl
  show Steps p.tables e below (T.setTop { method := m, pc := pc, locals := Ls, stack := _ :: rest, locked := none }) _
  jvm_step X.here [X.here.top, hx, hd, hm', hret, hn]
  first | (intro acts; rw [hl _ acts rfl rfl rfl]) | rw [hl _ _ rfl rfl rfl]
  exact Steps.refl _
end New
end Jvm.RoadKit
@@BLOCK:NumsL.lean.txt@@
namespace Jvm.Pilot.@@N@@
open Jvm Jvm.ClassFile Sem Op Lib Jvm.Free Jvm.Stand Jvm.LawKit Jvm.RoadKit Bundle Jvm.Pilot.@@N@@.Jvm.D
theorem own_eqi {args : Array Value} {first s : State} {o : Option Outcome} {idx : List Nat} {t : Term} {k : Int32} (h : (Jvm.Cond.eq t (.int k)).value args first o s idx = some true) : t.eval args first o idx s = some (.int k) := by
  simp only [Cond.value, Term.eval] at h
  cases ht : t.eval args first o idx s with
  | none => simp [ht] at h
  | some x => cases x <;> simp [ht] at h ⊢; exact h
theorem own_eql {args : Array Value} {first s : State} {o : Option Outcome} {idx : List Nat} {t : Term} {k : Int64} (h : (Jvm.Cond.eq t (.long k)).value args first o s idx = some true) : t.eval args first o idx s = some (.long k) := by
  simp only [Cond.value, Term.eval] at h
  cases ht : t.eval args first o idx s with
  | none => simp [ht] at h
  | some x => cases x <;> simp [ht] at h ⊢; exact h
theorem own_eqr {args : Array Value} {first s : State} {o : Option Outcome} {idx : List Nat} {t u : Term} {a : Addr} (hu : u.eval args first o idx s = some (.ref a)) (h : (Jvm.Cond.eq t u).value args first o s idx = some true) : t.eval args first o idx s = some (.ref a) := by
  simp only [Cond.value, hu] at h
  cases ht : t.eval args first o idx s with
  | none => simp [ht] at h
  | some x => cases x <;> simp [ht] at h ⊢; exact h
theorem own_fld {args : Array Value} {s : State} {t : Term} {x : Addr} {C n d : String} {v : Value} (ht : t.eval args s none [] s = some (.ref x)) (h : (Term.field t C n d).eval args s none [] s = some v) : Fld s s.heap x C n d v := Fld.start ((fld_at ht).symm.trans h)
theorem own_exa_ns {Z : State} {h : Heap} {a : Addr} {C : String} (F : Exa Z h a C) : ∀ c : Cell, h[a]? = some c → c.vm.isStatics = false := fun c hc => by
  obtain ⟨cell, k, h1, -, -, h4, -⟩ := F
  cases h1.symm.trans hc
  exact h4
theorem own_sta_keep {Z : State} {h h' : Heap} {C n d : String} {v : Value} {ws : List Addr} (F : Sta Z h C n d v) (K : Keep h h' ws) (hn : ∀ x ∈ ws, ∀ c : Cell, h[x]? = some c → c.vm.isStatics = false) : Sta Z h' C n d v := by
  obtain ⟨cf, i, k, f, st, cell, h1, h2, h3, h4, h5, h6, h7⟩ := F
  refine ⟨cf, i, k, f, st, cell, h1, h2, h3, h4, K.2.1 st cell h5 (fun q => ?_), h6, h7⟩
  rw [hn st q cell h5] at h6
  cases h6
theorem d_method_3_0 : decode method_3_code 0 = .ok (.iload_n 0, 1) := by decide +kernel
theorem d_method_3_1 : decode method_3_code 1 = .ok (.ifCond .ne 7, 3) := by decide +kernel
theorem d_method_3_4 : decode method_3_code 4 = .ok (.getstatic 23, 3) := by decide +kernel
theorem d_method_3_7 : decode method_3_code 7 = .ok (.areturn, 1) := by decide +kernel
theorem pn_0 : plainName "com/example/pagewave/pagewave/ObjectiveHasLowerBoundPinLaw" = true := by first | (simp [plainName, overriddenIn]; done) | decide +kernel
theorem ef_pick0 (mM : MethodId) (x0 : Int32) : entryFrame mM #[(.int x0)] 1 = mkF mM 0 #[.val (.int x0)] [] := by first | (simp [entryFrame, mkF, argsToLocals, Value.category]; done) | rfl
def Q_pick0 (Z : State) (r : Addr) (h0 : Heap) (n0 : Nat) (v_ : Option Value) (h_ : Heap) (L_ : List Loc) : Prop := v_ = some (.ref r) ∧ Fr n0 L_ ∧ h_ = h0
set_option maxRecDepth 65536 in
set_option maxHeartbeats 40000000 in
theorem rm_pick0 (l : Launch) (Z : State) (a0 : Array Value) (hw : ∀ d ∈ tables_1, d.before a0 Z = true) (ws : List Jvm.Cond) (r : Addr) (h0 : Heap) (n0 : Nat) (Z0 : n0 ≤ h0.size) (S_Objective_MAX_RESPONSE : Sta Z h0 "com/example/pagewave/pagewave/Objective" "MAX_RESPONSE" "Lcom/example/pagewave/pagewave/Objective;" (.ref r)) :
    MetFree l (⟨"com/example/pagewave/pagewave/ObjectiveHasLowerBoundPinLaw", "pick", "(I)Lcom/example/pagewave/pagewave/Objective;"⟩ : MethodName) (head1 (Jvm.Cond.code (⟨"com/example/pagewave/pagewave/ObjectiveHasLowerBoundPinLaw", "pick", "(I)Lcom/example/pagewave/pagewave/Objective;"⟩ : MethodName) method_3_code 1 (some (.object "com/example/pagewave/pagewave/Objective")) :: ws) ({ frames := 0, cells := 0, slots := 0, locals := 0 } : Room)) (fun aa_ U_ => aa_ = #[(.int (0 : Int32))] ∧ Z.Warmed39 U_.vm ∧ U_.heap = h0) (fun _ _ _ _ _ => True) (fun _ U_ o_ U'_ => ∃ v_ L_, o_ = .returned v_ ∧ Q_pick0 Z r h0 n0 v_ U'_.heap L_ ∧ FrameEnd U_ o_ U'_ L_ ({ frames := 0, cells := 0, slots := 0, locals := 0 } : Room).cells ({ frames := 0, cells := 0, slots := 0, locals := 0 } : Room).slots) := by
  refine MetFree.of_bodySF (plainFor_of_name pn_0) hisR ?_
  intro pP eE sS mM argsA below meth cC s₁ Bd hml0 hP hK
  obtain ⟨rfl, hZ, hh⟩ := hP
  have hx := Bd.exec
  have hby := Bd.bytes
  have hml : cC.maxLocals = 1 := hml0
  have hown : sS.vm.findClass "com/example/pagewave/pagewave/ObjectiveHasLowerBoundPinLaw" = some mM.cls := findClass_of_methodNamed Bd.named
  have hnm := (name_of_methodNamed Bd.named Bd.method).1
  have X0 : Stand pP l eE ({ frames := 0, cells := 0, slots := 0, locals := 0 } : Room) sS mM #[(.int (0 : Int32))] below meth cC s₁ [] 0 0 := Stand.of_body Bd
  have e0 : s₁.heap = h0 := by rw [← hh, Bd.state]; rfl
  have N0 := Fr.nil n0
  have pre0 : ∀ t, Steps pP.tables eE below (s₁.setTop (mkF mM 0 #[.val (.int (0 : Int32))] [])) t → Steps pP.tables eE below (s₁.setTop (entryFrame mM #[(.int (0 : Int32))] 1)) t := fun t k => castTop (ef_pick0 mM (0 : Int32)) k
  obtain ⟨T_1, X_1, e_1, st_1⟩ := getS2 X0 hx hZ hown (host := "") (Or.inl (hw _ (List.mem_of_getElem? (i := 5) rfl))) Via.refl e0 S_Objective_MAX_RESPONSE (g := (mkF mM 4 #[.val (.int (0 : Int32))] [])) rfl (hb hby d_method_3_4)
  obtain ⟨fs, hr, hrun, hended, hW, hsame⟩ := X_1.leave (v := some (.ref r)) (fun h => by rw [Bd.returns] at h; cases h)
  refine ⟨_, _, pre0 _ ?_, hrun, hended, _, _, rfl, ?_, ⟨_, rfl⟩, hW, hsame.mono (by decide) (by decide)⟩
  · show Steps pP.tables eE below (s₁.setTop (mkF mM 0 #[.val (.int (0 : Int32))] [])) _
    refine XS.iloadN X0.here hx rfl (hb hby d_method_3_0) rfl ?_
    show Steps pP.tables eE below (s₁.setTop (mkF mM 1 #[.val (.int (0 : Int32))] [(.int (0 : Int32))])) _
    refine XS.ifNo X0.here hx rfl (hb hby d_method_3_1) rfl (by decide) ?_
    show Steps pP.tables eE below (s₁.setTop (mkF mM 4 #[.val (.int (0 : Int32))] [])) _
    refine st_1 _ ?_
    show Steps pP.tables eE below (T_1.setTop (mkF mM 7 #[.val (.int (0 : Int32))] [(.ref r)])) _
    exact retOut X_1 hx Bd.returns rfl (Or.inr (Or.inr (Or.inr (Or.inr ⟨rfl, rfl, rfl⟩)))) (hb hby d_method_3_7) hr
  · show Q_pick0 Z r h0 n0 _ T_1.heap _
    rw [e_1]
    exact ⟨rfl, N0, rfl⟩
theorem d_method_3_8 : decode method_3_code 8 = .ok (.iload_n 0, 1) := by decide +kernel
theorem d_method_3_9 : decode method_3_code 9 = .ok (.iconst 1, 1) := by decide +kernel
theorem d_method_3_10 : decode method_3_code 10 = .ok (.if_icmp .ne 7, 3) := by decide +kernel
theorem d_method_3_13 : decode method_3_code 13 = .ok (.getstatic 27, 3) := by decide +kernel
theorem d_method_3_16 : decode method_3_code 16 = .ok (.areturn, 1) := by decide +kernel
theorem ef_pick1 (mM : MethodId) (x0 : Int32) : entryFrame mM #[(.int x0)] 1 = mkF mM 0 #[.val (.int x0)] [] := by first | (simp [entryFrame, mkF, argsToLocals, Value.category]; done) | rfl
def Q_pick1 (Z : State) (r : Addr) (h0 : Heap) (n0 : Nat) (v_ : Option Value) (h_ : Heap) (L_ : List Loc) : Prop := v_ = some (.ref r) ∧ Fr n0 L_ ∧ h_ = h0
set_option maxRecDepth 65536 in
set_option maxHeartbeats 40000000 in
theorem rm_pick1 (l : Launch) (Z : State) (a0 : Array Value) (hw : ∀ d ∈ tables_1, d.before a0 Z = true) (ws : List Jvm.Cond) (r : Addr) (h0 : Heap) (n0 : Nat) (Z0 : n0 ≤ h0.size) (S_Objective_TOTAL_FLOW : Sta Z h0 "com/example/pagewave/pagewave/Objective" "TOTAL_FLOW" "Lcom/example/pagewave/pagewave/Objective;" (.ref r)) :
    MetFree l (⟨"com/example/pagewave/pagewave/ObjectiveHasLowerBoundPinLaw", "pick", "(I)Lcom/example/pagewave/pagewave/Objective;"⟩ : MethodName) (head1 (Jvm.Cond.code (⟨"com/example/pagewave/pagewave/ObjectiveHasLowerBoundPinLaw", "pick", "(I)Lcom/example/pagewave/pagewave/Objective;"⟩ : MethodName) method_3_code 1 (some (.object "com/example/pagewave/pagewave/Objective")) :: ws) ({ frames := 0, cells := 0, slots := 0, locals := 0 } : Room)) (fun aa_ U_ => aa_ = #[(.int (1 : Int32))] ∧ Z.Warmed39 U_.vm ∧ U_.heap = h0) (fun _ _ _ _ _ => True) (fun _ U_ o_ U'_ => ∃ v_ L_, o_ = .returned v_ ∧ Q_pick1 Z r h0 n0 v_ U'_.heap L_ ∧ FrameEnd U_ o_ U'_ L_ ({ frames := 0, cells := 0, slots := 0, locals := 0 } : Room).cells ({ frames := 0, cells := 0, slots := 0, locals := 0 } : Room).slots) := by
  refine MetFree.of_bodySF (plainFor_of_name pn_0) hisR ?_
  intro pP eE sS mM argsA below meth cC s₁ Bd hml0 hP hK
  obtain ⟨rfl, hZ, hh⟩ := hP
  have hx := Bd.exec
  have hby := Bd.bytes
  have hml : cC.maxLocals = 1 := hml0
  have hown : sS.vm.findClass "com/example/pagewave/pagewave/ObjectiveHasLowerBoundPinLaw" = some mM.cls := findClass_of_methodNamed Bd.named
  have hnm := (name_of_methodNamed Bd.named Bd.method).1
  have X0 : Stand pP l eE ({ frames := 0, cells := 0, slots := 0, locals := 0 } : Room) sS mM #[(.int (1 : Int32))] below meth cC s₁ [] 0 0 := Stand.of_body Bd
  have e0 : s₁.heap = h0 := by rw [← hh, Bd.state]; rfl
  have N0 := Fr.nil n0
  have pre0 : ∀ t, Steps pP.tables eE below (s₁.setTop (mkF mM 0 #[.val (.int (1 : Int32))] [])) t → Steps pP.tables eE below (s₁.setTop (entryFrame mM #[(.int (1 : Int32))] 1)) t := fun t k => castTop (ef_pick1 mM (1 : Int32)) k
  obtain ⟨T_1, X_1, e_1, st_1⟩ := getS2 X0 hx hZ hown (host := "") (Or.inl (hw _ (List.mem_of_getElem? (i := 25) rfl))) Via.refl e0 S_Objective_TOTAL_FLOW (g := (mkF mM 13 #[.val (.int (1 : Int32))] [])) rfl (hb hby d_method_3_13)
  obtain ⟨fs, hr, hrun, hended, hW, hsame⟩ := X_1.leave (v := some (.ref r)) (fun h => by rw [Bd.returns] at h; cases h)
  refine ⟨_, _, pre0 _ ?_, hrun, hended, _, _, rfl, ?_, ⟨_, rfl⟩, hW, hsame.mono (by decide) (by decide)⟩
  · show Steps pP.tables eE below (s₁.setTop (mkF mM 0 #[.val (.int (1 : Int32))] [])) _
    refine XS.iloadN X0.here hx rfl (hb hby d_method_3_0) rfl ?_
    show Steps pP.tables eE below (s₁.setTop (mkF mM 1 #[.val (.int (1 : Int32))] [(.int (1 : Int32))])) _
    refine XS.ifYes X0.here hx rfl (pc0 := 1) (pc' := 8) rfl (hb hby d_method_3_1) rfl (by decide) (by decide) (by decide) ?_
    show Steps pP.tables eE below (s₁.setTop (mkF mM 8 #[.val (.int (1 : Int32))] [])) _
    refine XS.iloadN X0.here hx rfl (hb hby d_method_3_8) rfl ?_
    show Steps pP.tables eE below (s₁.setTop (mkF mM 9 #[.val (.int (1 : Int32))] [(.int (1 : Int32))])) _
    refine XS.iconst X0.here hx rfl (hb hby d_method_3_9) ?_
    show Steps pP.tables eE below (s₁.setTop (mkF mM 10 #[.val (.int (1 : Int32))] [(.int (1 : Int32)), (.int (1 : Int32))])) _
    refine XS.icmpNo X0.here hx rfl (hb hby d_method_3_10) rfl (by decide) ?_
    show Steps pP.tables eE below (s₁.setTop (mkF mM 13 #[.val (.int (1 : Int32))] [])) _
    refine st_1 _ ?_
    show Steps pP.tables eE below (T_1.setTop (mkF mM 16 #[.val (.int (1 : Int32))] [(.ref r)])) _
    exact retOut X_1 hx Bd.returns rfl (Or.inr (Or.inr (Or.inr (Or.inr ⟨rfl, rfl, rfl⟩)))) (hb hby d_method_3_16) hr
  · show Q_pick1 Z r h0 n0 _ T_1.heap _
    rw [e_1]
    exact ⟨rfl, N0, rfl⟩
theorem d_method_3_17 : decode method_3_code 17 = .ok (.iload_n 0, 1) := by decide +kernel
theorem d_method_3_18 : decode method_3_code 18 = .ok (.iconst 2, 1) := by decide +kernel
theorem d_method_3_19 : decode method_3_code 19 = .ok (.if_icmp .ne 7, 3) := by decide +kernel
theorem d_method_3_22 : decode method_3_code 22 = .ok (.getstatic 30, 3) := by decide +kernel
theorem d_method_3_25 : decode method_3_code 25 = .ok (.areturn, 1) := by decide +kernel
theorem ef_pick2 (mM : MethodId) (x0 : Int32) : entryFrame mM #[(.int x0)] 1 = mkF mM 0 #[.val (.int x0)] [] := by first | (simp [entryFrame, mkF, argsToLocals, Value.category]; done) | rfl
def Q_pick2 (Z : State) (r : Addr) (h0 : Heap) (n0 : Nat) (v_ : Option Value) (h_ : Heap) (L_ : List Loc) : Prop := v_ = some (.ref r) ∧ Fr n0 L_ ∧ h_ = h0
set_option maxRecDepth 65536 in
set_option maxHeartbeats 40000000 in
theorem rm_pick2 (l : Launch) (Z : State) (a0 : Array Value) (hw : ∀ d ∈ tables_1, d.before a0 Z = true) (ws : List Jvm.Cond) (r : Addr) (h0 : Heap) (n0 : Nat) (Z0 : n0 ≤ h0.size) (S_Objective_MAX_DELAY_FACTOR : Sta Z h0 "com/example/pagewave/pagewave/Objective" "MAX_DELAY_FACTOR" "Lcom/example/pagewave/pagewave/Objective;" (.ref r)) :
    MetFree l (⟨"com/example/pagewave/pagewave/ObjectiveHasLowerBoundPinLaw", "pick", "(I)Lcom/example/pagewave/pagewave/Objective;"⟩ : MethodName) (head1 (Jvm.Cond.code (⟨"com/example/pagewave/pagewave/ObjectiveHasLowerBoundPinLaw", "pick", "(I)Lcom/example/pagewave/pagewave/Objective;"⟩ : MethodName) method_3_code 1 (some (.object "com/example/pagewave/pagewave/Objective")) :: ws) ({ frames := 0, cells := 0, slots := 0, locals := 0 } : Room)) (fun aa_ U_ => aa_ = #[(.int (2 : Int32))] ∧ Z.Warmed39 U_.vm ∧ U_.heap = h0) (fun _ _ _ _ _ => True) (fun _ U_ o_ U'_ => ∃ v_ L_, o_ = .returned v_ ∧ Q_pick2 Z r h0 n0 v_ U'_.heap L_ ∧ FrameEnd U_ o_ U'_ L_ ({ frames := 0, cells := 0, slots := 0, locals := 0 } : Room).cells ({ frames := 0, cells := 0, slots := 0, locals := 0 } : Room).slots) := by
  refine MetFree.of_bodySF (plainFor_of_name pn_0) hisR ?_
  intro pP eE sS mM argsA below meth cC s₁ Bd hml0 hP hK
  obtain ⟨rfl, hZ, hh⟩ := hP
  have hx := Bd.exec
  have hby := Bd.bytes
  have hml : cC.maxLocals = 1 := hml0
  have hown : sS.vm.findClass "com/example/pagewave/pagewave/ObjectiveHasLowerBoundPinLaw" = some mM.cls := findClass_of_methodNamed Bd.named
  have hnm := (name_of_methodNamed Bd.named Bd.method).1
  have X0 : Stand pP l eE ({ frames := 0, cells := 0, slots := 0, locals := 0 } : Room) sS mM #[(.int (2 : Int32))] below meth cC s₁ [] 0 0 := Stand.of_body Bd
  have e0 : s₁.heap = h0 := by rw [← hh, Bd.state]; rfl
  have N0 := Fr.nil n0
  have pre0 : ∀ t, Steps pP.tables eE below (s₁.setTop (mkF mM 0 #[.val (.int (2 : Int32))] [])) t → Steps pP.tables eE below (s₁.setTop (entryFrame mM #[(.int (2 : Int32))] 1)) t := fun t k => castTop (ef_pick2 mM (2 : Int32)) k
  obtain ⟨T_1, X_1, e_1, st_1⟩ := getS2 X0 hx hZ hown (host := "") (Or.inl (hw _ (List.mem_of_getElem? (i := 30) rfl))) Via.refl e0 S_Objective_MAX_DELAY_FACTOR (g := (mkF mM 22 #[.val (.int (2 : Int32))] [])) rfl (hb hby d_method_3_22)
  obtain ⟨fs, hr, hrun, hended, hW, hsame⟩ := X_1.leave (v := some (.ref r)) (fun h => by rw [Bd.returns] at h; cases h)
  refine ⟨_, _, pre0 _ ?_, hrun, hended, _, _, rfl, ?_, ⟨_, rfl⟩, hW, hsame.mono (by decide) (by decide)⟩
  · show Steps pP.tables eE below (s₁.setTop (mkF mM 0 #[.val (.int (2 : Int32))] [])) _
    refine XS.iloadN X0.here hx rfl (hb hby d_method_3_0) rfl ?_
    show Steps pP.tables eE below (s₁.setTop (mkF mM 1 #[.val (.int (2 : Int32))] [(.int (2 : Int32))])) _
    refine XS.ifYes X0.here hx rfl (pc0 := 1) (pc' := 8) rfl (hb hby d_method_3_1) rfl (by decide) (by decide) (by decide) ?_
    show Steps pP.tables eE below (s₁.setTop (mkF mM 8 #[.val (.int (2 : Int32))] [])) _
    refine XS.iloadN X0.here hx rfl (hb hby d_method_3_8) rfl ?_
    show Steps pP.tables eE below (s₁.setTop (mkF mM 9 #[.val (.int (2 : Int32))] [(.int (2 : Int32))])) _
    refine XS.iconst X0.here hx rfl (hb hby d_method_3_9) ?_
    show Steps pP.tables eE below (s₁.setTop (mkF mM 10 #[.val (.int (2 : Int32))] [(.int (1 : Int32)), (.int (2 : Int32))])) _
    refine XS.icmpYes X0.here hx rfl (pc0 := 10) (pc' := 17) rfl (hb hby d_method_3_10) rfl (by decide) (by decide) (by decide) ?_
    show Steps pP.tables eE below (s₁.setTop (mkF mM 17 #[.val (.int (2 : Int32))] [])) _
    refine XS.iloadN X0.here hx rfl (hb hby d_method_3_17) rfl ?_
    show Steps pP.tables eE below (s₁.setTop (mkF mM 18 #[.val (.int (2 : Int32))] [(.int (2 : Int32))])) _
    refine XS.iconst X0.here hx rfl (hb hby d_method_3_18) ?_
    show Steps pP.tables eE below (s₁.setTop (mkF mM 19 #[.val (.int (2 : Int32))] [(.int (2 : Int32)), (.int (2 : Int32))])) _
    refine XS.icmpNo X0.here hx rfl (hb hby d_method_3_19) rfl (by decide) ?_
    show Steps pP.tables eE below (s₁.setTop (mkF mM 22 #[.val (.int (2 : Int32))] [])) _
    refine st_1 _ ?_
    show Steps pP.tables eE below (T_1.setTop (mkF mM 25 #[.val (.int (2 : Int32))] [(.ref r)])) _
    exact retOut X_1 hx Bd.returns rfl (Or.inr (Or.inr (Or.inr (Or.inr ⟨rfl, rfl, rfl⟩)))) (hb hby d_method_3_25) hr
  · show Q_pick2 Z r h0 n0 _ T_1.heap _
    rw [e_1]
    exact ⟨rfl, N0, rfl⟩
theorem d_method_3_26 : decode method_3_code 26 = .ok (.iload_n 0, 1) := by decide +kernel
theorem d_method_3_27 : decode method_3_code 27 = .ok (.iconst 3, 1) := by decide +kernel
theorem d_method_3_28 : decode method_3_code 28 = .ok (.if_icmp .ne 7, 3) := by decide +kernel
theorem d_method_3_31 : decode method_3_code 31 = .ok (.getstatic 33, 3) := by decide +kernel
theorem d_method_3_34 : decode method_3_code 34 = .ok (.areturn, 1) := by decide +kernel
theorem ef_pick3 (mM : MethodId) (x0 : Int32) : entryFrame mM #[(.int x0)] 1 = mkF mM 0 #[.val (.int x0)] [] := by first | (simp [entryFrame, mkF, argsToLocals, Value.category]; done) | rfl
def Q_pick3 (Z : State) (r : Addr) (h0 : Heap) (n0 : Nat) (v_ : Option Value) (h_ : Heap) (L_ : List Loc) : Prop := v_ = some (.ref r) ∧ Fr n0 L_ ∧ h_ = h0
set_option maxRecDepth 65536 in
set_option maxHeartbeats 40000000 in
theorem rm_pick3 (l : Launch) (Z : State) (a0 : Array Value) (hw : ∀ d ∈ tables_1, d.before a0 Z = true) (ws : List Jvm.Cond) (r : Addr) (h0 : Heap) (n0 : Nat) (Z0 : n0 ≤ h0.size) (S_Objective_MAX_WEIGHTED_RESPONSE : Sta Z h0 "com/example/pagewave/pagewave/Objective" "MAX_WEIGHTED_RESPONSE" "Lcom/example/pagewave/pagewave/Objective;" (.ref r)) :
    MetFree l (⟨"com/example/pagewave/pagewave/ObjectiveHasLowerBoundPinLaw", "pick", "(I)Lcom/example/pagewave/pagewave/Objective;"⟩ : MethodName) (head1 (Jvm.Cond.code (⟨"com/example/pagewave/pagewave/ObjectiveHasLowerBoundPinLaw", "pick", "(I)Lcom/example/pagewave/pagewave/Objective;"⟩ : MethodName) method_3_code 1 (some (.object "com/example/pagewave/pagewave/Objective")) :: ws) ({ frames := 0, cells := 0, slots := 0, locals := 0 } : Room)) (fun aa_ U_ => aa_ = #[(.int (3 : Int32))] ∧ Z.Warmed39 U_.vm ∧ U_.heap = h0) (fun _ _ _ _ _ => True) (fun _ U_ o_ U'_ => ∃ v_ L_, o_ = .returned v_ ∧ Q_pick3 Z r h0 n0 v_ U'_.heap L_ ∧ FrameEnd U_ o_ U'_ L_ ({ frames := 0, cells := 0, slots := 0, locals := 0 } : Room).cells ({ frames := 0, cells := 0, slots := 0, locals := 0 } : Room).slots) := by
  refine MetFree.of_bodySF (plainFor_of_name pn_0) hisR ?_
  intro pP eE sS mM argsA below meth cC s₁ Bd hml0 hP hK
  obtain ⟨rfl, hZ, hh⟩ := hP
  have hx := Bd.exec
  have hby := Bd.bytes
  have hml : cC.maxLocals = 1 := hml0
  have hown : sS.vm.findClass "com/example/pagewave/pagewave/ObjectiveHasLowerBoundPinLaw" = some mM.cls := findClass_of_methodNamed Bd.named
  have hnm := (name_of_methodNamed Bd.named Bd.method).1
  have X0 : Stand pP l eE ({ frames := 0, cells := 0, slots := 0, locals := 0 } : Room) sS mM #[(.int (3 : Int32))] below meth cC s₁ [] 0 0 := Stand.of_body Bd
  have e0 : s₁.heap = h0 := by rw [← hh, Bd.state]; rfl
  have N0 := Fr.nil n0
  have pre0 : ∀ t, Steps pP.tables eE below (s₁.setTop (mkF mM 0 #[.val (.int (3 : Int32))] [])) t → Steps pP.tables eE below (s₁.setTop (entryFrame mM #[(.int (3 : Int32))] 1)) t := fun t k => castTop (ef_pick3 mM (3 : Int32)) k
  obtain ⟨T_1, X_1, e_1, st_1⟩ := getS2 X0 hx hZ hown (host := "") (Or.inl (hw _ (List.mem_of_getElem? (i := 22) rfl))) Via.refl e0 S_Objective_MAX_WEIGHTED_RESPONSE (g := (mkF mM 31 #[.val (.int (3 : Int32))] [])) rfl (hb hby d_method_3_31)
  obtain ⟨fs, hr, hrun, hended, hW, hsame⟩ := X_1.leave (v := some (.ref r)) (fun h => by rw [Bd.returns] at h; cases h)
  refine ⟨_, _, pre0 _ ?_, hrun, hended, _, _, rfl, ?_, ⟨_, rfl⟩, hW, hsame.mono (by decide) (by decide)⟩
  · show Steps pP.tables eE below (s₁.setTop (mkF mM 0 #[.val (.int (3 : Int32))] [])) _
    refine XS.iloadN X0.here hx rfl (hb hby d_method_3_0) rfl ?_
    show Steps pP.tables eE below (s₁.setTop (mkF mM 1 #[.val (.int (3 : Int32))] [(.int (3 : Int32))])) _
    refine XS.ifYes X0.here hx rfl (pc0 := 1) (pc' := 8) rfl (hb hby d_method_3_1) rfl (by decide) (by decide) (by decide) ?_
    show Steps pP.tables eE below (s₁.setTop (mkF mM 8 #[.val (.int (3 : Int32))] [])) _
    refine XS.iloadN X0.here hx rfl (hb hby d_method_3_8) rfl ?_
    show Steps pP.tables eE below (s₁.setTop (mkF mM 9 #[.val (.int (3 : Int32))] [(.int (3 : Int32))])) _
    refine XS.iconst X0.here hx rfl (hb hby d_method_3_9) ?_
    show Steps pP.tables eE below (s₁.setTop (mkF mM 10 #[.val (.int (3 : Int32))] [(.int (1 : Int32)), (.int (3 : Int32))])) _
    refine XS.icmpYes X0.here hx rfl (pc0 := 10) (pc' := 17) rfl (hb hby d_method_3_10) rfl (by decide) (by decide) (by decide) ?_
    show Steps pP.tables eE below (s₁.setTop (mkF mM 17 #[.val (.int (3 : Int32))] [])) _
    refine XS.iloadN X0.here hx rfl (hb hby d_method_3_17) rfl ?_
    show Steps pP.tables eE below (s₁.setTop (mkF mM 18 #[.val (.int (3 : Int32))] [(.int (3 : Int32))])) _
    refine XS.iconst X0.here hx rfl (hb hby d_method_3_18) ?_
    show Steps pP.tables eE below (s₁.setTop (mkF mM 19 #[.val (.int (3 : Int32))] [(.int (2 : Int32)), (.int (3 : Int32))])) _
    refine XS.icmpYes X0.here hx rfl (pc0 := 19) (pc' := 26) rfl (hb hby d_method_3_19) rfl (by decide) (by decide) (by decide) ?_
    show Steps pP.tables eE below (s₁.setTop (mkF mM 26 #[.val (.int (3 : Int32))] [])) _
    refine XS.iloadN X0.here hx rfl (hb hby d_method_3_26) rfl ?_
    show Steps pP.tables eE below (s₁.setTop (mkF mM 27 #[.val (.int (3 : Int32))] [(.int (3 : Int32))])) _
    refine XS.iconst X0.here hx rfl (hb hby d_method_3_27) ?_
    show Steps pP.tables eE below (s₁.setTop (mkF mM 28 #[.val (.int (3 : Int32))] [(.int (3 : Int32)), (.int (3 : Int32))])) _
    refine XS.icmpNo X0.here hx rfl (hb hby d_method_3_28) rfl (by decide) ?_
    show Steps pP.tables eE below (s₁.setTop (mkF mM 31 #[.val (.int (3 : Int32))] [])) _
    refine st_1 _ ?_
    show Steps pP.tables eE below (T_1.setTop (mkF mM 34 #[.val (.int (3 : Int32))] [(.ref r)])) _
    exact retOut X_1 hx Bd.returns rfl (Or.inr (Or.inr (Or.inr (Or.inr ⟨rfl, rfl, rfl⟩)))) (hb hby d_method_3_34) hr
  · show Q_pick3 Z r h0 n0 _ T_1.heap _
    rw [e_1]
    exact ⟨rfl, N0, rfl⟩
theorem d_method_3_35 : decode method_3_code 35 = .ok (.getstatic 36, 3) := by decide +kernel
theorem d_method_3_38 : decode method_3_code 38 = .ok (.areturn, 1) := by decide +kernel
theorem ef_pick4 (mM : MethodId) (x0 : Int32) : entryFrame mM #[(.int x0)] 1 = mkF mM 0 #[.val (.int x0)] [] := by first | (simp [entryFrame, mkF, argsToLocals, Value.category]; done) | rfl
def Q_pick4 (Z : State) (r : Addr) (h0 : Heap) (n0 : Nat) (v_ : Option Value) (h_ : Heap) (L_ : List Loc) : Prop := v_ = some (.ref r) ∧ Fr n0 L_ ∧ h_ = h0
set_option maxRecDepth 65536 in
set_option maxHeartbeats 40000000 in
theorem rm_pick4 (l : Launch) (Z : State) (a0 : Array Value) (hw : ∀ d ∈ tables_1, d.before a0 Z = true) (ws : List Jvm.Cond) (r : Addr) (h0 : Heap) (n0 : Nat) (Z0 : n0 ≤ h0.size) (S_Objective_MAX_WEIGHTED_DELAY_FACTOR : Sta Z h0 "com/example/pagewave/pagewave/Objective" "MAX_WEIGHTED_DELAY_FACTOR" "Lcom/example/pagewave/pagewave/Objective;" (.ref r)) :
    MetFree l (⟨"com/example/pagewave/pagewave/ObjectiveHasLowerBoundPinLaw", "pick", "(I)Lcom/example/pagewave/pagewave/Objective;"⟩ : MethodName) (head1 (Jvm.Cond.code (⟨"com/example/pagewave/pagewave/ObjectiveHasLowerBoundPinLaw", "pick", "(I)Lcom/example/pagewave/pagewave/Objective;"⟩ : MethodName) method_3_code 1 (some (.object "com/example/pagewave/pagewave/Objective")) :: ws) ({ frames := 0, cells := 0, slots := 0, locals := 0 } : Room)) (fun aa_ U_ => aa_ = #[(.int (4 : Int32))] ∧ Z.Warmed39 U_.vm ∧ U_.heap = h0) (fun _ _ _ _ _ => True) (fun _ U_ o_ U'_ => ∃ v_ L_, o_ = .returned v_ ∧ Q_pick4 Z r h0 n0 v_ U'_.heap L_ ∧ FrameEnd U_ o_ U'_ L_ ({ frames := 0, cells := 0, slots := 0, locals := 0 } : Room).cells ({ frames := 0, cells := 0, slots := 0, locals := 0 } : Room).slots) := by
  refine MetFree.of_bodySF (plainFor_of_name pn_0) hisR ?_
  intro pP eE sS mM argsA below meth cC s₁ Bd hml0 hP hK
  obtain ⟨rfl, hZ, hh⟩ := hP
  have hx := Bd.exec
  have hby := Bd.bytes
  have hml : cC.maxLocals = 1 := hml0
  have hown : sS.vm.findClass "com/example/pagewave/pagewave/ObjectiveHasLowerBoundPinLaw" = some mM.cls := findClass_of_methodNamed Bd.named
  have hnm := (name_of_methodNamed Bd.named Bd.method).1
  have X0 : Stand pP l eE ({ frames := 0, cells := 0, slots := 0, locals := 0 } : Room) sS mM #[(.int (4 : Int32))] below meth cC s₁ [] 0 0 := Stand.of_body Bd
  have e0 : s₁.heap = h0 := by rw [← hh, Bd.state]; rfl
  have N0 := Fr.nil n0
  have pre0 : ∀ t, Steps pP.tables eE below (s₁.setTop (mkF mM 0 #[.val (.int (4 : Int32))] [])) t → Steps pP.tables eE below (s₁.setTop (entryFrame mM #[(.int (4 : Int32))] 1)) t := fun t k => castTop (ef_pick4 mM (4 : Int32)) k
  obtain ⟨T_1, X_1, e_1, st_1⟩ := getS2 X0 hx hZ hown (host := "") (Or.inl (hw _ (List.mem_of_getElem? (i := 27) rfl))) Via.refl e0 S_Objective_MAX_WEIGHTED_DELAY_FACTOR (g := (mkF mM 35 #[.val (.int (4 : Int32))] [])) rfl (hb hby d_method_3_35)
  obtain ⟨fs, hr, hrun, hended, hW, hsame⟩ := X_1.leave (v := some (.ref r)) (fun h => by rw [Bd.returns] at h; cases h)
  refine ⟨_, _, pre0 _ ?_, hrun, hended, _, _, rfl, ?_, ⟨_, rfl⟩, hW, hsame.mono (by decide) (by decide)⟩
  · show Steps pP.tables eE below (s₁.setTop (mkF mM 0 #[.val (.int (4 : Int32))] [])) _
    refine XS.iloadN X0.here hx rfl (hb hby d_method_3_0) rfl ?_
    show Steps pP.tables eE below (s₁.setTop (mkF mM 1 #[.val (.int (4 : Int32))] [(.int (4 : Int32))])) _
    refine XS.ifYes X0.here hx rfl (pc0 := 1) (pc' := 8) rfl (hb hby d_method_3_1) rfl (by decide) (by decide) (by decide) ?_
    show Steps pP.tables eE below (s₁.setTop (mkF mM 8 #[.val (.int (4 : Int32))] [])) _
    refine XS.iloadN X0.here hx rfl (hb hby d_method_3_8) rfl ?_
    show Steps pP.tables eE below (s₁.setTop (mkF mM 9 #[.val (.int (4 : Int32))] [(.int (4 : Int32))])) _
    refine XS.iconst X0.here hx rfl (hb hby d_method_3_9) ?_
    show Steps pP.tables eE below (s₁.setTop (mkF mM 10 #[.val (.int (4 : Int32))] [(.int (1 : Int32)), (.int (4 : Int32))])) _
    refine XS.icmpYes X0.here hx rfl (pc0 := 10) (pc' := 17) rfl (hb hby d_method_3_10) rfl (by decide) (by decide) (by decide) ?_
    show Steps pP.tables eE below (s₁.setTop (mkF mM 17 #[.val (.int (4 : Int32))] [])) _
    refine XS.iloadN X0.here hx rfl (hb hby d_method_3_17) rfl ?_
    show Steps pP.tables eE below (s₁.setTop (mkF mM 18 #[.val (.int (4 : Int32))] [(.int (4 : Int32))])) _
    refine XS.iconst X0.here hx rfl (hb hby d_method_3_18) ?_
    show Steps pP.tables eE below (s₁.setTop (mkF mM 19 #[.val (.int (4 : Int32))] [(.int (2 : Int32)), (.int (4 : Int32))])) _
    refine XS.icmpYes X0.here hx rfl (pc0 := 19) (pc' := 26) rfl (hb hby d_method_3_19) rfl (by decide) (by decide) (by decide) ?_
    show Steps pP.tables eE below (s₁.setTop (mkF mM 26 #[.val (.int (4 : Int32))] [])) _
    refine XS.iloadN X0.here hx rfl (hb hby d_method_3_26) rfl ?_
    show Steps pP.tables eE below (s₁.setTop (mkF mM 27 #[.val (.int (4 : Int32))] [(.int (4 : Int32))])) _
    refine XS.iconst X0.here hx rfl (hb hby d_method_3_27) ?_
    show Steps pP.tables eE below (s₁.setTop (mkF mM 28 #[.val (.int (4 : Int32))] [(.int (3 : Int32)), (.int (4 : Int32))])) _
    refine XS.icmpYes X0.here hx rfl (pc0 := 28) (pc' := 35) rfl (hb hby d_method_3_28) rfl (by decide) (by decide) (by decide) ?_
    show Steps pP.tables eE below (s₁.setTop (mkF mM 35 #[.val (.int (4 : Int32))] [])) _
    refine st_1 _ ?_
    show Steps pP.tables eE below (T_1.setTop (mkF mM 38 #[.val (.int (4 : Int32))] [(.ref r)])) _
    exact retOut X_1 hx Bd.returns rfl (Or.inr (Or.inr (Or.inr (Or.inr ⟨rfl, rfl, rfl⟩)))) (hb hby d_method_3_38) hr
  · show Q_pick4 Z r h0 n0 _ T_1.heap _
    rw [e_1]
    exact ⟨rfl, N0, rfl⟩
theorem d_prog_37m6_0 : decode prog_37_method_6_code 0 = .ok (.aload_n 0, 1) := by decide +kernel
theorem d_prog_37m6_1 : decode prog_37_method_6_code 1 = .ok (.getfield 42, 3) := by decide +kernel
theorem d_prog_37m6_4 : decode prog_37_method_6_code 4 = .ok (.ifnonnull 7, 3) := by decide +kernel
theorem d_prog_37m6_7 : decode prog_37_method_6_code 7 = .ok (.iconst 1, 1) := by decide +kernel
theorem d_prog_37m6_8 : decode prog_37_method_6_code 8 = .ok (.goto 4, 3) := by decide +kernel
theorem d_prog_37m6_12 : decode prog_37_method_6_code 12 = .ok (.ireturn, 1) := by decide +kernel
theorem pn_1 : plainName "com/example/pagewave/pagewave/Objective" = true := by first | (simp [plainName, overriddenIn]; done) | decide +kernel
theorem ef_hasLowerBoundn (mM : MethodId) (x0 : Addr) : entryFrame mM #[(.ref x0)] 1 = mkF mM 0 #[.val (.ref x0)] [] := by first | (simp [entryFrame, mkF, argsToLocals, Value.category]; done) | rfl
def Q_hasLowerBoundn (Z : State) (a : Addr) (h0 : Heap) (n0 : Nat) (v_ : Option Value) (h_ : Heap) (L_ : List Loc) : Prop := v_ = some (.int (1 : Int32)) ∧ Fr n0 L_ ∧ h_ = h0
set_option maxRecDepth 65536 in
set_option maxHeartbeats 40000000 in
theorem rm_hasLowerBoundn (l : Launch) (Z : State) (a0 : Array Value) (hw : ∀ d ∈ tables_1, d.before a0 Z = true) (ws : List Jvm.Cond) (a : Addr) (h0 : Heap) (n0 : Nat) (Z0 : n0 ≤ h0.size) (F_bottleneck_a : Fld Z h0 a "com/example/pagewave/pagewave/Objective" "bottleneck" "Lcom/example/pagewave/pagewave/Bottleneck;" .null) :
    MetFree l (⟨"com/example/pagewave/pagewave/Objective", "hasLowerBound", "()Z"⟩ : MethodName) (head1 (Jvm.Cond.code (⟨"com/example/pagewave/pagewave/Objective", "hasLowerBound", "()Z"⟩ : MethodName) prog_37_method_6_code 1 (some .boolean) :: ws) ({ frames := 0, cells := 0, slots := 0, locals := 0 } : Room)) (fun aa_ U_ => aa_ = #[(.ref a)] ∧ Z.Warmed39 U_.vm ∧ U_.heap = h0) (fun _ _ _ _ _ => True) (fun _ U_ o_ U'_ => ∃ v_ L_, o_ = .returned v_ ∧ Q_hasLowerBoundn Z a h0 n0 v_ U'_.heap L_ ∧ FrameEnd U_ o_ U'_ L_ ({ frames := 0, cells := 0, slots := 0, locals := 0 } : Room).cells ({ frames := 0, cells := 0, slots := 0, locals := 0 } : Room).slots) := by
  refine MetFree.of_bodySF (plainFor_of_name pn_1) hisR ?_
  intro pP eE sS mM argsA below meth cC s₁ Bd hml0 hP hK
  obtain ⟨rfl, hZ, hh⟩ := hP
  have hx := Bd.exec
  have hby := Bd.bytes
  have hml : cC.maxLocals = 1 := hml0
  have hown : sS.vm.findClass "com/example/pagewave/pagewave/Objective" = some mM.cls := findClass_of_methodNamed Bd.named
  have hnm := (name_of_methodNamed Bd.named Bd.method).1
  have X0 : Stand pP l eE ({ frames := 0, cells := 0, slots := 0, locals := 0 } : Room) sS mM #[(.ref a)] below meth cC s₁ [] 0 0 := Stand.of_body Bd
  have e0 : s₁.heap = h0 := by rw [← hh, Bd.state]; rfl
  have N0 := Fr.nil n0
  have pre0 : ∀ t, Steps pP.tables eE below (s₁.setTop (mkF mM 0 #[.val (.ref a)] [])) t → Steps pP.tables eE below (s₁.setTop (entryFrame mM #[(.ref a)] 1)) t := fun t k => castTop (ef_hasLowerBoundn mM a) k
  obtain ⟨T_1, X_1, e_1, st_1⟩ := getF X0 hx hZ hown (host := "") (Or.inl (hw _ (List.mem_of_getElem? (i := 13) rfl))) Via.refl e0 F_bottleneck_a (g := (mkF mM 1 #[.val (.ref a)] [(.ref a)])) rfl rfl (hb hby d_prog_37m6_1)
  obtain ⟨fs, hr, hrun, hended, hW, hsame⟩ := X_1.leave (v := some (.int (1 : Int32))) (fun h => by rw [Bd.returns] at h; cases h)
  refine ⟨_, _, pre0 _ ?_, hrun, hended, _, _, rfl, ?_, ⟨_, rfl⟩, hW, hsame.mono (by decide) (by decide)⟩
  · show Steps pP.tables eE below (s₁.setTop (mkF mM 0 #[.val (.ref a)] [])) _
    refine XS.aloadN X0.here hx rfl (hb hby d_prog_37m6_0) rfl rfl ?_
    show Steps pP.tables eE below (s₁.setTop (mkF mM 1 #[.val (.ref a)] [(.ref a)])) _
    refine st_1 _ ?_
    show Steps pP.tables eE below (T_1.setTop (mkF mM 4 #[.val (.ref a)] [.null])) _
    refine XT.ifnonnullNo X_1.here hx rfl (hb hby d_prog_37m6_4) rfl ?_
    show Steps pP.tables eE below (T_1.setTop (mkF mM 7 #[.val (.ref a)] [])) _
    refine XS.iconst X_1.here hx rfl (hb hby d_prog_37m6_7) ?_
    show Steps pP.tables eE below (T_1.setTop (mkF mM 8 #[.val (.ref a)] [(.int (1 : Int32))])) _
    refine XS.goto X_1.here hx rfl (pc0 := 8) (pc' := 12) rfl (hb hby d_prog_37m6_8) (by decide) (by decide) ?_
    show Steps pP.tables eE below (T_1.setTop (mkF mM 12 #[.val (.ref a)] [(.int (1 : Int32))])) _
    exact retN X_1 hx (t := .boolean) Bd.returns (by simp) (hb hby d_prog_37m6_12) hr
  · show Q_hasLowerBoundn Z a h0 n0 _ T_1.heap _
    rw [e_1]
    exact ⟨rfl, N0, rfl⟩
theorem d_prog_37m6_11 : decode prog_37_method_6_code 11 = .ok (.iconst 0, 1) := by decide +kernel
theorem ef_hasLowerBoundr (mM : MethodId) (x0 : Addr) : entryFrame mM #[(.ref x0)] 1 = mkF mM 0 #[.val (.ref x0)] [] := by first | (simp [entryFrame, mkF, argsToLocals, Value.category]; done) | rfl
def Q_hasLowerBoundr (Z : State) (a : Addr) (w : Addr) (h0 : Heap) (n0 : Nat) (v_ : Option Value) (h_ : Heap) (L_ : List Loc) : Prop := v_ = some (.int (0 : Int32)) ∧ Fr n0 L_ ∧ h_ = h0
set_option maxRecDepth 65536 in
set_option maxHeartbeats 40000000 in
theorem rm_hasLowerBoundr (l : Launch) (Z : State) (a0 : Array Value) (hw : ∀ d ∈ tables_1, d.before a0 Z = true) (ws : List Jvm.Cond) (a : Addr) (w : Addr) (h0 : Heap) (n0 : Nat) (Z0 : n0 ≤ h0.size) (F_bottleneck_a : Fld Z h0 a "com/example/pagewave/pagewave/Objective" "bottleneck" "Lcom/example/pagewave/pagewave/Bottleneck;" (.ref w)) :
    MetFree l (⟨"com/example/pagewave/pagewave/Objective", "hasLowerBound", "()Z"⟩ : MethodName) (head1 (Jvm.Cond.code (⟨"com/example/pagewave/pagewave/Objective", "hasLowerBound", "()Z"⟩ : MethodName) prog_37_method_6_code 1 (some .boolean) :: ws) ({ frames := 0, cells := 0, slots := 0, locals := 0 } : Room)) (fun aa_ U_ => aa_ = #[(.ref a)] ∧ Z.Warmed39 U_.vm ∧ U_.heap = h0) (fun _ _ _ _ _ => True) (fun _ U_ o_ U'_ => ∃ v_ L_, o_ = .returned v_ ∧ Q_hasLowerBoundr Z a w h0 n0 v_ U'_.heap L_ ∧ FrameEnd U_ o_ U'_ L_ ({ frames := 0, cells := 0, slots := 0, locals := 0 } : Room).cells ({ frames := 0, cells := 0, slots := 0, locals := 0 } : Room).slots) := by
  refine MetFree.of_bodySF (plainFor_of_name pn_1) hisR ?_
  intro pP eE sS mM argsA below meth cC s₁ Bd hml0 hP hK
  obtain ⟨rfl, hZ, hh⟩ := hP
  have hx := Bd.exec
  have hby := Bd.bytes
  have hml : cC.maxLocals = 1 := hml0
  have hown : sS.vm.findClass "com/example/pagewave/pagewave/Objective" = some mM.cls := findClass_of_methodNamed Bd.named
  have hnm := (name_of_methodNamed Bd.named Bd.method).1
  have X0 : Stand pP l eE ({ frames := 0, cells := 0, slots := 0, locals := 0 } : Room) sS mM #[(.ref a)] below meth cC s₁ [] 0 0 := Stand.of_body Bd
  have e0 : s₁.heap = h0 := by rw [← hh, Bd.state]; rfl
  have N0 := Fr.nil n0
  have pre0 : ∀ t, Steps pP.tables eE below (s₁.setTop (mkF mM 0 #[.val (.ref a)] [])) t → Steps pP.tables eE below (s₁.setTop (entryFrame mM #[(.ref a)] 1)) t := fun t k => castTop (ef_hasLowerBoundr mM a) k
  obtain ⟨T_1, X_1, e_1, st_1⟩ := getF X0 hx hZ hown (host := "") (Or.inl (hw _ (List.mem_of_getElem? (i := 13) rfl))) Via.refl e0 F_bottleneck_a (g := (mkF mM 1 #[.val (.ref a)] [(.ref a)])) rfl rfl (hb hby d_prog_37m6_1)
  obtain ⟨fs, hr, hrun, hended, hW, hsame⟩ := X_1.leave (v := some (.int (0 : Int32))) (fun h => by rw [Bd.returns] at h; cases h)
  refine ⟨_, _, pre0 _ ?_, hrun, hended, _, _, rfl, ?_, ⟨_, rfl⟩, hW, hsame.mono (by decide) (by decide)⟩
  · show Steps pP.tables eE below (s₁.setTop (mkF mM 0 #[.val (.ref a)] [])) _
    refine XS.aloadN X0.here hx rfl (hb hby d_prog_37m6_0) rfl rfl ?_
    show Steps pP.tables eE below (s₁.setTop (mkF mM 1 #[.val (.ref a)] [(.ref a)])) _
    refine st_1 _ ?_
    show Steps pP.tables eE below (T_1.setTop (mkF mM 4 #[.val (.ref a)] [(.ref w)])) _
    refine XT.ifnonnullYes X_1.here hx rfl (pc0 := 4) (pc' := 11) rfl (hb hby d_prog_37m6_4) rfl (by decide) (by decide) ?_
    show Steps pP.tables eE below (T_1.setTop (mkF mM 11 #[.val (.ref a)] [])) _
    refine XS.iconst X_1.here hx rfl (hb hby d_prog_37m6_11) ?_
    show Steps pP.tables eE below (T_1.setTop (mkF mM 12 #[.val (.ref a)] [(.int (0 : Int32))])) _
    exact retN X_1 hx (t := .boolean) Bd.returns (by simp) (hb hby d_prog_37m6_12) hr
  · show Q_hasLowerBoundr Z a w h0 n0 _ T_1.heap _
    rw [e_1]
    exact ⟨rfl, N0, rfl⟩
theorem d_prog_37m8_0 : decode prog_37_method_8_code 0 = .ok (.aload_n 0, 1) := by decide +kernel
theorem d_prog_37m8_1 : decode prog_37_method_8_code 1 = .ok (.getfield 42, 3) := by decide +kernel
theorem d_prog_37m8_4 : decode prog_37_method_8_code 4 = .ok (.ifnonnull 7, 3) := by decide +kernel
theorem d_prog_37m8_7 : decode prog_37_method_8_code 7 = .ok (.iconst 1, 1) := by decide +kernel
theorem d_prog_37m8_8 : decode prog_37_method_8_code 8 = .ok (.goto 4, 3) := by decide +kernel
theorem d_prog_37m8_12 : decode prog_37_method_8_code 12 = .ok (.ireturn, 1) := by decide +kernel
theorem ef_hasModeln (mM : MethodId) (x0 : Addr) : entryFrame mM #[(.ref x0)] 1 = mkF mM 0 #[.val (.ref x0)] [] := by first | (simp [entryFrame, mkF, argsToLocals, Value.category]; done) | rfl
def Q_hasModeln (Z : State) (a : Addr) (h0 : Heap) (n0 : Nat) (v_ : Option Value) (h_ : Heap) (L_ : List Loc) : Prop := v_ = some (.int (1 : Int32)) ∧ Fr n0 L_ ∧ h_ = h0
set_option maxRecDepth 65536 in
set_option maxHeartbeats 40000000 in
theorem rm_hasModeln (l : Launch) (Z : State) (a0 : Array Value) (hw : ∀ d ∈ tables_1, d.before a0 Z = true) (ws : List Jvm.Cond) (a : Addr) (h0 : Heap) (n0 : Nat) (Z0 : n0 ≤ h0.size) (F_bottleneck_a : Fld Z h0 a "com/example/pagewave/pagewave/Objective" "bottleneck" "Lcom/example/pagewave/pagewave/Bottleneck;" .null) :
    MetFree l (⟨"com/example/pagewave/pagewave/Objective", "hasModel", "()Z"⟩ : MethodName) (head1 (Jvm.Cond.code (⟨"com/example/pagewave/pagewave/Objective", "hasModel", "()Z"⟩ : MethodName) prog_37_method_8_code 1 (some .boolean) :: ws) ({ frames := 0, cells := 0, slots := 0, locals := 0 } : Room)) (fun aa_ U_ => aa_ = #[(.ref a)] ∧ Z.Warmed39 U_.vm ∧ U_.heap = h0) (fun _ _ _ _ _ => True) (fun _ U_ o_ U'_ => ∃ v_ L_, o_ = .returned v_ ∧ Q_hasModeln Z a h0 n0 v_ U'_.heap L_ ∧ FrameEnd U_ o_ U'_ L_ ({ frames := 0, cells := 0, slots := 0, locals := 0 } : Room).cells ({ frames := 0, cells := 0, slots := 0, locals := 0 } : Room).slots) := by
  refine MetFree.of_bodySF (plainFor_of_name pn_1) hisR ?_
  intro pP eE sS mM argsA below meth cC s₁ Bd hml0 hP hK
  obtain ⟨rfl, hZ, hh⟩ := hP
  have hx := Bd.exec
  have hby := Bd.bytes
  have hml : cC.maxLocals = 1 := hml0
  have hown : sS.vm.findClass "com/example/pagewave/pagewave/Objective" = some mM.cls := findClass_of_methodNamed Bd.named
  have hnm := (name_of_methodNamed Bd.named Bd.method).1
  have X0 : Stand pP l eE ({ frames := 0, cells := 0, slots := 0, locals := 0 } : Room) sS mM #[(.ref a)] below meth cC s₁ [] 0 0 := Stand.of_body Bd
  have e0 : s₁.heap = h0 := by rw [← hh, Bd.state]; rfl
  have N0 := Fr.nil n0
  have pre0 : ∀ t, Steps pP.tables eE below (s₁.setTop (mkF mM 0 #[.val (.ref a)] [])) t → Steps pP.tables eE below (s₁.setTop (entryFrame mM #[(.ref a)] 1)) t := fun t k => castTop (ef_hasModeln mM a) k
  obtain ⟨T_1, X_1, e_1, st_1⟩ := getF X0 hx hZ hown (host := "") (Or.inl (hw _ (List.mem_of_getElem? (i := 13) rfl))) Via.refl e0 F_bottleneck_a (g := (mkF mM 1 #[.val (.ref a)] [(.ref a)])) rfl rfl (hb hby d_prog_37m8_1)
  obtain ⟨fs, hr, hrun, hended, hW, hsame⟩ := X_1.leave (v := some (.int (1 : Int32))) (fun h => by rw [Bd.returns] at h; cases h)
  refine ⟨_, _, pre0 _ ?_, hrun, hended, _, _, rfl, ?_, ⟨_, rfl⟩, hW, hsame.mono (by decide) (by decide)⟩
  · show Steps pP.tables eE below (s₁.setTop (mkF mM 0 #[.val (.ref a)] [])) _
    refine XS.aloadN X0.here hx rfl (hb hby d_prog_37m8_0) rfl rfl ?_
    show Steps pP.tables eE below (s₁.setTop (mkF mM 1 #[.val (.ref a)] [(.ref a)])) _
    refine st_1 _ ?_
    show Steps pP.tables eE below (T_1.setTop (mkF mM 4 #[.val (.ref a)] [.null])) _
    refine XT.ifnonnullNo X_1.here hx rfl (hb hby d_prog_37m8_4) rfl ?_
    show Steps pP.tables eE below (T_1.setTop (mkF mM 7 #[.val (.ref a)] [])) _
    refine XS.iconst X_1.here hx rfl (hb hby d_prog_37m8_7) ?_
    show Steps pP.tables eE below (T_1.setTop (mkF mM 8 #[.val (.ref a)] [(.int (1 : Int32))])) _
    refine XS.goto X_1.here hx rfl (pc0 := 8) (pc' := 12) rfl (hb hby d_prog_37m8_8) (by decide) (by decide) ?_
    show Steps pP.tables eE below (T_1.setTop (mkF mM 12 #[.val (.ref a)] [(.int (1 : Int32))])) _
    exact retN X_1 hx (t := .boolean) Bd.returns (by simp) (hb hby d_prog_37m8_12) hr
  · show Q_hasModeln Z a h0 n0 _ T_1.heap _
    rw [e_1]
    exact ⟨rfl, N0, rfl⟩
theorem d_prog_37m8_11 : decode prog_37_method_8_code 11 = .ok (.iconst 0, 1) := by decide +kernel
theorem ef_hasModelr (mM : MethodId) (x0 : Addr) : entryFrame mM #[(.ref x0)] 1 = mkF mM 0 #[.val (.ref x0)] [] := by first | (simp [entryFrame, mkF, argsToLocals, Value.category]; done) | rfl
def Q_hasModelr (Z : State) (a : Addr) (w : Addr) (h0 : Heap) (n0 : Nat) (v_ : Option Value) (h_ : Heap) (L_ : List Loc) : Prop := v_ = some (.int (0 : Int32)) ∧ Fr n0 L_ ∧ h_ = h0
set_option maxRecDepth 65536 in
set_option maxHeartbeats 40000000 in
theorem rm_hasModelr (l : Launch) (Z : State) (a0 : Array Value) (hw : ∀ d ∈ tables_1, d.before a0 Z = true) (ws : List Jvm.Cond) (a : Addr) (w : Addr) (h0 : Heap) (n0 : Nat) (Z0 : n0 ≤ h0.size) (F_bottleneck_a : Fld Z h0 a "com/example/pagewave/pagewave/Objective" "bottleneck" "Lcom/example/pagewave/pagewave/Bottleneck;" (.ref w)) :
    MetFree l (⟨"com/example/pagewave/pagewave/Objective", "hasModel", "()Z"⟩ : MethodName) (head1 (Jvm.Cond.code (⟨"com/example/pagewave/pagewave/Objective", "hasModel", "()Z"⟩ : MethodName) prog_37_method_8_code 1 (some .boolean) :: ws) ({ frames := 0, cells := 0, slots := 0, locals := 0 } : Room)) (fun aa_ U_ => aa_ = #[(.ref a)] ∧ Z.Warmed39 U_.vm ∧ U_.heap = h0) (fun _ _ _ _ _ => True) (fun _ U_ o_ U'_ => ∃ v_ L_, o_ = .returned v_ ∧ Q_hasModelr Z a w h0 n0 v_ U'_.heap L_ ∧ FrameEnd U_ o_ U'_ L_ ({ frames := 0, cells := 0, slots := 0, locals := 0 } : Room).cells ({ frames := 0, cells := 0, slots := 0, locals := 0 } : Room).slots) := by
  refine MetFree.of_bodySF (plainFor_of_name pn_1) hisR ?_
  intro pP eE sS mM argsA below meth cC s₁ Bd hml0 hP hK
  obtain ⟨rfl, hZ, hh⟩ := hP
  have hx := Bd.exec
  have hby := Bd.bytes
  have hml : cC.maxLocals = 1 := hml0
  have hown : sS.vm.findClass "com/example/pagewave/pagewave/Objective" = some mM.cls := findClass_of_methodNamed Bd.named
  have hnm := (name_of_methodNamed Bd.named Bd.method).1
  have X0 : Stand pP l eE ({ frames := 0, cells := 0, slots := 0, locals := 0 } : Room) sS mM #[(.ref a)] below meth cC s₁ [] 0 0 := Stand.of_body Bd
  have e0 : s₁.heap = h0 := by rw [← hh, Bd.state]; rfl
  have N0 := Fr.nil n0
  have pre0 : ∀ t, Steps pP.tables eE below (s₁.setTop (mkF mM 0 #[.val (.ref a)] [])) t → Steps pP.tables eE below (s₁.setTop (entryFrame mM #[(.ref a)] 1)) t := fun t k => castTop (ef_hasModelr mM a) k
  obtain ⟨T_1, X_1, e_1, st_1⟩ := getF X0 hx hZ hown (host := "") (Or.inl (hw _ (List.mem_of_getElem? (i := 13) rfl))) Via.refl e0 F_bottleneck_a (g := (mkF mM 1 #[.val (.ref a)] [(.ref a)])) rfl rfl (hb hby d_prog_37m8_1)
  obtain ⟨fs, hr, hrun, hended, hW, hsame⟩ := X_1.leave (v := some (.int (0 : Int32))) (fun h => by rw [Bd.returns] at h; cases h)
  refine ⟨_, _, pre0 _ ?_, hrun, hended, _, _, rfl, ?_, ⟨_, rfl⟩, hW, hsame.mono (by decide) (by decide)⟩
  · show Steps pP.tables eE below (s₁.setTop (mkF mM 0 #[.val (.ref a)] [])) _
    refine XS.aloadN X0.here hx rfl (hb hby d_prog_37m8_0) rfl rfl ?_
    show Steps pP.tables eE below (s₁.setTop (mkF mM 1 #[.val (.ref a)] [(.ref a)])) _
    refine st_1 _ ?_
    show Steps pP.tables eE below (T_1.setTop (mkF mM 4 #[.val (.ref a)] [(.ref w)])) _
    refine XT.ifnonnullYes X_1.here hx rfl (pc0 := 4) (pc' := 11) rfl (hb hby d_prog_37m8_4) rfl (by decide) (by decide) ?_
    show Steps pP.tables eE below (T_1.setTop (mkF mM 11 #[.val (.ref a)] [])) _
    refine XS.iconst X_1.here hx rfl (hb hby d_prog_37m8_11) ?_
    show Steps pP.tables eE below (T_1.setTop (mkF mM 12 #[.val (.ref a)] [(.int (0 : Int32))])) _
    exact retN X_1 hx (t := .boolean) Bd.returns (by simp) (hb hby d_prog_37m8_12) hr
  · show Q_hasModelr Z a w h0 n0 _ T_1.heap _
    rw [e_1]
    exact ⟨rfl, N0, rfl⟩
theorem pd_0 : parseMethodDescriptor "(I)Lcom/example/pagewave/pagewave/Objective;" = some ⟨[.int], some (.object "com/example/pagewave/pagewave/Objective")⟩ := by decide +kernel
theorem pd_1 : parseMethodDescriptor "()Z" = some ⟨[], some .boolean⟩ := by decide +kernel
theorem ef_law0 (mM : MethodId) (x0 : Int32) : entryFrame mM #[(.int x0)] maxLocals = mkF mM 0 #[.val (.int x0), .unset, .unset, .unset, .unset] [] := by first | (simp [entryFrame, mkF, argsToLocals, Value.category, maxLocals]; done) | rfl
def Q_law0 (Z : State) (p1 : Int32) (a : Addr) (w : Addr) (h0 : Heap) (n0 : Nat) (v_ : Option Value) (h_ : Heap) (L_ : List Loc) : Prop := v_ = some (.int (1 : Int32)) ∧ Fr n0 L_
set_option maxRecDepth 65536 in
set_option maxHeartbeats 40000000 in
theorem rm_law0 (l : Launch) (Z : State) (a0 : Array Value) (hw : ∀ d ∈ tables_1, d.before a0 Z = true) (ws : List Jvm.Cond) (p1 : Int32) (a : Addr) (w : Addr) (h0 : Heap) (n0 : Nat) (Z0 : n0 ≤ h0.size) (hk : ((p1 &&& (2147483647 : Int32)) % (5 : Int32)) = (0 : Int32)) (S_Objective_MAX_RESPONSE : Sta Z h0 "com/example/pagewave/pagewave/Objective" "MAX_RESPONSE" "Lcom/example/pagewave/pagewave/Objective;" (.ref a)) (E_a : Exa Z h0 a "com/example/pagewave/pagewave/Objective") (F_bottleneck_a : Fld Z h0 a "com/example/pagewave/pagewave/Objective" "bottleneck" "Lcom/example/pagewave/pagewave/Bottleneck;" (.ref w)) :
    MetFree l x (head1 (Jvm.Cond.code x code maxLocals ret :: ws) room_1) (fun aa_ U_ => aa_ = #[(.int p1)] ∧ Z.Warmed39 U_.vm ∧ U_.heap = h0) (fun _ _ _ _ _ => True) (fun _ U_ o_ U'_ => ∃ v_ L_, o_ = .returned v_ ∧ Q_law0 Z p1 a w h0 n0 v_ U'_.heap L_ ∧ FrameEnd U_ o_ U'_ L_ 0 0) := by
  refine MetFree.of_bodySF (plainFor_of_name pn_0) hisR ?_
  intro pP eE sS mM argsA below meth cC s₁ Bd hml0 hP hK
  obtain ⟨rfl, hZ, hh⟩ := hP
  have hx := Bd.exec
  have hby := Bd.bytes
  have hml : cC.maxLocals = 5 := hml0
  have hown : sS.vm.findClass "com/example/pagewave/pagewave/ObjectiveHasLowerBoundPinLaw" = some mM.cls := findClass_of_methodNamed Bd.named
  have hnm := (name_of_methodNamed Bd.named Bd.method).1
  have X0 : Stand pP l eE room_1 sS mM #[(.int p1)] below meth cC s₁ [] 0 0 := Stand.of_body Bd
  have e0 : s₁.heap = h0 := by rw [← hh, Bd.state]; rfl
  have N0 := Fr.nil n0
  have pre0 : ∀ t, Steps pP.tables eE below (s₁.setTop (mkF mM 0 #[.val (.int p1), .unset, .unset, .unset, .unset] [])) t → Steps pP.tables eE below (s₁.setTop (entryFrame mM #[(.int p1)] maxLocals)) t := fun t k => castTop (ef_law0 mM p1) k
  obtain ⟨_, _, ⟨T_1, L_1, k_1, n_1⟩, -, X_1, ⟨Lc_1, hQ_1, l_1, y_1, z_1⟩, st_1⟩ := Jvm.LawKit.callS X0 hx (y := (⟨"com/example/pagewave/pagewave/ObjectiveHasLowerBoundPinLaw", "pick", "(I)Lcom/example/pagewave/pagewave/Objective;"⟩ : MethodName)) hown (mvT hZ (hw _ (List.mem_of_getElem? (i := 1) rfl))) (mvT hZ (hw _ (List.mem_of_getElem? (i := 2) rfl))) (mvT hZ (hw _ (List.mem_of_getElem? (i := 3) rfl))) (mvT hZ (hw _ (List.mem_of_getElem? (i := 4) rfl))) (by decide) (backOf (W := 0) (rm_pick0 l Z a0 hw [] a h0 n0 Z0 S_Objective_MAX_RESPONSE) hZ (hw _ (List.mem_of_getElem? (i := 4) rfl)) (hw _ (List.mem_of_getElem? (i := 3) rfl)) (by decide) (by decide)) (g := (mkF mM 8 #[.val (.int p1), .val (.int (0 : Int32)), .unset, .unset, .unset] [(.int (0 : Int32))])) rfl (by rw [hml]; rfl) (argsL := [(.int (0 : Int32))]) (rest := []) (lenOf pd_0 rfl) rfl (by show 2 * 0 + _ ≤ _; exact Nat.le_of_eq rfl) (hb hby at_8) (fun _ _ => ⟨rfl, e0, (by decide : 0 + 0 ≤ _), (by decide : 0 + 0 ≤ _)⟩)
  dsimp only [Pt.U, Pt.locs, Pt.cells, Pt.slots] at X_1 l_1 y_1 z_1 st_1 hQ_1
  subst l_1 y_1 z_1
  obtain ⟨rfl, N_1q, eh_1⟩ := hQ_1
  have N_1 := Fr.app N0 N_1q
  obtain ⟨cq_2, kq_2, q_2a, q_2b, q_2c⟩ := isOf hZ eh_1 E_a
  obtain ⟨_, _, ⟨T_2, L_2, k_2, n_2⟩, -, X_2, ⟨Lc_2, hQ_2, l_2, y_2, z_2⟩, st_2⟩ := X_1.virtualBack hx (y := (⟨"com/example/pagewave/pagewave/Objective", "hasLowerBound", "()Z"⟩ : MethodName)) (z := (⟨"com/example/pagewave/pagewave/Objective", "hasLowerBound", "()Z"⟩ : MethodName)) hown (mvT hZ (hw _ (List.mem_of_getElem? (i := 8) rfl))) (mvT hZ (hw _ (List.mem_of_getElem? (i := 9) rfl))) (notFace_of_selects (args := #[]) (mvT hZ (hw _ (List.mem_of_getElem? (i := 11) rfl)))) (mvT hZ (hw _ (List.mem_of_getElem? (i := 11) rfl))) (mvT hZ (hw _ (List.mem_of_getElem? (i := 10) rfl))) (by decide) (backOf (W := 0) (rm_hasLowerBoundr l Z a0 hw [] a w h0 n0 Z0 F_bottleneck_a) hZ (hw _ (List.mem_of_getElem? (i := 12) rfl)) (hw _ (List.mem_of_getElem? (i := 6) rfl)) (by decide) (by decide)) q_2a q_2c (g := (mkF mM 24 #[.val (.int p1), .val (.int (0 : Int32)), .val (.ref a), .val (.int (0 : Int32)), .unset] [(.ref a)])) rfl (by rw [hml]; rfl) (Steps.refl _) (argsL := []) (rest := []) (lenOf pd_1 rfl) rfl (by show 2 * 0 + _ ≤ _; exact Nat.le_of_eq rfl) (hb hby at_24) (fun _ _ => ⟨rfl, eh_1, (by decide : 0 + 0 ≤ _), (by decide : 0 + 0 ≤ _)⟩)
  dsimp only [Pt.U, Pt.locs, Pt.cells, Pt.slots] at X_2 l_2 y_2 z_2 st_2 hQ_2
  subst l_2 y_2 z_2
  obtain ⟨rfl, N_2q, eh_2⟩ := hQ_2
  have N_2 := Fr.app N_1 N_2q
  obtain ⟨cq_3, kq_3, q_3a, q_3b, q_3c⟩ := isOf hZ eh_2 E_a
  obtain ⟨_, _, ⟨T_3, L_3, k_3, n_3⟩, -, X_3, ⟨Lc_3, hQ_3, l_3, y_3, z_3⟩, st_3⟩ := X_2.virtualBack hx (y := (⟨"com/example/pagewave/pagewave/Objective", "hasModel", "()Z"⟩ : MethodName)) (z := (⟨"com/example/pagewave/pagewave/Objective", "hasModel", "()Z"⟩ : MethodName)) hown (mvT hZ (hw _ (List.mem_of_getElem? (i := 17) rfl))) (mvT hZ (hw _ (List.mem_of_getElem? (i := 18) rfl))) (notFace_of_selects (args := #[]) (mvT hZ (hw _ (List.mem_of_getElem? (i := 20) rfl)))) (mvT hZ (hw _ (List.mem_of_getElem? (i := 20) rfl))) (mvT hZ (hw _ (List.mem_of_getElem? (i := 19) rfl))) (by decide) (backOf (W := 1) (rm_hasModelr l Z a0 hw [] a w h0 n0 Z0 F_bottleneck_a) hZ (hw _ (List.mem_of_getElem? (i := 21) rfl)) (hw _ (List.mem_of_getElem? (i := 6) rfl)) (by decide) (by decide)) q_3a q_3c (g := (mkF mM 38 #[.val (.int p1), .val (.int (0 : Int32)), .val (.ref a), .val (.int (0 : Int32)), .val (.int (0 : Int32))] [(.ref a), (.int (0 : Int32))])) rfl (by rw [hml]; rfl) (Steps.refl _) (argsL := []) (rest := [(.int (0 : Int32))]) (lenOf pd_1 rfl) rfl (by show 2 * 0 + _ ≤ _; exact Nat.le_of_eq rfl) (hb hby at_38) (fun _ _ => ⟨rfl, eh_2, (by decide : 0 + 0 ≤ _), (by decide : 0 + 0 ≤ _)⟩)
  dsimp only [Pt.U, Pt.locs, Pt.cells, Pt.slots] at X_3 l_3 y_3 z_3 st_3 hQ_3
  subst l_3 y_3 z_3
  obtain ⟨rfl, N_3q, eh_3⟩ := hQ_3
  have N_3 := Fr.app N_2 N_3q
  obtain ⟨fs, hr, hrun, hended, hW, hsame⟩ := X_3.leave (v := some (.int (1 : Int32))) (fun h => by rw [Bd.returns] at h; cases h)
  refine ⟨_, _, pre0 _ ?_, hrun, hended, _, _, rfl, ?_, ⟨_, rfl⟩, hW, hsame.mono (by decide) (by decide)⟩
  · show Steps pP.tables eE below (s₁.setTop (mkF mM 0 #[.val (.int p1), .unset, .unset, .unset, .unset] [])) _
    refine XS.iloadN X0.here hx rfl (hb hby at_0) rfl ?_
    show Steps pP.tables eE below (s₁.setTop (mkF mM 1 #[.val (.int p1), .unset, .unset, .unset, .unset] [(.int p1)])) _
    refine X0.ldcI hx hown (mvT hZ (hw _ (List.mem_of_getElem? (i := 0) rfl))) (g := (mkF mM 1 #[.val (.int p1), .unset, .unset, .unset, .unset] [(.int p1)])) rfl (hb hby at_1) ?_
    show Steps pP.tables eE below (s₁.setTop (mkF mM 3 #[.val (.int p1), .unset, .unset, .unset, .unset] [(.int (2147483647 : Int32)), (.int p1)])) _
    refine XS.iand X0.here hx rfl (hb hby at_3) rfl ?_
    show Steps pP.tables eE below (s₁.setTop (mkF mM 4 #[.val (.int p1), .unset, .unset, .unset, .unset] [(.int (p1 &&& (2147483647 : Int32)))])) _
    refine XS.iconst X0.here hx rfl (hb hby at_4) ?_
    show Steps pP.tables eE below (s₁.setTop (mkF mM 5 #[.val (.int p1), .unset, .unset, .unset, .unset] [(.int (5 : Int32)), (.int (p1 &&& (2147483647 : Int32)))])) _
    refine iremM X0 hx rfl (hb hby at_5) rfl (by decide) ?_
    show Steps pP.tables eE below (s₁.setTop (mkF mM 6 #[.val (.int p1), .unset, .unset, .unset, .unset] [(.int ((p1 &&& (2147483647 : Int32)) % (5 : Int32)))])) _
    rw [hk]
    show Steps pP.tables eE below (s₁.setTop (mkF mM 6 #[.val (.int p1), .unset, .unset, .unset, .unset] [(.int (0 : Int32))])) _
    refine XS.istoreN X0.here hx rfl (hb hby at_6) rfl (l' := #[.val (.int p1), .val (.int (0 : Int32)), .unset, .unset, .unset]) rfl ?_
    show Steps pP.tables eE below (s₁.setTop (mkF mM 7 #[.val (.int p1), .val (.int (0 : Int32)), .unset, .unset, .unset] [])) _
    refine XS.iloadN X0.here hx rfl (hb hby at_7) rfl ?_
    show Steps pP.tables eE below (s₁.setTop (mkF mM 8 #[.val (.int p1), .val (.int (0 : Int32)), .unset, .unset, .unset] [(.int (0 : Int32))])) _
    refine st_1 _ ?_
    show Steps pP.tables eE below (T_1.setTop (mkF mM 11 #[.val (.int p1), .val (.int (0 : Int32)), .unset, .unset, .unset] [(.ref a)])) _
    refine XS.astoreN X_1.here hx rfl (hb hby at_11) rfl rfl (l' := #[.val (.int p1), .val (.int (0 : Int32)), .val (.ref a), .unset, .unset]) rfl ?_
    show Steps pP.tables eE below (T_1.setTop (mkF mM 12 #[.val (.int p1), .val (.int (0 : Int32)), .val (.ref a), .unset, .unset] [])) _
    refine XS.iloadN X_1.here hx rfl (hb hby at_12) rfl ?_
    show Steps pP.tables eE below (T_1.setTop (mkF mM 13 #[.val (.int p1), .val (.int (0 : Int32)), .val (.ref a), .unset, .unset] [(.int (0 : Int32))])) _
    refine XS.iconst X_1.here hx rfl (hb hby at_13) ?_
    show Steps pP.tables eE below (T_1.setTop (mkF mM 14 #[.val (.int p1), .val (.int (0 : Int32)), .val (.ref a), .unset, .unset] [(.int (1 : Int32)), (.int (0 : Int32))])) _
    refine XS.icmpYes X_1.here hx rfl (pc0 := 14) (pc' := 21) rfl (hb hby at_14) rfl (by decide) (by decide) (by decide) ?_
    show Steps pP.tables eE below (T_1.setTop (mkF mM 21 #[.val (.int p1), .val (.int (0 : Int32)), .val (.ref a), .unset, .unset] [])) _
    refine XS.iconst X_1.here hx rfl (hb hby at_21) ?_
    show Steps pP.tables eE below (T_1.setTop (mkF mM 22 #[.val (.int p1), .val (.int (0 : Int32)), .val (.ref a), .unset, .unset] [(.int (0 : Int32))])) _
    refine XS.istoreN X_1.here hx rfl (hb hby at_22) rfl (l' := #[.val (.int p1), .val (.int (0 : Int32)), .val (.ref a), .val (.int (0 : Int32)), .unset]) rfl ?_
    show Steps pP.tables eE below (T_1.setTop (mkF mM 23 #[.val (.int p1), .val (.int (0 : Int32)), .val (.ref a), .val (.int (0 : Int32)), .unset] [])) _
    refine XS.aloadN X_1.here hx rfl (hb hby at_23) rfl rfl ?_
    show Steps pP.tables eE below (T_1.setTop (mkF mM 24 #[.val (.int p1), .val (.int (0 : Int32)), .val (.ref a), .val (.int (0 : Int32)), .unset] [(.ref a)])) _
    refine st_2.trans ?_
    show Steps pP.tables eE below (T_2.setTop (mkF mM 27 #[.val (.int p1), .val (.int (0 : Int32)), .val (.ref a), .val (.int (0 : Int32)), .unset] [(.int (0 : Int32))])) _
    refine XS.istore X_2.here hx rfl (hb hby at_27) rfl (l' := #[.val (.int p1), .val (.int (0 : Int32)), .val (.ref a), .val (.int (0 : Int32)), .val (.int (0 : Int32))]) rfl ?_
    show Steps pP.tables eE below (T_2.setTop (mkF mM 29 #[.val (.int p1), .val (.int (0 : Int32)), .val (.ref a), .val (.int (0 : Int32)), .val (.int (0 : Int32))] [])) _
    refine XS.iload X_2.here hx rfl (hb hby at_29) rfl ?_
    show Steps pP.tables eE below (T_2.setTop (mkF mM 31 #[.val (.int p1), .val (.int (0 : Int32)), .val (.ref a), .val (.int (0 : Int32)), .val (.int (0 : Int32))] [(.int (0 : Int32))])) _
    refine XS.iloadN X_2.here hx rfl (hb hby at_31) rfl ?_
    show Steps pP.tables eE below (T_2.setTop (mkF mM 32 #[.val (.int p1), .val (.int (0 : Int32)), .val (.ref a), .val (.int (0 : Int32)), .val (.int (0 : Int32))] [(.int (0 : Int32)), (.int (0 : Int32))])) _
    refine XS.icmpNo X_2.here hx rfl (hb hby at_32) rfl (by decide) ?_
    show Steps pP.tables eE below (T_2.setTop (mkF mM 35 #[.val (.int p1), .val (.int (0 : Int32)), .val (.ref a), .val (.int (0 : Int32)), .val (.int (0 : Int32))] [])) _
    refine XS.iload X_2.here hx rfl (hb hby at_35) rfl ?_
    show Steps pP.tables eE below (T_2.setTop (mkF mM 37 #[.val (.int p1), .val (.int (0 : Int32)), .val (.ref a), .val (.int (0 : Int32)), .val (.int (0 : Int32))] [(.int (0 : Int32))])) _
    refine XS.aloadN X_2.here hx rfl (hb hby at_37) rfl rfl ?_
    show Steps pP.tables eE below (T_2.setTop (mkF mM 38 #[.val (.int p1), .val (.int (0 : Int32)), .val (.ref a), .val (.int (0 : Int32)), .val (.int (0 : Int32))] [(.ref a), (.int (0 : Int32))])) _
    refine st_3.trans ?_
    show Steps pP.tables eE below (T_3.setTop (mkF mM 41 #[.val (.int p1), .val (.int (0 : Int32)), .val (.ref a), .val (.int (0 : Int32)), .val (.int (0 : Int32))] [(.int (0 : Int32)), (.int (0 : Int32))])) _
    refine XS.icmpNo X_3.here hx rfl (hb hby at_41) rfl (by decide) ?_
    show Steps pP.tables eE below (T_3.setTop (mkF mM 44 #[.val (.int p1), .val (.int (0 : Int32)), .val (.ref a), .val (.int (0 : Int32)), .val (.int (0 : Int32))] [])) _
    refine XS.iconst X_3.here hx rfl (hb hby at_44) ?_
    show Steps pP.tables eE below (T_3.setTop (mkF mM 45 #[.val (.int p1), .val (.int (0 : Int32)), .val (.ref a), .val (.int (0 : Int32)), .val (.int (0 : Int32))] [(.int (1 : Int32))])) _
    refine XS.goto X_3.here hx rfl (pc0 := 45) (pc' := 49) rfl (hb hby at_45) (by decide) (by decide) ?_
    show Steps pP.tables eE below (T_3.setTop (mkF mM 49 #[.val (.int p1), .val (.int (0 : Int32)), .val (.ref a), .val (.int (0 : Int32)), .val (.int (0 : Int32))] [(.int (1 : Int32))])) _
    exact retN X_3 hx (t := .boolean) Bd.returns (by simp) (hb hby at_49) hr
  · show Q_law0 Z p1 a w h0 n0 _ T_3.heap _
    exact ⟨rfl, N_3⟩
theorem ef_law1 (mM : MethodId) (x0 : Int32) : entryFrame mM #[(.int x0)] maxLocals = mkF mM 0 #[.val (.int x0), .unset, .unset, .unset, .unset] [] := by first | (simp [entryFrame, mkF, argsToLocals, Value.category, maxLocals]; done) | rfl
def Q_law1 (Z : State) (p1 : Int32) (a : Addr) (h0 : Heap) (n0 : Nat) (v_ : Option Value) (h_ : Heap) (L_ : List Loc) : Prop := v_ = some (.int (1 : Int32)) ∧ Fr n0 L_
set_option maxRecDepth 65536 in
set_option maxHeartbeats 40000000 in
theorem rm_law1 (l : Launch) (Z : State) (a0 : Array Value) (hw : ∀ d ∈ tables_1, d.before a0 Z = true) (ws : List Jvm.Cond) (p1 : Int32) (a : Addr) (h0 : Heap) (n0 : Nat) (Z0 : n0 ≤ h0.size) (hk : ((p1 &&& (2147483647 : Int32)) % (5 : Int32)) = (1 : Int32)) (S_Objective_TOTAL_FLOW : Sta Z h0 "com/example/pagewave/pagewave/Objective" "TOTAL_FLOW" "Lcom/example/pagewave/pagewave/Objective;" (.ref a)) (E_a : Exa Z h0 a "com/example/pagewave/pagewave/Objective") (F_bottleneck_a : Fld Z h0 a "com/example/pagewave/pagewave/Objective" "bottleneck" "Lcom/example/pagewave/pagewave/Bottleneck;" .null) :
    MetFree l x (head1 (Jvm.Cond.code x code maxLocals ret :: ws) room_1) (fun aa_ U_ => aa_ = #[(.int p1)] ∧ Z.Warmed39 U_.vm ∧ U_.heap = h0) (fun _ _ _ _ _ => True) (fun _ U_ o_ U'_ => ∃ v_ L_, o_ = .returned v_ ∧ Q_law1 Z p1 a h0 n0 v_ U'_.heap L_ ∧ FrameEnd U_ o_ U'_ L_ 0 0) := by
  refine MetFree.of_bodySF (plainFor_of_name pn_0) hisR ?_
  intro pP eE sS mM argsA below meth cC s₁ Bd hml0 hP hK
  obtain ⟨rfl, hZ, hh⟩ := hP
  have hx := Bd.exec
  have hby := Bd.bytes
  have hml : cC.maxLocals = 5 := hml0
  have hown : sS.vm.findClass "com/example/pagewave/pagewave/ObjectiveHasLowerBoundPinLaw" = some mM.cls := findClass_of_methodNamed Bd.named
  have hnm := (name_of_methodNamed Bd.named Bd.method).1
  have X0 : Stand pP l eE room_1 sS mM #[(.int p1)] below meth cC s₁ [] 0 0 := Stand.of_body Bd
  have e0 : s₁.heap = h0 := by rw [← hh, Bd.state]; rfl
  have N0 := Fr.nil n0
  have pre0 : ∀ t, Steps pP.tables eE below (s₁.setTop (mkF mM 0 #[.val (.int p1), .unset, .unset, .unset, .unset] [])) t → Steps pP.tables eE below (s₁.setTop (entryFrame mM #[(.int p1)] maxLocals)) t := fun t k => castTop (ef_law1 mM p1) k
  obtain ⟨_, _, ⟨T_1, L_1, k_1, n_1⟩, -, X_1, ⟨Lc_1, hQ_1, l_1, y_1, z_1⟩, st_1⟩ := Jvm.LawKit.callS X0 hx (y := (⟨"com/example/pagewave/pagewave/ObjectiveHasLowerBoundPinLaw", "pick", "(I)Lcom/example/pagewave/pagewave/Objective;"⟩ : MethodName)) hown (mvT hZ (hw _ (List.mem_of_getElem? (i := 1) rfl))) (mvT hZ (hw _ (List.mem_of_getElem? (i := 2) rfl))) (mvT hZ (hw _ (List.mem_of_getElem? (i := 3) rfl))) (mvT hZ (hw _ (List.mem_of_getElem? (i := 4) rfl))) (by decide) (backOf (W := 0) (rm_pick1 l Z a0 hw [] a h0 n0 Z0 S_Objective_TOTAL_FLOW) hZ (hw _ (List.mem_of_getElem? (i := 4) rfl)) (hw _ (List.mem_of_getElem? (i := 3) rfl)) (by decide) (by decide)) (g := (mkF mM 8 #[.val (.int p1), .val (.int (1 : Int32)), .unset, .unset, .unset] [(.int (1 : Int32))])) rfl (by rw [hml]; rfl) (argsL := [(.int (1 : Int32))]) (rest := []) (lenOf pd_0 rfl) rfl (by show 2 * 0 + _ ≤ _; exact Nat.le_of_eq rfl) (hb hby at_8) (fun _ _ => ⟨rfl, e0, (by decide : 0 + 0 ≤ _), (by decide : 0 + 0 ≤ _)⟩)
  dsimp only [Pt.U, Pt.locs, Pt.cells, Pt.slots] at X_1 l_1 y_1 z_1 st_1 hQ_1
  subst l_1 y_1 z_1
  obtain ⟨rfl, N_1q, eh_1⟩ := hQ_1
  have N_1 := Fr.app N0 N_1q
  obtain ⟨cq_2, kq_2, q_2a, q_2b, q_2c⟩ := isOf hZ eh_1 E_a
  obtain ⟨_, _, ⟨T_2, L_2, k_2, n_2⟩, -, X_2, ⟨Lc_2, hQ_2, l_2, y_2, z_2⟩, st_2⟩ := X_1.virtualBack hx (y := (⟨"com/example/pagewave/pagewave/Objective", "hasLowerBound", "()Z"⟩ : MethodName)) (z := (⟨"com/example/pagewave/pagewave/Objective", "hasLowerBound", "()Z"⟩ : MethodName)) hown (mvT hZ (hw _ (List.mem_of_getElem? (i := 8) rfl))) (mvT hZ (hw _ (List.mem_of_getElem? (i := 9) rfl))) (notFace_of_selects (args := #[]) (mvT hZ (hw _ (List.mem_of_getElem? (i := 11) rfl)))) (mvT hZ (hw _ (List.mem_of_getElem? (i := 11) rfl))) (mvT hZ (hw _ (List.mem_of_getElem? (i := 10) rfl))) (by decide) (backOf (W := 0) (rm_hasLowerBoundn l Z a0 hw [] a h0 n0 Z0 F_bottleneck_a) hZ (hw _ (List.mem_of_getElem? (i := 12) rfl)) (hw _ (List.mem_of_getElem? (i := 6) rfl)) (by decide) (by decide)) q_2a q_2c (g := (mkF mM 24 #[.val (.int p1), .val (.int (1 : Int32)), .val (.ref a), .val (.int (1 : Int32)), .unset] [(.ref a)])) rfl (by rw [hml]; rfl) (Steps.refl _) (argsL := []) (rest := []) (lenOf pd_1 rfl) rfl (by show 2 * 0 + _ ≤ _; exact Nat.le_of_eq rfl) (hb hby at_24) (fun _ _ => ⟨rfl, eh_1, (by decide : 0 + 0 ≤ _), (by decide : 0 + 0 ≤ _)⟩)
  dsimp only [Pt.U, Pt.locs, Pt.cells, Pt.slots] at X_2 l_2 y_2 z_2 st_2 hQ_2
  subst l_2 y_2 z_2
  obtain ⟨rfl, N_2q, eh_2⟩ := hQ_2
  have N_2 := Fr.app N_1 N_2q
  obtain ⟨cq_3, kq_3, q_3a, q_3b, q_3c⟩ := isOf hZ eh_2 E_a
  obtain ⟨_, _, ⟨T_3, L_3, k_3, n_3⟩, -, X_3, ⟨Lc_3, hQ_3, l_3, y_3, z_3⟩, st_3⟩ := X_2.virtualBack hx (y := (⟨"com/example/pagewave/pagewave/Objective", "hasModel", "()Z"⟩ : MethodName)) (z := (⟨"com/example/pagewave/pagewave/Objective", "hasModel", "()Z"⟩ : MethodName)) hown (mvT hZ (hw _ (List.mem_of_getElem? (i := 17) rfl))) (mvT hZ (hw _ (List.mem_of_getElem? (i := 18) rfl))) (notFace_of_selects (args := #[]) (mvT hZ (hw _ (List.mem_of_getElem? (i := 20) rfl)))) (mvT hZ (hw _ (List.mem_of_getElem? (i := 20) rfl))) (mvT hZ (hw _ (List.mem_of_getElem? (i := 19) rfl))) (by decide) (backOf (W := 1) (rm_hasModeln l Z a0 hw [] a h0 n0 Z0 F_bottleneck_a) hZ (hw _ (List.mem_of_getElem? (i := 21) rfl)) (hw _ (List.mem_of_getElem? (i := 6) rfl)) (by decide) (by decide)) q_3a q_3c (g := (mkF mM 38 #[.val (.int p1), .val (.int (1 : Int32)), .val (.ref a), .val (.int (1 : Int32)), .val (.int (1 : Int32))] [(.ref a), (.int (1 : Int32))])) rfl (by rw [hml]; rfl) (Steps.refl _) (argsL := []) (rest := [(.int (1 : Int32))]) (lenOf pd_1 rfl) rfl (by show 2 * 0 + _ ≤ _; exact Nat.le_of_eq rfl) (hb hby at_38) (fun _ _ => ⟨rfl, eh_2, (by decide : 0 + 0 ≤ _), (by decide : 0 + 0 ≤ _)⟩)
  dsimp only [Pt.U, Pt.locs, Pt.cells, Pt.slots] at X_3 l_3 y_3 z_3 st_3 hQ_3
  subst l_3 y_3 z_3
  obtain ⟨rfl, N_3q, eh_3⟩ := hQ_3
  have N_3 := Fr.app N_2 N_3q
  obtain ⟨fs, hr, hrun, hended, hW, hsame⟩ := X_3.leave (v := some (.int (1 : Int32))) (fun h => by rw [Bd.returns] at h; cases h)
  refine ⟨_, _, pre0 _ ?_, hrun, hended, _, _, rfl, ?_, ⟨_, rfl⟩, hW, hsame.mono (by decide) (by decide)⟩
  · show Steps pP.tables eE below (s₁.setTop (mkF mM 0 #[.val (.int p1), .unset, .unset, .unset, .unset] [])) _
    refine XS.iloadN X0.here hx rfl (hb hby at_0) rfl ?_
    show Steps pP.tables eE below (s₁.setTop (mkF mM 1 #[.val (.int p1), .unset, .unset, .unset, .unset] [(.int p1)])) _
    refine X0.ldcI hx hown (mvT hZ (hw _ (List.mem_of_getElem? (i := 0) rfl))) (g := (mkF mM 1 #[.val (.int p1), .unset, .unset, .unset, .unset] [(.int p1)])) rfl (hb hby at_1) ?_
    show Steps pP.tables eE below (s₁.setTop (mkF mM 3 #[.val (.int p1), .unset, .unset, .unset, .unset] [(.int (2147483647 : Int32)), (.int p1)])) _
    refine XS.iand X0.here hx rfl (hb hby at_3) rfl ?_
    show Steps pP.tables eE below (s₁.setTop (mkF mM 4 #[.val (.int p1), .unset, .unset, .unset, .unset] [(.int (p1 &&& (2147483647 : Int32)))])) _
    refine XS.iconst X0.here hx rfl (hb hby at_4) ?_
    show Steps pP.tables eE below (s₁.setTop (mkF mM 5 #[.val (.int p1), .unset, .unset, .unset, .unset] [(.int (5 : Int32)), (.int (p1 &&& (2147483647 : Int32)))])) _
    refine iremM X0 hx rfl (hb hby at_5) rfl (by decide) ?_
    show Steps pP.tables eE below (s₁.setTop (mkF mM 6 #[.val (.int p1), .unset, .unset, .unset, .unset] [(.int ((p1 &&& (2147483647 : Int32)) % (5 : Int32)))])) _
    rw [hk]
    show Steps pP.tables eE below (s₁.setTop (mkF mM 6 #[.val (.int p1), .unset, .unset, .unset, .unset] [(.int (1 : Int32))])) _
    refine XS.istoreN X0.here hx rfl (hb hby at_6) rfl (l' := #[.val (.int p1), .val (.int (1 : Int32)), .unset, .unset, .unset]) rfl ?_
    show Steps pP.tables eE below (s₁.setTop (mkF mM 7 #[.val (.int p1), .val (.int (1 : Int32)), .unset, .unset, .unset] [])) _
    refine XS.iloadN X0.here hx rfl (hb hby at_7) rfl ?_
    show Steps pP.tables eE below (s₁.setTop (mkF mM 8 #[.val (.int p1), .val (.int (1 : Int32)), .unset, .unset, .unset] [(.int (1 : Int32))])) _
    refine st_1 _ ?_
    show Steps pP.tables eE below (T_1.setTop (mkF mM 11 #[.val (.int p1), .val (.int (1 : Int32)), .unset, .unset, .unset] [(.ref a)])) _
    refine XS.astoreN X_1.here hx rfl (hb hby at_11) rfl rfl (l' := #[.val (.int p1), .val (.int (1 : Int32)), .val (.ref a), .unset, .unset]) rfl ?_
    show Steps pP.tables eE below (T_1.setTop (mkF mM 12 #[.val (.int p1), .val (.int (1 : Int32)), .val (.ref a), .unset, .unset] [])) _
    refine XS.iloadN X_1.here hx rfl (hb hby at_12) rfl ?_
    show Steps pP.tables eE below (T_1.setTop (mkF mM 13 #[.val (.int p1), .val (.int (1 : Int32)), .val (.ref a), .unset, .unset] [(.int (1 : Int32))])) _
    refine XS.iconst X_1.here hx rfl (hb hby at_13) ?_
    show Steps pP.tables eE below (T_1.setTop (mkF mM 14 #[.val (.int p1), .val (.int (1 : Int32)), .val (.ref a), .unset, .unset] [(.int (1 : Int32)), (.int (1 : Int32))])) _
    refine XS.icmpNo X_1.here hx rfl (hb hby at_14) rfl (by decide) ?_
    show Steps pP.tables eE below (T_1.setTop (mkF mM 17 #[.val (.int p1), .val (.int (1 : Int32)), .val (.ref a), .unset, .unset] [])) _
    refine XS.iconst X_1.here hx rfl (hb hby at_17) ?_
    show Steps pP.tables eE below (T_1.setTop (mkF mM 18 #[.val (.int p1), .val (.int (1 : Int32)), .val (.ref a), .unset, .unset] [(.int (1 : Int32))])) _
    refine XS.goto X_1.here hx rfl (pc0 := 18) (pc' := 22) rfl (hb hby at_18) (by decide) (by decide) ?_
    show Steps pP.tables eE below (T_1.setTop (mkF mM 22 #[.val (.int p1), .val (.int (1 : Int32)), .val (.ref a), .unset, .unset] [(.int (1 : Int32))])) _
    refine XS.istoreN X_1.here hx rfl (hb hby at_22) rfl (l' := #[.val (.int p1), .val (.int (1 : Int32)), .val (.ref a), .val (.int (1 : Int32)), .unset]) rfl ?_
    show Steps pP.tables eE below (T_1.setTop (mkF mM 23 #[.val (.int p1), .val (.int (1 : Int32)), .val (.ref a), .val (.int (1 : Int32)), .unset] [])) _
    refine XS.aloadN X_1.here hx rfl (hb hby at_23) rfl rfl ?_
    show Steps pP.tables eE below (T_1.setTop (mkF mM 24 #[.val (.int p1), .val (.int (1 : Int32)), .val (.ref a), .val (.int (1 : Int32)), .unset] [(.ref a)])) _
    refine st_2.trans ?_
    show Steps pP.tables eE below (T_2.setTop (mkF mM 27 #[.val (.int p1), .val (.int (1 : Int32)), .val (.ref a), .val (.int (1 : Int32)), .unset] [(.int (1 : Int32))])) _
    refine XS.istore X_2.here hx rfl (hb hby at_27) rfl (l' := #[.val (.int p1), .val (.int (1 : Int32)), .val (.ref a), .val (.int (1 : Int32)), .val (.int (1 : Int32))]) rfl ?_
    show Steps pP.tables eE below (T_2.setTop (mkF mM 29 #[.val (.int p1), .val (.int (1 : Int32)), .val (.ref a), .val (.int (1 : Int32)), .val (.int (1 : Int32))] [])) _
    refine XS.iload X_2.here hx rfl (hb hby at_29) rfl ?_
    show Steps pP.tables eE below (T_2.setTop (mkF mM 31 #[.val (.int p1), .val (.int (1 : Int32)), .val (.ref a), .val (.int (1 : Int32)), .val (.int (1 : Int32))] [(.int (1 : Int32))])) _
    refine XS.iloadN X_2.here hx rfl (hb hby at_31) rfl ?_
    show Steps pP.tables eE below (T_2.setTop (mkF mM 32 #[.val (.int p1), .val (.int (1 : Int32)), .val (.ref a), .val (.int (1 : Int32)), .val (.int (1 : Int32))] [(.int (1 : Int32)), (.int (1 : Int32))])) _
    refine XS.icmpNo X_2.here hx rfl (hb hby at_32) rfl (by decide) ?_
    show Steps pP.tables eE below (T_2.setTop (mkF mM 35 #[.val (.int p1), .val (.int (1 : Int32)), .val (.ref a), .val (.int (1 : Int32)), .val (.int (1 : Int32))] [])) _
    refine XS.iload X_2.here hx rfl (hb hby at_35) rfl ?_
    show Steps pP.tables eE below (T_2.setTop (mkF mM 37 #[.val (.int p1), .val (.int (1 : Int32)), .val (.ref a), .val (.int (1 : Int32)), .val (.int (1 : Int32))] [(.int (1 : Int32))])) _
    refine XS.aloadN X_2.here hx rfl (hb hby at_37) rfl rfl ?_
    show Steps pP.tables eE below (T_2.setTop (mkF mM 38 #[.val (.int p1), .val (.int (1 : Int32)), .val (.ref a), .val (.int (1 : Int32)), .val (.int (1 : Int32))] [(.ref a), (.int (1 : Int32))])) _
    refine st_3.trans ?_
    show Steps pP.tables eE below (T_3.setTop (mkF mM 41 #[.val (.int p1), .val (.int (1 : Int32)), .val (.ref a), .val (.int (1 : Int32)), .val (.int (1 : Int32))] [(.int (1 : Int32)), (.int (1 : Int32))])) _
    refine XS.icmpNo X_3.here hx rfl (hb hby at_41) rfl (by decide) ?_
    show Steps pP.tables eE below (T_3.setTop (mkF mM 44 #[.val (.int p1), .val (.int (1 : Int32)), .val (.ref a), .val (.int (1 : Int32)), .val (.int (1 : Int32))] [])) _
    refine XS.iconst X_3.here hx rfl (hb hby at_44) ?_
    show Steps pP.tables eE below (T_3.setTop (mkF mM 45 #[.val (.int p1), .val (.int (1 : Int32)), .val (.ref a), .val (.int (1 : Int32)), .val (.int (1 : Int32))] [(.int (1 : Int32))])) _
    refine XS.goto X_3.here hx rfl (pc0 := 45) (pc' := 49) rfl (hb hby at_45) (by decide) (by decide) ?_
    show Steps pP.tables eE below (T_3.setTop (mkF mM 49 #[.val (.int p1), .val (.int (1 : Int32)), .val (.ref a), .val (.int (1 : Int32)), .val (.int (1 : Int32))] [(.int (1 : Int32))])) _
    exact retN X_3 hx (t := .boolean) Bd.returns (by simp) (hb hby at_49) hr
  · show Q_law1 Z p1 a h0 n0 _ T_3.heap _
    exact ⟨rfl, N_3⟩
theorem ef_law2 (mM : MethodId) (x0 : Int32) : entryFrame mM #[(.int x0)] maxLocals = mkF mM 0 #[.val (.int x0), .unset, .unset, .unset, .unset] [] := by first | (simp [entryFrame, mkF, argsToLocals, Value.category, maxLocals]; done) | rfl
def Q_law2 (Z : State) (p1 : Int32) (a : Addr) (w : Addr) (h0 : Heap) (n0 : Nat) (v_ : Option Value) (h_ : Heap) (L_ : List Loc) : Prop := v_ = some (.int (1 : Int32)) ∧ Fr n0 L_
set_option maxRecDepth 65536 in
set_option maxHeartbeats 40000000 in
theorem rm_law2 (l : Launch) (Z : State) (a0 : Array Value) (hw : ∀ d ∈ tables_1, d.before a0 Z = true) (ws : List Jvm.Cond) (p1 : Int32) (a : Addr) (w : Addr) (h0 : Heap) (n0 : Nat) (Z0 : n0 ≤ h0.size) (hk : ((p1 &&& (2147483647 : Int32)) % (5 : Int32)) = (2 : Int32)) (S_Objective_MAX_DELAY_FACTOR : Sta Z h0 "com/example/pagewave/pagewave/Objective" "MAX_DELAY_FACTOR" "Lcom/example/pagewave/pagewave/Objective;" (.ref a)) (E_a : Exa Z h0 a "com/example/pagewave/pagewave/Objective") (F_bottleneck_a : Fld Z h0 a "com/example/pagewave/pagewave/Objective" "bottleneck" "Lcom/example/pagewave/pagewave/Bottleneck;" (.ref w)) :
    MetFree l x (head1 (Jvm.Cond.code x code maxLocals ret :: ws) room_1) (fun aa_ U_ => aa_ = #[(.int p1)] ∧ Z.Warmed39 U_.vm ∧ U_.heap = h0) (fun _ _ _ _ _ => True) (fun _ U_ o_ U'_ => ∃ v_ L_, o_ = .returned v_ ∧ Q_law2 Z p1 a w h0 n0 v_ U'_.heap L_ ∧ FrameEnd U_ o_ U'_ L_ 0 0) := by
  refine MetFree.of_bodySF (plainFor_of_name pn_0) hisR ?_
  intro pP eE sS mM argsA below meth cC s₁ Bd hml0 hP hK
  obtain ⟨rfl, hZ, hh⟩ := hP
  have hx := Bd.exec
  have hby := Bd.bytes
  have hml : cC.maxLocals = 5 := hml0
  have hown : sS.vm.findClass "com/example/pagewave/pagewave/ObjectiveHasLowerBoundPinLaw" = some mM.cls := findClass_of_methodNamed Bd.named
  have hnm := (name_of_methodNamed Bd.named Bd.method).1
  have X0 : Stand pP l eE room_1 sS mM #[(.int p1)] below meth cC s₁ [] 0 0 := Stand.of_body Bd
  have e0 : s₁.heap = h0 := by rw [← hh, Bd.state]; rfl
  have N0 := Fr.nil n0
  have pre0 : ∀ t, Steps pP.tables eE below (s₁.setTop (mkF mM 0 #[.val (.int p1), .unset, .unset, .unset, .unset] [])) t → Steps pP.tables eE below (s₁.setTop (entryFrame mM #[(.int p1)] maxLocals)) t := fun t k => castTop (ef_law2 mM p1) k
  obtain ⟨_, _, ⟨T_1, L_1, k_1, n_1⟩, -, X_1, ⟨Lc_1, hQ_1, l_1, y_1, z_1⟩, st_1⟩ := Jvm.LawKit.callS X0 hx (y := (⟨"com/example/pagewave/pagewave/ObjectiveHasLowerBoundPinLaw", "pick", "(I)Lcom/example/pagewave/pagewave/Objective;"⟩ : MethodName)) hown (mvT hZ (hw _ (List.mem_of_getElem? (i := 1) rfl))) (mvT hZ (hw _ (List.mem_of_getElem? (i := 2) rfl))) (mvT hZ (hw _ (List.mem_of_getElem? (i := 3) rfl))) (mvT hZ (hw _ (List.mem_of_getElem? (i := 4) rfl))) (by decide) (backOf (W := 0) (rm_pick2 l Z a0 hw [] a h0 n0 Z0 S_Objective_MAX_DELAY_FACTOR) hZ (hw _ (List.mem_of_getElem? (i := 4) rfl)) (hw _ (List.mem_of_getElem? (i := 3) rfl)) (by decide) (by decide)) (g := (mkF mM 8 #[.val (.int p1), .val (.int (2 : Int32)), .unset, .unset, .unset] [(.int (2 : Int32))])) rfl (by rw [hml]; rfl) (argsL := [(.int (2 : Int32))]) (rest := []) (lenOf pd_0 rfl) rfl (by show 2 * 0 + _ ≤ _; exact Nat.le_of_eq rfl) (hb hby at_8) (fun _ _ => ⟨rfl, e0, (by decide : 0 + 0 ≤ _), (by decide : 0 + 0 ≤ _)⟩)
  dsimp only [Pt.U, Pt.locs, Pt.cells, Pt.slots] at X_1 l_1 y_1 z_1 st_1 hQ_1
  subst l_1 y_1 z_1
  obtain ⟨rfl, N_1q, eh_1⟩ := hQ_1
  have N_1 := Fr.app N0 N_1q
  obtain ⟨cq_2, kq_2, q_2a, q_2b, q_2c⟩ := isOf hZ eh_1 E_a
  obtain ⟨_, _, ⟨T_2, L_2, k_2, n_2⟩, -, X_2, ⟨Lc_2, hQ_2, l_2, y_2, z_2⟩, st_2⟩ := X_1.virtualBack hx (y := (⟨"com/example/pagewave/pagewave/Objective", "hasLowerBound", "()Z"⟩ : MethodName)) (z := (⟨"com/example/pagewave/pagewave/Objective", "hasLowerBound", "()Z"⟩ : MethodName)) hown (mvT hZ (hw _ (List.mem_of_getElem? (i := 8) rfl))) (mvT hZ (hw _ (List.mem_of_getElem? (i := 9) rfl))) (notFace_of_selects (args := #[]) (mvT hZ (hw _ (List.mem_of_getElem? (i := 11) rfl)))) (mvT hZ (hw _ (List.mem_of_getElem? (i := 11) rfl))) (mvT hZ (hw _ (List.mem_of_getElem? (i := 10) rfl))) (by decide) (backOf (W := 0) (rm_hasLowerBoundr l Z a0 hw [] a w h0 n0 Z0 F_bottleneck_a) hZ (hw _ (List.mem_of_getElem? (i := 12) rfl)) (hw _ (List.mem_of_getElem? (i := 6) rfl)) (by decide) (by decide)) q_2a q_2c (g := (mkF mM 24 #[.val (.int p1), .val (.int (2 : Int32)), .val (.ref a), .val (.int (0 : Int32)), .unset] [(.ref a)])) rfl (by rw [hml]; rfl) (Steps.refl _) (argsL := []) (rest := []) (lenOf pd_1 rfl) rfl (by show 2 * 0 + _ ≤ _; exact Nat.le_of_eq rfl) (hb hby at_24) (fun _ _ => ⟨rfl, eh_1, (by decide : 0 + 0 ≤ _), (by decide : 0 + 0 ≤ _)⟩)
  dsimp only [Pt.U, Pt.locs, Pt.cells, Pt.slots] at X_2 l_2 y_2 z_2 st_2 hQ_2
  subst l_2 y_2 z_2
  obtain ⟨rfl, N_2q, eh_2⟩ := hQ_2
  have N_2 := Fr.app N_1 N_2q
  obtain ⟨cq_3, kq_3, q_3a, q_3b, q_3c⟩ := isOf hZ eh_2 E_a
  obtain ⟨_, _, ⟨T_3, L_3, k_3, n_3⟩, -, X_3, ⟨Lc_3, hQ_3, l_3, y_3, z_3⟩, st_3⟩ := X_2.virtualBack hx (y := (⟨"com/example/pagewave/pagewave/Objective", "hasModel", "()Z"⟩ : MethodName)) (z := (⟨"com/example/pagewave/pagewave/Objective", "hasModel", "()Z"⟩ : MethodName)) hown (mvT hZ (hw _ (List.mem_of_getElem? (i := 17) rfl))) (mvT hZ (hw _ (List.mem_of_getElem? (i := 18) rfl))) (notFace_of_selects (args := #[]) (mvT hZ (hw _ (List.mem_of_getElem? (i := 20) rfl)))) (mvT hZ (hw _ (List.mem_of_getElem? (i := 20) rfl))) (mvT hZ (hw _ (List.mem_of_getElem? (i := 19) rfl))) (by decide) (backOf (W := 1) (rm_hasModelr l Z a0 hw [] a w h0 n0 Z0 F_bottleneck_a) hZ (hw _ (List.mem_of_getElem? (i := 21) rfl)) (hw _ (List.mem_of_getElem? (i := 6) rfl)) (by decide) (by decide)) q_3a q_3c (g := (mkF mM 38 #[.val (.int p1), .val (.int (2 : Int32)), .val (.ref a), .val (.int (0 : Int32)), .val (.int (0 : Int32))] [(.ref a), (.int (0 : Int32))])) rfl (by rw [hml]; rfl) (Steps.refl _) (argsL := []) (rest := [(.int (0 : Int32))]) (lenOf pd_1 rfl) rfl (by show 2 * 0 + _ ≤ _; exact Nat.le_of_eq rfl) (hb hby at_38) (fun _ _ => ⟨rfl, eh_2, (by decide : 0 + 0 ≤ _), (by decide : 0 + 0 ≤ _)⟩)
  dsimp only [Pt.U, Pt.locs, Pt.cells, Pt.slots] at X_3 l_3 y_3 z_3 st_3 hQ_3
  subst l_3 y_3 z_3
  obtain ⟨rfl, N_3q, eh_3⟩ := hQ_3
  have N_3 := Fr.app N_2 N_3q
  obtain ⟨fs, hr, hrun, hended, hW, hsame⟩ := X_3.leave (v := some (.int (1 : Int32))) (fun h => by rw [Bd.returns] at h; cases h)
  refine ⟨_, _, pre0 _ ?_, hrun, hended, _, _, rfl, ?_, ⟨_, rfl⟩, hW, hsame.mono (by decide) (by decide)⟩
  · show Steps pP.tables eE below (s₁.setTop (mkF mM 0 #[.val (.int p1), .unset, .unset, .unset, .unset] [])) _
    refine XS.iloadN X0.here hx rfl (hb hby at_0) rfl ?_
    show Steps pP.tables eE below (s₁.setTop (mkF mM 1 #[.val (.int p1), .unset, .unset, .unset, .unset] [(.int p1)])) _
    refine X0.ldcI hx hown (mvT hZ (hw _ (List.mem_of_getElem? (i := 0) rfl))) (g := (mkF mM 1 #[.val (.int p1), .unset, .unset, .unset, .unset] [(.int p1)])) rfl (hb hby at_1) ?_
    show Steps pP.tables eE below (s₁.setTop (mkF mM 3 #[.val (.int p1), .unset, .unset, .unset, .unset] [(.int (2147483647 : Int32)), (.int p1)])) _
    refine XS.iand X0.here hx rfl (hb hby at_3) rfl ?_
    show Steps pP.tables eE below (s₁.setTop (mkF mM 4 #[.val (.int p1), .unset, .unset, .unset, .unset] [(.int (p1 &&& (2147483647 : Int32)))])) _
    refine XS.iconst X0.here hx rfl (hb hby at_4) ?_
    show Steps pP.tables eE below (s₁.setTop (mkF mM 5 #[.val (.int p1), .unset, .unset, .unset, .unset] [(.int (5 : Int32)), (.int (p1 &&& (2147483647 : Int32)))])) _
    refine iremM X0 hx rfl (hb hby at_5) rfl (by decide) ?_
    show Steps pP.tables eE below (s₁.setTop (mkF mM 6 #[.val (.int p1), .unset, .unset, .unset, .unset] [(.int ((p1 &&& (2147483647 : Int32)) % (5 : Int32)))])) _
    rw [hk]
    show Steps pP.tables eE below (s₁.setTop (mkF mM 6 #[.val (.int p1), .unset, .unset, .unset, .unset] [(.int (2 : Int32))])) _
    refine XS.istoreN X0.here hx rfl (hb hby at_6) rfl (l' := #[.val (.int p1), .val (.int (2 : Int32)), .unset, .unset, .unset]) rfl ?_
    show Steps pP.tables eE below (s₁.setTop (mkF mM 7 #[.val (.int p1), .val (.int (2 : Int32)), .unset, .unset, .unset] [])) _
    refine XS.iloadN X0.here hx rfl (hb hby at_7) rfl ?_
    show Steps pP.tables eE below (s₁.setTop (mkF mM 8 #[.val (.int p1), .val (.int (2 : Int32)), .unset, .unset, .unset] [(.int (2 : Int32))])) _
    refine st_1 _ ?_
    show Steps pP.tables eE below (T_1.setTop (mkF mM 11 #[.val (.int p1), .val (.int (2 : Int32)), .unset, .unset, .unset] [(.ref a)])) _
    refine XS.astoreN X_1.here hx rfl (hb hby at_11) rfl rfl (l' := #[.val (.int p1), .val (.int (2 : Int32)), .val (.ref a), .unset, .unset]) rfl ?_
    show Steps pP.tables eE below (T_1.setTop (mkF mM 12 #[.val (.int p1), .val (.int (2 : Int32)), .val (.ref a), .unset, .unset] [])) _
    refine XS.iloadN X_1.here hx rfl (hb hby at_12) rfl ?_
    show Steps pP.tables eE below (T_1.setTop (mkF mM 13 #[.val (.int p1), .val (.int (2 : Int32)), .val (.ref a), .unset, .unset] [(.int (2 : Int32))])) _
    refine XS.iconst X_1.here hx rfl (hb hby at_13) ?_
    show Steps pP.tables eE below (T_1.setTop (mkF mM 14 #[.val (.int p1), .val (.int (2 : Int32)), .val (.ref a), .unset, .unset] [(.int (1 : Int32)), (.int (2 : Int32))])) _
    refine XS.icmpYes X_1.here hx rfl (pc0 := 14) (pc' := 21) rfl (hb hby at_14) rfl (by decide) (by decide) (by decide) ?_
    show Steps pP.tables eE below (T_1.setTop (mkF mM 21 #[.val (.int p1), .val (.int (2 : Int32)), .val (.ref a), .unset, .unset] [])) _
    refine XS.iconst X_1.here hx rfl (hb hby at_21) ?_
    show Steps pP.tables eE below (T_1.setTop (mkF mM 22 #[.val (.int p1), .val (.int (2 : Int32)), .val (.ref a), .unset, .unset] [(.int (0 : Int32))])) _
    refine XS.istoreN X_1.here hx rfl (hb hby at_22) rfl (l' := #[.val (.int p1), .val (.int (2 : Int32)), .val (.ref a), .val (.int (0 : Int32)), .unset]) rfl ?_
    show Steps pP.tables eE below (T_1.setTop (mkF mM 23 #[.val (.int p1), .val (.int (2 : Int32)), .val (.ref a), .val (.int (0 : Int32)), .unset] [])) _
    refine XS.aloadN X_1.here hx rfl (hb hby at_23) rfl rfl ?_
    show Steps pP.tables eE below (T_1.setTop (mkF mM 24 #[.val (.int p1), .val (.int (2 : Int32)), .val (.ref a), .val (.int (0 : Int32)), .unset] [(.ref a)])) _
    refine st_2.trans ?_
    show Steps pP.tables eE below (T_2.setTop (mkF mM 27 #[.val (.int p1), .val (.int (2 : Int32)), .val (.ref a), .val (.int (0 : Int32)), .unset] [(.int (0 : Int32))])) _
    refine XS.istore X_2.here hx rfl (hb hby at_27) rfl (l' := #[.val (.int p1), .val (.int (2 : Int32)), .val (.ref a), .val (.int (0 : Int32)), .val (.int (0 : Int32))]) rfl ?_
    show Steps pP.tables eE below (T_2.setTop (mkF mM 29 #[.val (.int p1), .val (.int (2 : Int32)), .val (.ref a), .val (.int (0 : Int32)), .val (.int (0 : Int32))] [])) _
    refine XS.iload X_2.here hx rfl (hb hby at_29) rfl ?_
    show Steps pP.tables eE below (T_2.setTop (mkF mM 31 #[.val (.int p1), .val (.int (2 : Int32)), .val (.ref a), .val (.int (0 : Int32)), .val (.int (0 : Int32))] [(.int (0 : Int32))])) _
    refine XS.iloadN X_2.here hx rfl (hb hby at_31) rfl ?_
    show Steps pP.tables eE below (T_2.setTop (mkF mM 32 #[.val (.int p1), .val (.int (2 : Int32)), .val (.ref a), .val (.int (0 : Int32)), .val (.int (0 : Int32))] [(.int (0 : Int32)), (.int (0 : Int32))])) _
    refine XS.icmpNo X_2.here hx rfl (hb hby at_32) rfl (by decide) ?_
    show Steps pP.tables eE below (T_2.setTop (mkF mM 35 #[.val (.int p1), .val (.int (2 : Int32)), .val (.ref a), .val (.int (0 : Int32)), .val (.int (0 : Int32))] [])) _
    refine XS.iload X_2.here hx rfl (hb hby at_35) rfl ?_
    show Steps pP.tables eE below (T_2.setTop (mkF mM 37 #[.val (.int p1), .val (.int (2 : Int32)), .val (.ref a), .val (.int (0 : Int32)), .val (.int (0 : Int32))] [(.int (0 : Int32))])) _
    refine XS.aloadN X_2.here hx rfl (hb hby at_37) rfl rfl ?_
    show Steps pP.tables eE below (T_2.setTop (mkF mM 38 #[.val (.int p1), .val (.int (2 : Int32)), .val (.ref a), .val (.int (0 : Int32)), .val (.int (0 : Int32))] [(.ref a), (.int (0 : Int32))])) _
    refine st_3.trans ?_
    show Steps pP.tables eE below (T_3.setTop (mkF mM 41 #[.val (.int p1), .val (.int (2 : Int32)), .val (.ref a), .val (.int (0 : Int32)), .val (.int (0 : Int32))] [(.int (0 : Int32)), (.int (0 : Int32))])) _
    refine XS.icmpNo X_3.here hx rfl (hb hby at_41) rfl (by decide) ?_
    show Steps pP.tables eE below (T_3.setTop (mkF mM 44 #[.val (.int p1), .val (.int (2 : Int32)), .val (.ref a), .val (.int (0 : Int32)), .val (.int (0 : Int32))] [])) _
    refine XS.iconst X_3.here hx rfl (hb hby at_44) ?_
    show Steps pP.tables eE below (T_3.setTop (mkF mM 45 #[.val (.int p1), .val (.int (2 : Int32)), .val (.ref a), .val (.int (0 : Int32)), .val (.int (0 : Int32))] [(.int (1 : Int32))])) _
    refine XS.goto X_3.here hx rfl (pc0 := 45) (pc' := 49) rfl (hb hby at_45) (by decide) (by decide) ?_
    show Steps pP.tables eE below (T_3.setTop (mkF mM 49 #[.val (.int p1), .val (.int (2 : Int32)), .val (.ref a), .val (.int (0 : Int32)), .val (.int (0 : Int32))] [(.int (1 : Int32))])) _
    exact retN X_3 hx (t := .boolean) Bd.returns (by simp) (hb hby at_49) hr
  · show Q_law2 Z p1 a w h0 n0 _ T_3.heap _
    exact ⟨rfl, N_3⟩
theorem ef_law3 (mM : MethodId) (x0 : Int32) : entryFrame mM #[(.int x0)] maxLocals = mkF mM 0 #[.val (.int x0), .unset, .unset, .unset, .unset] [] := by first | (simp [entryFrame, mkF, argsToLocals, Value.category, maxLocals]; done) | rfl
def Q_law3 (Z : State) (p1 : Int32) (a : Addr) (w : Addr) (h0 : Heap) (n0 : Nat) (v_ : Option Value) (h_ : Heap) (L_ : List Loc) : Prop := v_ = some (.int (1 : Int32)) ∧ Fr n0 L_
set_option maxRecDepth 65536 in
set_option maxHeartbeats 40000000 in
theorem rm_law3 (l : Launch) (Z : State) (a0 : Array Value) (hw : ∀ d ∈ tables_1, d.before a0 Z = true) (ws : List Jvm.Cond) (p1 : Int32) (a : Addr) (w : Addr) (h0 : Heap) (n0 : Nat) (Z0 : n0 ≤ h0.size) (hk : ((p1 &&& (2147483647 : Int32)) % (5 : Int32)) = (3 : Int32)) (S_Objective_MAX_WEIGHTED_RESPONSE : Sta Z h0 "com/example/pagewave/pagewave/Objective" "MAX_WEIGHTED_RESPONSE" "Lcom/example/pagewave/pagewave/Objective;" (.ref a)) (E_a : Exa Z h0 a "com/example/pagewave/pagewave/Objective") (F_bottleneck_a : Fld Z h0 a "com/example/pagewave/pagewave/Objective" "bottleneck" "Lcom/example/pagewave/pagewave/Bottleneck;" (.ref w)) :
    MetFree l x (head1 (Jvm.Cond.code x code maxLocals ret :: ws) room_1) (fun aa_ U_ => aa_ = #[(.int p1)] ∧ Z.Warmed39 U_.vm ∧ U_.heap = h0) (fun _ _ _ _ _ => True) (fun _ U_ o_ U'_ => ∃ v_ L_, o_ = .returned v_ ∧ Q_law3 Z p1 a w h0 n0 v_ U'_.heap L_ ∧ FrameEnd U_ o_ U'_ L_ 0 0) := by
  refine MetFree.of_bodySF (plainFor_of_name pn_0) hisR ?_
  intro pP eE sS mM argsA below meth cC s₁ Bd hml0 hP hK
  obtain ⟨rfl, hZ, hh⟩ := hP
  have hx := Bd.exec
  have hby := Bd.bytes
  have hml : cC.maxLocals = 5 := hml0
  have hown : sS.vm.findClass "com/example/pagewave/pagewave/ObjectiveHasLowerBoundPinLaw" = some mM.cls := findClass_of_methodNamed Bd.named
  have hnm := (name_of_methodNamed Bd.named Bd.method).1
  have X0 : Stand pP l eE room_1 sS mM #[(.int p1)] below meth cC s₁ [] 0 0 := Stand.of_body Bd
  have e0 : s₁.heap = h0 := by rw [← hh, Bd.state]; rfl
  have N0 := Fr.nil n0
  have pre0 : ∀ t, Steps pP.tables eE below (s₁.setTop (mkF mM 0 #[.val (.int p1), .unset, .unset, .unset, .unset] [])) t → Steps pP.tables eE below (s₁.setTop (entryFrame mM #[(.int p1)] maxLocals)) t := fun t k => castTop (ef_law3 mM p1) k
  obtain ⟨_, _, ⟨T_1, L_1, k_1, n_1⟩, -, X_1, ⟨Lc_1, hQ_1, l_1, y_1, z_1⟩, st_1⟩ := Jvm.LawKit.callS X0 hx (y := (⟨"com/example/pagewave/pagewave/ObjectiveHasLowerBoundPinLaw", "pick", "(I)Lcom/example/pagewave/pagewave/Objective;"⟩ : MethodName)) hown (mvT hZ (hw _ (List.mem_of_getElem? (i := 1) rfl))) (mvT hZ (hw _ (List.mem_of_getElem? (i := 2) rfl))) (mvT hZ (hw _ (List.mem_of_getElem? (i := 3) rfl))) (mvT hZ (hw _ (List.mem_of_getElem? (i := 4) rfl))) (by decide) (backOf (W := 0) (rm_pick3 l Z a0 hw [] a h0 n0 Z0 S_Objective_MAX_WEIGHTED_RESPONSE) hZ (hw _ (List.mem_of_getElem? (i := 4) rfl)) (hw _ (List.mem_of_getElem? (i := 3) rfl)) (by decide) (by decide)) (g := (mkF mM 8 #[.val (.int p1), .val (.int (3 : Int32)), .unset, .unset, .unset] [(.int (3 : Int32))])) rfl (by rw [hml]; rfl) (argsL := [(.int (3 : Int32))]) (rest := []) (lenOf pd_0 rfl) rfl (by show 2 * 0 + _ ≤ _; exact Nat.le_of_eq rfl) (hb hby at_8) (fun _ _ => ⟨rfl, e0, (by decide : 0 + 0 ≤ _), (by decide : 0 + 0 ≤ _)⟩)
  dsimp only [Pt.U, Pt.locs, Pt.cells, Pt.slots] at X_1 l_1 y_1 z_1 st_1 hQ_1
  subst l_1 y_1 z_1
  obtain ⟨rfl, N_1q, eh_1⟩ := hQ_1
  have N_1 := Fr.app N0 N_1q
  obtain ⟨cq_2, kq_2, q_2a, q_2b, q_2c⟩ := isOf hZ eh_1 E_a
  obtain ⟨_, _, ⟨T_2, L_2, k_2, n_2⟩, -, X_2, ⟨Lc_2, hQ_2, l_2, y_2, z_2⟩, st_2⟩ := X_1.virtualBack hx (y := (⟨"com/example/pagewave/pagewave/Objective", "hasLowerBound", "()Z"⟩ : MethodName)) (z := (⟨"com/example/pagewave/pagewave/Objective", "hasLowerBound", "()Z"⟩ : MethodName)) hown (mvT hZ (hw _ (List.mem_of_getElem? (i := 8) rfl))) (mvT hZ (hw _ (List.mem_of_getElem? (i := 9) rfl))) (notFace_of_selects (args := #[]) (mvT hZ (hw _ (List.mem_of_getElem? (i := 11) rfl)))) (mvT hZ (hw _ (List.mem_of_getElem? (i := 11) rfl))) (mvT hZ (hw _ (List.mem_of_getElem? (i := 10) rfl))) (by decide) (backOf (W := 0) (rm_hasLowerBoundr l Z a0 hw [] a w h0 n0 Z0 F_bottleneck_a) hZ (hw _ (List.mem_of_getElem? (i := 12) rfl)) (hw _ (List.mem_of_getElem? (i := 6) rfl)) (by decide) (by decide)) q_2a q_2c (g := (mkF mM 24 #[.val (.int p1), .val (.int (3 : Int32)), .val (.ref a), .val (.int (0 : Int32)), .unset] [(.ref a)])) rfl (by rw [hml]; rfl) (Steps.refl _) (argsL := []) (rest := []) (lenOf pd_1 rfl) rfl (by show 2 * 0 + _ ≤ _; exact Nat.le_of_eq rfl) (hb hby at_24) (fun _ _ => ⟨rfl, eh_1, (by decide : 0 + 0 ≤ _), (by decide : 0 + 0 ≤ _)⟩)
  dsimp only [Pt.U, Pt.locs, Pt.cells, Pt.slots] at X_2 l_2 y_2 z_2 st_2 hQ_2
  subst l_2 y_2 z_2
  obtain ⟨rfl, N_2q, eh_2⟩ := hQ_2
  have N_2 := Fr.app N_1 N_2q
  obtain ⟨cq_3, kq_3, q_3a, q_3b, q_3c⟩ := isOf hZ eh_2 E_a
  obtain ⟨_, _, ⟨T_3, L_3, k_3, n_3⟩, -, X_3, ⟨Lc_3, hQ_3, l_3, y_3, z_3⟩, st_3⟩ := X_2.virtualBack hx (y := (⟨"com/example/pagewave/pagewave/Objective", "hasModel", "()Z"⟩ : MethodName)) (z := (⟨"com/example/pagewave/pagewave/Objective", "hasModel", "()Z"⟩ : MethodName)) hown (mvT hZ (hw _ (List.mem_of_getElem? (i := 17) rfl))) (mvT hZ (hw _ (List.mem_of_getElem? (i := 18) rfl))) (notFace_of_selects (args := #[]) (mvT hZ (hw _ (List.mem_of_getElem? (i := 20) rfl)))) (mvT hZ (hw _ (List.mem_of_getElem? (i := 20) rfl))) (mvT hZ (hw _ (List.mem_of_getElem? (i := 19) rfl))) (by decide) (backOf (W := 1) (rm_hasModelr l Z a0 hw [] a w h0 n0 Z0 F_bottleneck_a) hZ (hw _ (List.mem_of_getElem? (i := 21) rfl)) (hw _ (List.mem_of_getElem? (i := 6) rfl)) (by decide) (by decide)) q_3a q_3c (g := (mkF mM 38 #[.val (.int p1), .val (.int (3 : Int32)), .val (.ref a), .val (.int (0 : Int32)), .val (.int (0 : Int32))] [(.ref a), (.int (0 : Int32))])) rfl (by rw [hml]; rfl) (Steps.refl _) (argsL := []) (rest := [(.int (0 : Int32))]) (lenOf pd_1 rfl) rfl (by show 2 * 0 + _ ≤ _; exact Nat.le_of_eq rfl) (hb hby at_38) (fun _ _ => ⟨rfl, eh_2, (by decide : 0 + 0 ≤ _), (by decide : 0 + 0 ≤ _)⟩)
  dsimp only [Pt.U, Pt.locs, Pt.cells, Pt.slots] at X_3 l_3 y_3 z_3 st_3 hQ_3
  subst l_3 y_3 z_3
  obtain ⟨rfl, N_3q, eh_3⟩ := hQ_3
  have N_3 := Fr.app N_2 N_3q
  obtain ⟨fs, hr, hrun, hended, hW, hsame⟩ := X_3.leave (v := some (.int (1 : Int32))) (fun h => by rw [Bd.returns] at h; cases h)
  refine ⟨_, _, pre0 _ ?_, hrun, hended, _, _, rfl, ?_, ⟨_, rfl⟩, hW, hsame.mono (by decide) (by decide)⟩
  · show Steps pP.tables eE below (s₁.setTop (mkF mM 0 #[.val (.int p1), .unset, .unset, .unset, .unset] [])) _
    refine XS.iloadN X0.here hx rfl (hb hby at_0) rfl ?_
    show Steps pP.tables eE below (s₁.setTop (mkF mM 1 #[.val (.int p1), .unset, .unset, .unset, .unset] [(.int p1)])) _
    refine X0.ldcI hx hown (mvT hZ (hw _ (List.mem_of_getElem? (i := 0) rfl))) (g := (mkF mM 1 #[.val (.int p1), .unset, .unset, .unset, .unset] [(.int p1)])) rfl (hb hby at_1) ?_
    show Steps pP.tables eE below (s₁.setTop (mkF mM 3 #[.val (.int p1), .unset, .unset, .unset, .unset] [(.int (2147483647 : Int32)), (.int p1)])) _
    refine XS.iand X0.here hx rfl (hb hby at_3) rfl ?_
    show Steps pP.tables eE below (s₁.setTop (mkF mM 4 #[.val (.int p1), .unset, .unset, .unset, .unset] [(.int (p1 &&& (2147483647 : Int32)))])) _
    refine XS.iconst X0.here hx rfl (hb hby at_4) ?_
    show Steps pP.tables eE below (s₁.setTop (mkF mM 5 #[.val (.int p1), .unset, .unset, .unset, .unset] [(.int (5 : Int32)), (.int (p1 &&& (2147483647 : Int32)))])) _
    refine iremM X0 hx rfl (hb hby at_5) rfl (by decide) ?_
    show Steps pP.tables eE below (s₁.setTop (mkF mM 6 #[.val (.int p1), .unset, .unset, .unset, .unset] [(.int ((p1 &&& (2147483647 : Int32)) % (5 : Int32)))])) _
    rw [hk]
    show Steps pP.tables eE below (s₁.setTop (mkF mM 6 #[.val (.int p1), .unset, .unset, .unset, .unset] [(.int (3 : Int32))])) _
    refine XS.istoreN X0.here hx rfl (hb hby at_6) rfl (l' := #[.val (.int p1), .val (.int (3 : Int32)), .unset, .unset, .unset]) rfl ?_
    show Steps pP.tables eE below (s₁.setTop (mkF mM 7 #[.val (.int p1), .val (.int (3 : Int32)), .unset, .unset, .unset] [])) _
    refine XS.iloadN X0.here hx rfl (hb hby at_7) rfl ?_
    show Steps pP.tables eE below (s₁.setTop (mkF mM 8 #[.val (.int p1), .val (.int (3 : Int32)), .unset, .unset, .unset] [(.int (3 : Int32))])) _
    refine st_1 _ ?_
    show Steps pP.tables eE below (T_1.setTop (mkF mM 11 #[.val (.int p1), .val (.int (3 : Int32)), .unset, .unset, .unset] [(.ref a)])) _
    refine XS.astoreN X_1.here hx rfl (hb hby at_11) rfl rfl (l' := #[.val (.int p1), .val (.int (3 : Int32)), .val (.ref a), .unset, .unset]) rfl ?_
    show Steps pP.tables eE below (T_1.setTop (mkF mM 12 #[.val (.int p1), .val (.int (3 : Int32)), .val (.ref a), .unset, .unset] [])) _
    refine XS.iloadN X_1.here hx rfl (hb hby at_12) rfl ?_
    show Steps pP.tables eE below (T_1.setTop (mkF mM 13 #[.val (.int p1), .val (.int (3 : Int32)), .val (.ref a), .unset, .unset] [(.int (3 : Int32))])) _
    refine XS.iconst X_1.here hx rfl (hb hby at_13) ?_
    show Steps pP.tables eE below (T_1.setTop (mkF mM 14 #[.val (.int p1), .val (.int (3 : Int32)), .val (.ref a), .unset, .unset] [(.int (1 : Int32)), (.int (3 : Int32))])) _
    refine XS.icmpYes X_1.here hx rfl (pc0 := 14) (pc' := 21) rfl (hb hby at_14) rfl (by decide) (by decide) (by decide) ?_
    show Steps pP.tables eE below (T_1.setTop (mkF mM 21 #[.val (.int p1), .val (.int (3 : Int32)), .val (.ref a), .unset, .unset] [])) _
    refine XS.iconst X_1.here hx rfl (hb hby at_21) ?_
    show Steps pP.tables eE below (T_1.setTop (mkF mM 22 #[.val (.int p1), .val (.int (3 : Int32)), .val (.ref a), .unset, .unset] [(.int (0 : Int32))])) _
    refine XS.istoreN X_1.here hx rfl (hb hby at_22) rfl (l' := #[.val (.int p1), .val (.int (3 : Int32)), .val (.ref a), .val (.int (0 : Int32)), .unset]) rfl ?_
    show Steps pP.tables eE below (T_1.setTop (mkF mM 23 #[.val (.int p1), .val (.int (3 : Int32)), .val (.ref a), .val (.int (0 : Int32)), .unset] [])) _
    refine XS.aloadN X_1.here hx rfl (hb hby at_23) rfl rfl ?_
    show Steps pP.tables eE below (T_1.setTop (mkF mM 24 #[.val (.int p1), .val (.int (3 : Int32)), .val (.ref a), .val (.int (0 : Int32)), .unset] [(.ref a)])) _
    refine st_2.trans ?_
    show Steps pP.tables eE below (T_2.setTop (mkF mM 27 #[.val (.int p1), .val (.int (3 : Int32)), .val (.ref a), .val (.int (0 : Int32)), .unset] [(.int (0 : Int32))])) _
    refine XS.istore X_2.here hx rfl (hb hby at_27) rfl (l' := #[.val (.int p1), .val (.int (3 : Int32)), .val (.ref a), .val (.int (0 : Int32)), .val (.int (0 : Int32))]) rfl ?_
    show Steps pP.tables eE below (T_2.setTop (mkF mM 29 #[.val (.int p1), .val (.int (3 : Int32)), .val (.ref a), .val (.int (0 : Int32)), .val (.int (0 : Int32))] [])) _
    refine XS.iload X_2.here hx rfl (hb hby at_29) rfl ?_
    show Steps pP.tables eE below (T_2.setTop (mkF mM 31 #[.val (.int p1), .val (.int (3 : Int32)), .val (.ref a), .val (.int (0 : Int32)), .val (.int (0 : Int32))] [(.int (0 : Int32))])) _
    refine XS.iloadN X_2.here hx rfl (hb hby at_31) rfl ?_
    show Steps pP.tables eE below (T_2.setTop (mkF mM 32 #[.val (.int p1), .val (.int (3 : Int32)), .val (.ref a), .val (.int (0 : Int32)), .val (.int (0 : Int32))] [(.int (0 : Int32)), (.int (0 : Int32))])) _
    refine XS.icmpNo X_2.here hx rfl (hb hby at_32) rfl (by decide) ?_
    show Steps pP.tables eE below (T_2.setTop (mkF mM 35 #[.val (.int p1), .val (.int (3 : Int32)), .val (.ref a), .val (.int (0 : Int32)), .val (.int (0 : Int32))] [])) _
    refine XS.iload X_2.here hx rfl (hb hby at_35) rfl ?_
    show Steps pP.tables eE below (T_2.setTop (mkF mM 37 #[.val (.int p1), .val (.int (3 : Int32)), .val (.ref a), .val (.int (0 : Int32)), .val (.int (0 : Int32))] [(.int (0 : Int32))])) _
    refine XS.aloadN X_2.here hx rfl (hb hby at_37) rfl rfl ?_
    show Steps pP.tables eE below (T_2.setTop (mkF mM 38 #[.val (.int p1), .val (.int (3 : Int32)), .val (.ref a), .val (.int (0 : Int32)), .val (.int (0 : Int32))] [(.ref a), (.int (0 : Int32))])) _
    refine st_3.trans ?_
    show Steps pP.tables eE below (T_3.setTop (mkF mM 41 #[.val (.int p1), .val (.int (3 : Int32)), .val (.ref a), .val (.int (0 : Int32)), .val (.int (0 : Int32))] [(.int (0 : Int32)), (.int (0 : Int32))])) _
    refine XS.icmpNo X_3.here hx rfl (hb hby at_41) rfl (by decide) ?_
    show Steps pP.tables eE below (T_3.setTop (mkF mM 44 #[.val (.int p1), .val (.int (3 : Int32)), .val (.ref a), .val (.int (0 : Int32)), .val (.int (0 : Int32))] [])) _
    refine XS.iconst X_3.here hx rfl (hb hby at_44) ?_
    show Steps pP.tables eE below (T_3.setTop (mkF mM 45 #[.val (.int p1), .val (.int (3 : Int32)), .val (.ref a), .val (.int (0 : Int32)), .val (.int (0 : Int32))] [(.int (1 : Int32))])) _
    refine XS.goto X_3.here hx rfl (pc0 := 45) (pc' := 49) rfl (hb hby at_45) (by decide) (by decide) ?_
    show Steps pP.tables eE below (T_3.setTop (mkF mM 49 #[.val (.int p1), .val (.int (3 : Int32)), .val (.ref a), .val (.int (0 : Int32)), .val (.int (0 : Int32))] [(.int (1 : Int32))])) _
    exact retN X_3 hx (t := .boolean) Bd.returns (by simp) (hb hby at_49) hr
  · show Q_law3 Z p1 a w h0 n0 _ T_3.heap _
    exact ⟨rfl, N_3⟩
theorem ef_law4 (mM : MethodId) (x0 : Int32) : entryFrame mM #[(.int x0)] maxLocals = mkF mM 0 #[.val (.int x0), .unset, .unset, .unset, .unset] [] := by first | (simp [entryFrame, mkF, argsToLocals, Value.category, maxLocals]; done) | rfl
def Q_law4 (Z : State) (p1 : Int32) (a : Addr) (w : Addr) (h0 : Heap) (n0 : Nat) (v_ : Option Value) (h_ : Heap) (L_ : List Loc) : Prop := v_ = some (.int (1 : Int32)) ∧ Fr n0 L_
set_option maxRecDepth 65536 in
set_option maxHeartbeats 40000000 in
theorem rm_law4 (l : Launch) (Z : State) (a0 : Array Value) (hw : ∀ d ∈ tables_1, d.before a0 Z = true) (ws : List Jvm.Cond) (p1 : Int32) (a : Addr) (w : Addr) (h0 : Heap) (n0 : Nat) (Z0 : n0 ≤ h0.size) (hk : ((p1 &&& (2147483647 : Int32)) % (5 : Int32)) = (4 : Int32)) (S_Objective_MAX_WEIGHTED_DELAY_FACTOR : Sta Z h0 "com/example/pagewave/pagewave/Objective" "MAX_WEIGHTED_DELAY_FACTOR" "Lcom/example/pagewave/pagewave/Objective;" (.ref a)) (E_a : Exa Z h0 a "com/example/pagewave/pagewave/Objective") (F_bottleneck_a : Fld Z h0 a "com/example/pagewave/pagewave/Objective" "bottleneck" "Lcom/example/pagewave/pagewave/Bottleneck;" (.ref w)) :
    MetFree l x (head1 (Jvm.Cond.code x code maxLocals ret :: ws) room_1) (fun aa_ U_ => aa_ = #[(.int p1)] ∧ Z.Warmed39 U_.vm ∧ U_.heap = h0) (fun _ _ _ _ _ => True) (fun _ U_ o_ U'_ => ∃ v_ L_, o_ = .returned v_ ∧ Q_law4 Z p1 a w h0 n0 v_ U'_.heap L_ ∧ FrameEnd U_ o_ U'_ L_ 0 0) := by
  refine MetFree.of_bodySF (plainFor_of_name pn_0) hisR ?_
  intro pP eE sS mM argsA below meth cC s₁ Bd hml0 hP hK
  obtain ⟨rfl, hZ, hh⟩ := hP
  have hx := Bd.exec
  have hby := Bd.bytes
  have hml : cC.maxLocals = 5 := hml0
  have hown : sS.vm.findClass "com/example/pagewave/pagewave/ObjectiveHasLowerBoundPinLaw" = some mM.cls := findClass_of_methodNamed Bd.named
  have hnm := (name_of_methodNamed Bd.named Bd.method).1
  have X0 : Stand pP l eE room_1 sS mM #[(.int p1)] below meth cC s₁ [] 0 0 := Stand.of_body Bd
  have e0 : s₁.heap = h0 := by rw [← hh, Bd.state]; rfl
  have N0 := Fr.nil n0
  have pre0 : ∀ t, Steps pP.tables eE below (s₁.setTop (mkF mM 0 #[.val (.int p1), .unset, .unset, .unset, .unset] [])) t → Steps pP.tables eE below (s₁.setTop (entryFrame mM #[(.int p1)] maxLocals)) t := fun t k => castTop (ef_law4 mM p1) k
  obtain ⟨_, _, ⟨T_1, L_1, k_1, n_1⟩, -, X_1, ⟨Lc_1, hQ_1, l_1, y_1, z_1⟩, st_1⟩ := Jvm.LawKit.callS X0 hx (y := (⟨"com/example/pagewave/pagewave/ObjectiveHasLowerBoundPinLaw", "pick", "(I)Lcom/example/pagewave/pagewave/Objective;"⟩ : MethodName)) hown (mvT hZ (hw _ (List.mem_of_getElem? (i := 1) rfl))) (mvT hZ (hw _ (List.mem_of_getElem? (i := 2) rfl))) (mvT hZ (hw _ (List.mem_of_getElem? (i := 3) rfl))) (mvT hZ (hw _ (List.mem_of_getElem? (i := 4) rfl))) (by decide) (backOf (W := 0) (rm_pick4 l Z a0 hw [] a h0 n0 Z0 S_Objective_MAX_WEIGHTED_DELAY_FACTOR) hZ (hw _ (List.mem_of_getElem? (i := 4) rfl)) (hw _ (List.mem_of_getElem? (i := 3) rfl)) (by decide) (by decide)) (g := (mkF mM 8 #[.val (.int p1), .val (.int (4 : Int32)), .unset, .unset, .unset] [(.int (4 : Int32))])) rfl (by rw [hml]; rfl) (argsL := [(.int (4 : Int32))]) (rest := []) (lenOf pd_0 rfl) rfl (by show 2 * 0 + _ ≤ _; exact Nat.le_of_eq rfl) (hb hby at_8) (fun _ _ => ⟨rfl, e0, (by decide : 0 + 0 ≤ _), (by decide : 0 + 0 ≤ _)⟩)
  dsimp only [Pt.U, Pt.locs, Pt.cells, Pt.slots] at X_1 l_1 y_1 z_1 st_1 hQ_1
  subst l_1 y_1 z_1
  obtain ⟨rfl, N_1q, eh_1⟩ := hQ_1
  have N_1 := Fr.app N0 N_1q
  obtain ⟨cq_2, kq_2, q_2a, q_2b, q_2c⟩ := isOf hZ eh_1 E_a
  obtain ⟨_, _, ⟨T_2, L_2, k_2, n_2⟩, -, X_2, ⟨Lc_2, hQ_2, l_2, y_2, z_2⟩, st_2⟩ := X_1.virtualBack hx (y := (⟨"com/example/pagewave/pagewave/Objective", "hasLowerBound", "()Z"⟩ : MethodName)) (z := (⟨"com/example/pagewave/pagewave/Objective", "hasLowerBound", "()Z"⟩ : MethodName)) hown (mvT hZ (hw _ (List.mem_of_getElem? (i := 8) rfl))) (mvT hZ (hw _ (List.mem_of_getElem? (i := 9) rfl))) (notFace_of_selects (args := #[]) (mvT hZ (hw _ (List.mem_of_getElem? (i := 11) rfl)))) (mvT hZ (hw _ (List.mem_of_getElem? (i := 11) rfl))) (mvT hZ (hw _ (List.mem_of_getElem? (i := 10) rfl))) (by decide) (backOf (W := 0) (rm_hasLowerBoundr l Z a0 hw [] a w h0 n0 Z0 F_bottleneck_a) hZ (hw _ (List.mem_of_getElem? (i := 12) rfl)) (hw _ (List.mem_of_getElem? (i := 6) rfl)) (by decide) (by decide)) q_2a q_2c (g := (mkF mM 24 #[.val (.int p1), .val (.int (4 : Int32)), .val (.ref a), .val (.int (0 : Int32)), .unset] [(.ref a)])) rfl (by rw [hml]; rfl) (Steps.refl _) (argsL := []) (rest := []) (lenOf pd_1 rfl) rfl (by show 2 * 0 + _ ≤ _; exact Nat.le_of_eq rfl) (hb hby at_24) (fun _ _ => ⟨rfl, eh_1, (by decide : 0 + 0 ≤ _), (by decide : 0 + 0 ≤ _)⟩)
  dsimp only [Pt.U, Pt.locs, Pt.cells, Pt.slots] at X_2 l_2 y_2 z_2 st_2 hQ_2
  subst l_2 y_2 z_2
  obtain ⟨rfl, N_2q, eh_2⟩ := hQ_2
  have N_2 := Fr.app N_1 N_2q
  obtain ⟨cq_3, kq_3, q_3a, q_3b, q_3c⟩ := isOf hZ eh_2 E_a
  obtain ⟨_, _, ⟨T_3, L_3, k_3, n_3⟩, -, X_3, ⟨Lc_3, hQ_3, l_3, y_3, z_3⟩, st_3⟩ := X_2.virtualBack hx (y := (⟨"com/example/pagewave/pagewave/Objective", "hasModel", "()Z"⟩ : MethodName)) (z := (⟨"com/example/pagewave/pagewave/Objective", "hasModel", "()Z"⟩ : MethodName)) hown (mvT hZ (hw _ (List.mem_of_getElem? (i := 17) rfl))) (mvT hZ (hw _ (List.mem_of_getElem? (i := 18) rfl))) (notFace_of_selects (args := #[]) (mvT hZ (hw _ (List.mem_of_getElem? (i := 20) rfl)))) (mvT hZ (hw _ (List.mem_of_getElem? (i := 20) rfl))) (mvT hZ (hw _ (List.mem_of_getElem? (i := 19) rfl))) (by decide) (backOf (W := 1) (rm_hasModelr l Z a0 hw [] a w h0 n0 Z0 F_bottleneck_a) hZ (hw _ (List.mem_of_getElem? (i := 21) rfl)) (hw _ (List.mem_of_getElem? (i := 6) rfl)) (by decide) (by decide)) q_3a q_3c (g := (mkF mM 38 #[.val (.int p1), .val (.int (4 : Int32)), .val (.ref a), .val (.int (0 : Int32)), .val (.int (0 : Int32))] [(.ref a), (.int (0 : Int32))])) rfl (by rw [hml]; rfl) (Steps.refl _) (argsL := []) (rest := [(.int (0 : Int32))]) (lenOf pd_1 rfl) rfl (by show 2 * 0 + _ ≤ _; exact Nat.le_of_eq rfl) (hb hby at_38) (fun _ _ => ⟨rfl, eh_2, (by decide : 0 + 0 ≤ _), (by decide : 0 + 0 ≤ _)⟩)
  dsimp only [Pt.U, Pt.locs, Pt.cells, Pt.slots] at X_3 l_3 y_3 z_3 st_3 hQ_3
  subst l_3 y_3 z_3
  obtain ⟨rfl, N_3q, eh_3⟩ := hQ_3
  have N_3 := Fr.app N_2 N_3q
  obtain ⟨fs, hr, hrun, hended, hW, hsame⟩ := X_3.leave (v := some (.int (1 : Int32))) (fun h => by rw [Bd.returns] at h; cases h)
  refine ⟨_, _, pre0 _ ?_, hrun, hended, _, _, rfl, ?_, ⟨_, rfl⟩, hW, hsame.mono (by decide) (by decide)⟩
  · show Steps pP.tables eE below (s₁.setTop (mkF mM 0 #[.val (.int p1), .unset, .unset, .unset, .unset] [])) _
    refine XS.iloadN X0.here hx rfl (hb hby at_0) rfl ?_
    show Steps pP.tables eE below (s₁.setTop (mkF mM 1 #[.val (.int p1), .unset, .unset, .unset, .unset] [(.int p1)])) _
    refine X0.ldcI hx hown (mvT hZ (hw _ (List.mem_of_getElem? (i := 0) rfl))) (g := (mkF mM 1 #[.val (.int p1), .unset, .unset, .unset, .unset] [(.int p1)])) rfl (hb hby at_1) ?_
    show Steps pP.tables eE below (s₁.setTop (mkF mM 3 #[.val (.int p1), .unset, .unset, .unset, .unset] [(.int (2147483647 : Int32)), (.int p1)])) _
    refine XS.iand X0.here hx rfl (hb hby at_3) rfl ?_
    show Steps pP.tables eE below (s₁.setTop (mkF mM 4 #[.val (.int p1), .unset, .unset, .unset, .unset] [(.int (p1 &&& (2147483647 : Int32)))])) _
    refine XS.iconst X0.here hx rfl (hb hby at_4) ?_
    show Steps pP.tables eE below (s₁.setTop (mkF mM 5 #[.val (.int p1), .unset, .unset, .unset, .unset] [(.int (5 : Int32)), (.int (p1 &&& (2147483647 : Int32)))])) _
    refine iremM X0 hx rfl (hb hby at_5) rfl (by decide) ?_
    show Steps pP.tables eE below (s₁.setTop (mkF mM 6 #[.val (.int p1), .unset, .unset, .unset, .unset] [(.int ((p1 &&& (2147483647 : Int32)) % (5 : Int32)))])) _
    rw [hk]
    show Steps pP.tables eE below (s₁.setTop (mkF mM 6 #[.val (.int p1), .unset, .unset, .unset, .unset] [(.int (4 : Int32))])) _
    refine XS.istoreN X0.here hx rfl (hb hby at_6) rfl (l' := #[.val (.int p1), .val (.int (4 : Int32)), .unset, .unset, .unset]) rfl ?_
    show Steps pP.tables eE below (s₁.setTop (mkF mM 7 #[.val (.int p1), .val (.int (4 : Int32)), .unset, .unset, .unset] [])) _
    refine XS.iloadN X0.here hx rfl (hb hby at_7) rfl ?_
    show Steps pP.tables eE below (s₁.setTop (mkF mM 8 #[.val (.int p1), .val (.int (4 : Int32)), .unset, .unset, .unset] [(.int (4 : Int32))])) _
    refine st_1 _ ?_
    show Steps pP.tables eE below (T_1.setTop (mkF mM 11 #[.val (.int p1), .val (.int (4 : Int32)), .unset, .unset, .unset] [(.ref a)])) _
    refine XS.astoreN X_1.here hx rfl (hb hby at_11) rfl rfl (l' := #[.val (.int p1), .val (.int (4 : Int32)), .val (.ref a), .unset, .unset]) rfl ?_
    show Steps pP.tables eE below (T_1.setTop (mkF mM 12 #[.val (.int p1), .val (.int (4 : Int32)), .val (.ref a), .unset, .unset] [])) _
    refine XS.iloadN X_1.here hx rfl (hb hby at_12) rfl ?_
    show Steps pP.tables eE below (T_1.setTop (mkF mM 13 #[.val (.int p1), .val (.int (4 : Int32)), .val (.ref a), .unset, .unset] [(.int (4 : Int32))])) _
    refine XS.iconst X_1.here hx rfl (hb hby at_13) ?_
    show Steps pP.tables eE below (T_1.setTop (mkF mM 14 #[.val (.int p1), .val (.int (4 : Int32)), .val (.ref a), .unset, .unset] [(.int (1 : Int32)), (.int (4 : Int32))])) _
    refine XS.icmpYes X_1.here hx rfl (pc0 := 14) (pc' := 21) rfl (hb hby at_14) rfl (by decide) (by decide) (by decide) ?_
    show Steps pP.tables eE below (T_1.setTop (mkF mM 21 #[.val (.int p1), .val (.int (4 : Int32)), .val (.ref a), .unset, .unset] [])) _
    refine XS.iconst X_1.here hx rfl (hb hby at_21) ?_
    show Steps pP.tables eE below (T_1.setTop (mkF mM 22 #[.val (.int p1), .val (.int (4 : Int32)), .val (.ref a), .unset, .unset] [(.int (0 : Int32))])) _
    refine XS.istoreN X_1.here hx rfl (hb hby at_22) rfl (l' := #[.val (.int p1), .val (.int (4 : Int32)), .val (.ref a), .val (.int (0 : Int32)), .unset]) rfl ?_
    show Steps pP.tables eE below (T_1.setTop (mkF mM 23 #[.val (.int p1), .val (.int (4 : Int32)), .val (.ref a), .val (.int (0 : Int32)), .unset] [])) _
    refine XS.aloadN X_1.here hx rfl (hb hby at_23) rfl rfl ?_
    show Steps pP.tables eE below (T_1.setTop (mkF mM 24 #[.val (.int p1), .val (.int (4 : Int32)), .val (.ref a), .val (.int (0 : Int32)), .unset] [(.ref a)])) _
    refine st_2.trans ?_
    show Steps pP.tables eE below (T_2.setTop (mkF mM 27 #[.val (.int p1), .val (.int (4 : Int32)), .val (.ref a), .val (.int (0 : Int32)), .unset] [(.int (0 : Int32))])) _
    refine XS.istore X_2.here hx rfl (hb hby at_27) rfl (l' := #[.val (.int p1), .val (.int (4 : Int32)), .val (.ref a), .val (.int (0 : Int32)), .val (.int (0 : Int32))]) rfl ?_
    show Steps pP.tables eE below (T_2.setTop (mkF mM 29 #[.val (.int p1), .val (.int (4 : Int32)), .val (.ref a), .val (.int (0 : Int32)), .val (.int (0 : Int32))] [])) _
    refine XS.iload X_2.here hx rfl (hb hby at_29) rfl ?_
    show Steps pP.tables eE below (T_2.setTop (mkF mM 31 #[.val (.int p1), .val (.int (4 : Int32)), .val (.ref a), .val (.int (0 : Int32)), .val (.int (0 : Int32))] [(.int (0 : Int32))])) _
    refine XS.iloadN X_2.here hx rfl (hb hby at_31) rfl ?_
    show Steps pP.tables eE below (T_2.setTop (mkF mM 32 #[.val (.int p1), .val (.int (4 : Int32)), .val (.ref a), .val (.int (0 : Int32)), .val (.int (0 : Int32))] [(.int (0 : Int32)), (.int (0 : Int32))])) _
    refine XS.icmpNo X_2.here hx rfl (hb hby at_32) rfl (by decide) ?_
    show Steps pP.tables eE below (T_2.setTop (mkF mM 35 #[.val (.int p1), .val (.int (4 : Int32)), .val (.ref a), .val (.int (0 : Int32)), .val (.int (0 : Int32))] [])) _
    refine XS.iload X_2.here hx rfl (hb hby at_35) rfl ?_
    show Steps pP.tables eE below (T_2.setTop (mkF mM 37 #[.val (.int p1), .val (.int (4 : Int32)), .val (.ref a), .val (.int (0 : Int32)), .val (.int (0 : Int32))] [(.int (0 : Int32))])) _
    refine XS.aloadN X_2.here hx rfl (hb hby at_37) rfl rfl ?_
    show Steps pP.tables eE below (T_2.setTop (mkF mM 38 #[.val (.int p1), .val (.int (4 : Int32)), .val (.ref a), .val (.int (0 : Int32)), .val (.int (0 : Int32))] [(.ref a), (.int (0 : Int32))])) _
    refine st_3.trans ?_
    show Steps pP.tables eE below (T_3.setTop (mkF mM 41 #[.val (.int p1), .val (.int (4 : Int32)), .val (.ref a), .val (.int (0 : Int32)), .val (.int (0 : Int32))] [(.int (0 : Int32)), (.int (0 : Int32))])) _
    refine XS.icmpNo X_3.here hx rfl (hb hby at_41) rfl (by decide) ?_
    show Steps pP.tables eE below (T_3.setTop (mkF mM 44 #[.val (.int p1), .val (.int (4 : Int32)), .val (.ref a), .val (.int (0 : Int32)), .val (.int (0 : Int32))] [])) _
    refine XS.iconst X_3.here hx rfl (hb hby at_44) ?_
    show Steps pP.tables eE below (T_3.setTop (mkF mM 45 #[.val (.int p1), .val (.int (4 : Int32)), .val (.ref a), .val (.int (0 : Int32)), .val (.int (0 : Int32))] [(.int (1 : Int32))])) _
    refine XS.goto X_3.here hx rfl (pc0 := 45) (pc' := 49) rfl (hb hby at_45) (by decide) (by decide) ?_
    show Steps pP.tables eE below (T_3.setTop (mkF mM 49 #[.val (.int p1), .val (.int (4 : Int32)), .val (.ref a), .val (.int (0 : Int32)), .val (.int (0 : Int32))] [(.int (1 : Int32))])) _
    exact retN X_3 hx (t := .boolean) Bd.returns (by simp) (hb hby at_49) hr
  · show Q_law4 Z p1 a w h0 n0 _ T_3.heap _
    exact ⟨rfl, N_3⟩
theorem own_rem5 (x : Int32) : (x &&& (2147483647 : Int32)) % (5 : Int32) = 0 ∨ (x &&& (2147483647 : Int32)) % (5 : Int32) = 1 ∨ (x &&& (2147483647 : Int32)) % (5 : Int32) = 2 ∨ (x &&& (2147483647 : Int32)) % (5 : Int32) = 3 ∨ (x &&& (2147483647 : Int32)) % (5 : Int32) = 4 := by
  have e : (x &&& (2147483647 : Int32)).toInt = x.toInt % 2 ^ 31 := Jvm.Kit.i32_mask x 2147483647 (k := 31) (by decide) (by decide)
  have r : ((x &&& (2147483647 : Int32)) % (5 : Int32)).toInt = (x &&& (2147483647 : Int32)).toInt.tmod 5 := by rw [Int32.toInt_mod]; rfl
  have h0 : 0 ≤ (x &&& (2147483647 : Int32)).toInt := by rw [e]; omega
  rw [Int.tmod_eq_emod_of_nonneg h0] at r
  simp only [← Int32.toInt_inj]
  generalize ((x &&& (2147483647 : Int32)) % (5 : Int32)).toInt = z at *
  have q : z = 0 ∨ z = 1 ∨ z = 2 ∨ z = 3 ∨ z = 4 := by omega
  rcases q with rfl | rfl | rfl | rfl | rfl <;> decide
set_option maxRecDepth 65536 in
set_option maxHeartbeats 40000000 in
theorem comes_1 {Post : Tables → Env → Array Value → State → Outcome → State → Prop} (hpost : ∀ tb e args s v u, (limb_1_1.after args s (.returned v) u = true ∧ limb_1_2.after args s (.returned v) u = true ∧ True) → FrameEnd s (.returned v) u (Jvm.fieldLocs frame_1_writes args s ++ Jvm.arrayLocs frame_1_arrays args s ++ Jvm.staticLocs frame_1_statics s) 0 0 → Post tb e args s (.returned v) u) :
    ArmFor flags0 classFile x code maxLocals ret World_1 tables_1 room_1 Calls_1 rest_1 Pre_1 Post := by
  intro l hfl _ _ p e ha hc hk s m args below hf hA hF happ hP
  obtain ⟨hcalls, hrest, hpre⟩ := hP
  obtain ⟨-, -, -, hnamed, -, -, -, hat⟩ := (Spec.applies_iff hf).mp happ
  obtain ⟨hg, hn⟩ := and_e (Cond.before_iff.mp (show (Jvm.Cond.and given_1 narrow_1).before args s = true from hpre))
  obtain ⟨hg1, hg2⟩ := and_e hg
  obtain ⟨w0, rfl⟩ : ∃ w0 : Value, args = #[w0] := by
    have hs : args.size = 1 := by simpa [Cond.value, given_1] using hg1
    obtain ⟨L⟩ := args
    match L, hs with
    | [w0], _ => exact ⟨w0, rfl⟩
  obtain ⟨i0, ei0⟩ := is_v hg2
  obtain rfl : w0 = (.int i0) := Option.some.inj ei0
  have hw := fun d (hd : d ∈ tables_1) => atoms_spec (ws := Jvm.Cond.code x code maxLocals ret :: tables_1) hat d (List.mem_cons_of_mem _ hd)
  have hfit : Fit s := fun {y c} hc i hi => by
    obtain ⟨ha, rfl⟩ := Array.getElem?_eq_some_iff.mp hc
    have q := List.all_eq_true.mp ((Array.all_eq_true_iff_forall_mem.mp hF) _ (Array.getElem_mem ha)) i (List.mem_range.mpr hi)
    simpa [Array.getElem?_eq_getElem hi] using q
  obtain ⟨hn1, hn2⟩ := and_e hn
  obtain ⟨hn3, hn4⟩ := and_e hn2
  obtain ⟨hn5, hn6⟩ := and_e hn4
  obtain ⟨hn7, hn8⟩ := and_e hn6
  obtain ⟨hn9, hn10⟩ := and_e hn8
  obtain ⟨hn11, hn12⟩ := and_e hn10
  obtain ⟨hn13, hn14⟩ := and_e hn12
  obtain ⟨hn15, hn16⟩ := and_e hn14
  obtain ⟨hn17, hn18⟩ := and_e hn16
  obtain ⟨hn19, hn20⟩ := and_e hn18
  obtain ⟨hn21, hn22⟩ := and_e hn20
  obtain ⟨hn23, hn24⟩ := and_e hn22
  obtain ⟨hn25, hn26⟩ := and_e hn24
  obtain ⟨x_Objective_MAX_RESPONSE, ev_x_Objective_MAX_RESPONSE⟩ := exa_v hn1
  have E_x_Objective_MAX_RESPONSE := Exa.start ev_x_Objective_MAX_RESPONSE hn1
  have S_Objective_MAX_RESPONSE := Sta.start ev_x_Objective_MAX_RESPONSE (Or.inr ⟨(hw _ (List.mem_of_getElem? (i := 6) rfl)), (hw _ (List.mem_of_getElem? (i := 7) rfl))⟩)
  obtain ⟨x_Bottleneck_MAX_RESPONSE, ev_x_Bottleneck_MAX_RESPONSE⟩ := exa_v hn3
  have E_x_Bottleneck_MAX_RESPONSE := Exa.start ev_x_Bottleneck_MAX_RESPONSE hn3
  have S_Bottleneck_MAX_RESPONSE := Sta.start ev_x_Bottleneck_MAX_RESPONSE (Or.inr ⟨(hw _ (List.mem_of_getElem? (i := 15) rfl)), (hw _ (List.mem_of_getElem? (i := 16) rfl))⟩)
  have F_x_Objective_MAX_RESPONSE_bottleneck := own_fld ev_x_Objective_MAX_RESPONSE (own_eqr ev_x_Bottleneck_MAX_RESPONSE hn5)
  obtain ⟨x_Objective_MAX_WEIGHTED_RESPONSE, ev_x_Objective_MAX_WEIGHTED_RESPONSE⟩ := exa_v hn7
  have E_x_Objective_MAX_WEIGHTED_RESPONSE := Exa.start ev_x_Objective_MAX_WEIGHTED_RESPONSE hn7
  have S_Objective_MAX_WEIGHTED_RESPONSE := Sta.start ev_x_Objective_MAX_WEIGHTED_RESPONSE (Or.inr ⟨(hw _ (List.mem_of_getElem? (i := 6) rfl)), (hw _ (List.mem_of_getElem? (i := 23) rfl))⟩)
  obtain ⟨x_Bottleneck_MAX_WEIGHTED_RESPONSE, ev_x_Bottleneck_MAX_WEIGHTED_RESPONSE⟩ := exa_v hn9
  have E_x_Bottleneck_MAX_WEIGHTED_RESPONSE := Exa.start ev_x_Bottleneck_MAX_WEIGHTED_RESPONSE hn9
  have S_Bottleneck_MAX_WEIGHTED_RESPONSE := Sta.start ev_x_Bottleneck_MAX_WEIGHTED_RESPONSE (Or.inr ⟨(hw _ (List.mem_of_getElem? (i := 15) rfl)), (hw _ (List.mem_of_getElem? (i := 24) rfl))⟩)
  have F_x_Objective_MAX_WEIGHTED_RESPONSE_bottleneck := own_fld ev_x_Objective_MAX_WEIGHTED_RESPONSE (own_eqr ev_x_Bottleneck_MAX_WEIGHTED_RESPONSE hn11)
  obtain ⟨x_Objective_TOTAL_FLOW, ev_x_Objective_TOTAL_FLOW⟩ := exa_v hn13
  have E_x_Objective_TOTAL_FLOW := Exa.start ev_x_Objective_TOTAL_FLOW hn13
  have S_Objective_TOTAL_FLOW := Sta.start ev_x_Objective_TOTAL_FLOW (Or.inr ⟨(hw _ (List.mem_of_getElem? (i := 6) rfl)), (hw _ (List.mem_of_getElem? (i := 26) rfl))⟩)
  have F_x_Objective_TOTAL_FLOW_bottleneck := own_fld ev_x_Objective_TOTAL_FLOW (null_v hn15)
  obtain ⟨x_Objective_MAX_WEIGHTED_DELAY_FACTOR, ev_x_Objective_MAX_WEIGHTED_DELAY_FACTOR⟩ := exa_v hn17
  have E_x_Objective_MAX_WEIGHTED_DELAY_FACTOR := Exa.start ev_x_Objective_MAX_WEIGHTED_DELAY_FACTOR hn17
  have S_Objective_MAX_WEIGHTED_DELAY_FACTOR := Sta.start ev_x_Objective_MAX_WEIGHTED_DELAY_FACTOR (Or.inr ⟨(hw _ (List.mem_of_getElem? (i := 6) rfl)), (hw _ (List.mem_of_getElem? (i := 28) rfl))⟩)
  obtain ⟨x_Bottleneck_MAX_WEIGHTED_DELAY_FACTOR, ev_x_Bottleneck_MAX_WEIGHTED_DELAY_FACTOR⟩ := exa_v hn19
  have E_x_Bottleneck_MAX_WEIGHTED_DELAY_FACTOR := Exa.start ev_x_Bottleneck_MAX_WEIGHTED_DELAY_FACTOR hn19
  have S_Bottleneck_MAX_WEIGHTED_DELAY_FACTOR := Sta.start ev_x_Bottleneck_MAX_WEIGHTED_DELAY_FACTOR (Or.inr ⟨(hw _ (List.mem_of_getElem? (i := 15) rfl)), (hw _ (List.mem_of_getElem? (i := 29) rfl))⟩)
  have F_x_Objective_MAX_WEIGHTED_DELAY_FACTOR_bottleneck := own_fld ev_x_Objective_MAX_WEIGHTED_DELAY_FACTOR (own_eqr ev_x_Bottleneck_MAX_WEIGHTED_DELAY_FACTOR hn21)
  obtain ⟨x_Objective_MAX_DELAY_FACTOR, ev_x_Objective_MAX_DELAY_FACTOR⟩ := exa_v hn23
  have E_x_Objective_MAX_DELAY_FACTOR := Exa.start ev_x_Objective_MAX_DELAY_FACTOR hn23
  have S_Objective_MAX_DELAY_FACTOR := Sta.start ev_x_Objective_MAX_DELAY_FACTOR (Or.inr ⟨(hw _ (List.mem_of_getElem? (i := 6) rfl)), (hw _ (List.mem_of_getElem? (i := 31) rfl))⟩)
  obtain ⟨x_Bottleneck_MAX_DELAY_FACTOR, ev_x_Bottleneck_MAX_DELAY_FACTOR⟩ := exa_v hn25
  have E_x_Bottleneck_MAX_DELAY_FACTOR := Exa.start ev_x_Bottleneck_MAX_DELAY_FACTOR hn25
  have S_Bottleneck_MAX_DELAY_FACTOR := Sta.start ev_x_Bottleneck_MAX_DELAY_FACTOR (Or.inr ⟨(hw _ (List.mem_of_getElem? (i := 15) rfl)), (hw _ (List.mem_of_getElem? (i := 32) rfl))⟩)
  have F_x_Objective_MAX_DELAY_FACTOR_bottleneck := own_fld ev_x_Objective_MAX_DELAY_FACTOR (own_eqr ev_x_Bottleneck_MAX_DELAY_FACTOR hn26)
  rcases own_rem5 i0 with hcs | hcs | hcs | hcs | hcs
  · obtain ⟨n, o, h1, h2, h3, _, L, rfl, ⟨rfl, N⟩, hq⟩ := rm_law0 l s _ hw tables_1 i0 x_Objective_MAX_RESPONSE x_Bottleneck_MAX_RESPONSE s.heap s.heap.size (Nat.le_refl _) hcs S_Objective_MAX_RESPONSE E_x_Objective_MAX_RESPONSE F_x_Objective_MAX_RESPONSE_bottleneck p e ha hc hk s m _ below hf ((Spec.applies_iff_loose hf).mp happ).1 ⟨rfl, State.Warmed39.refl s, rfl⟩ trivial
    exact ⟨n, _, h1, h2, h3, hpost _ _ _ _ _ _ ⟨Cond.after_iff.mpr rfl, Cond.after_iff.mpr (eq_i res_at (Term.int_eval (1)) rfl), trivial⟩ ⟨hq.1, hq.2.1, (hq.2.2.sift fun y hy => Or.inr (N y hy)).mono (by decide) (by decide)⟩⟩
  · obtain ⟨n, o, h1, h2, h3, _, L, rfl, ⟨rfl, N⟩, hq⟩ := rm_law1 l s _ hw tables_1 i0 x_Objective_TOTAL_FLOW  s.heap s.heap.size (Nat.le_refl _) hcs S_Objective_TOTAL_FLOW E_x_Objective_TOTAL_FLOW F_x_Objective_TOTAL_FLOW_bottleneck p e ha hc hk s m _ below hf ((Spec.applies_iff_loose hf).mp happ).1 ⟨rfl, State.Warmed39.refl s, rfl⟩ trivial
    exact ⟨n, _, h1, h2, h3, hpost _ _ _ _ _ _ ⟨Cond.after_iff.mpr rfl, Cond.after_iff.mpr (eq_i res_at (Term.int_eval (1)) rfl), trivial⟩ ⟨hq.1, hq.2.1, (hq.2.2.sift fun y hy => Or.inr (N y hy)).mono (by decide) (by decide)⟩⟩
  · obtain ⟨n, o, h1, h2, h3, _, L, rfl, ⟨rfl, N⟩, hq⟩ := rm_law2 l s _ hw tables_1 i0 x_Objective_MAX_DELAY_FACTOR x_Bottleneck_MAX_DELAY_FACTOR s.heap s.heap.size (Nat.le_refl _) hcs S_Objective_MAX_DELAY_FACTOR E_x_Objective_MAX_DELAY_FACTOR F_x_Objective_MAX_DELAY_FACTOR_bottleneck p e ha hc hk s m _ below hf ((Spec.applies_iff_loose hf).mp happ).1 ⟨rfl, State.Warmed39.refl s, rfl⟩ trivial
    exact ⟨n, _, h1, h2, h3, hpost _ _ _ _ _ _ ⟨Cond.after_iff.mpr rfl, Cond.after_iff.mpr (eq_i res_at (Term.int_eval (1)) rfl), trivial⟩ ⟨hq.1, hq.2.1, (hq.2.2.sift fun y hy => Or.inr (N y hy)).mono (by decide) (by decide)⟩⟩
  · obtain ⟨n, o, h1, h2, h3, _, L, rfl, ⟨rfl, N⟩, hq⟩ := rm_law3 l s _ hw tables_1 i0 x_Objective_MAX_WEIGHTED_RESPONSE x_Bottleneck_MAX_WEIGHTED_RESPONSE s.heap s.heap.size (Nat.le_refl _) hcs S_Objective_MAX_WEIGHTED_RESPONSE E_x_Objective_MAX_WEIGHTED_RESPONSE F_x_Objective_MAX_WEIGHTED_RESPONSE_bottleneck p e ha hc hk s m _ below hf ((Spec.applies_iff_loose hf).mp happ).1 ⟨rfl, State.Warmed39.refl s, rfl⟩ trivial
    exact ⟨n, _, h1, h2, h3, hpost _ _ _ _ _ _ ⟨Cond.after_iff.mpr rfl, Cond.after_iff.mpr (eq_i res_at (Term.int_eval (1)) rfl), trivial⟩ ⟨hq.1, hq.2.1, (hq.2.2.sift fun y hy => Or.inr (N y hy)).mono (by decide) (by decide)⟩⟩
  · obtain ⟨n, o, h1, h2, h3, _, L, rfl, ⟨rfl, N⟩, hq⟩ := rm_law4 l s _ hw tables_1 i0 x_Objective_MAX_WEIGHTED_DELAY_FACTOR x_Bottleneck_MAX_WEIGHTED_DELAY_FACTOR s.heap s.heap.size (Nat.le_refl _) hcs S_Objective_MAX_WEIGHTED_DELAY_FACTOR E_x_Objective_MAX_WEIGHTED_DELAY_FACTOR F_x_Objective_MAX_WEIGHTED_DELAY_FACTOR_bottleneck p e ha hc hk s m _ below hf ((Spec.applies_iff_loose hf).mp happ).1 ⟨rfl, State.Warmed39.refl s, rfl⟩ trivial
    exact ⟨n, _, h1, h2, h3, hpost _ _ _ _ _ _ ⟨Cond.after_iff.mpr rfl, Cond.after_iff.mpr (eq_i res_at (Term.int_eval (1)) rfl), trivial⟩ ⟨hq.1, hq.2.1, (hq.2.2.sift fun y hy => Or.inr (N y hy)).mono (by decide) (by decide)⟩⟩
theorem main_1_1 : Claimed_1_1 := comes_1 fun _ _ _ _ _ _ h hF => ⟨h.1, hF⟩
theorem main_1_2 : Claimed_1_2 := comes_1 fun _ _ _ _ _ _ h hF => ⟨h.2.1, hF⟩
end Jvm.Pilot.@@N@@
namespace Jvm.Pilot.@@N@@
open Jvm Jvm.ClassFile Sem Op Lib Jvm.Free Jvm.Stand Jvm.Pilot.@@N@@.Jvm.D
/-! MADE BY PROGRAM (witnessworld.py) out of the Statement's table words and the real class files: 13 classes; the members and pool entries that the words name. The judged class is class 1, her method 1. -/
namespace start1
open Jvm.ClassFile
def u (s : String) : CpInfo := .utf8 (stringToUtf16 s)
/-- a pool by its gaps: so many unusable entries, then the entry; so many at the end -/
def gap : Nat → List CpInfo → List CpInfo
  | 0, r => r
  | n + 1, r => .unusable :: gap n r
def poolList (es : List (Nat × CpInfo)) (last : Nat) : List CpInfo := es.foldr (fun e r => gap e.1 (e.2 :: r)) (gap last [])
def pool (es : List (Nat × CpInfo)) (last : Nat) : Array CpInfo := ⟨poolList es last⟩
def fileOf (pool : Array CpInfo) (this : Nat) (attrs : Array Attribute := #[]) (ms : Array MethodInfo := #[]) (fl : Nat := 33) (sup : Nat := 0) (ifs : Array Nat := #[]) (fds : Array FieldInfo := #[]) : ClassFile where
  minorVersion := 0
  majorVersion := 65
  constantPool := pool
  accessFlags := fl
  thisClass := this
  superClass := sup
  interfaces := ifs
  fields := fds
  methods := ms
  attributes := attrs
def plain (name : String) (sup : Option ClassId) : Class where
  name := name
  kind := .ordinary
  loader := none
  accessFlags := 33
  super := sup
  interfaces := #[]
  cf := none
  fields := #[]
  methods := #[]
  instanceTypes := #[]
  staticTypes := #[]
  resolved := #[]
  callSites := []
  init := .initialized
  statics := none
  mirror := none

def pool0 : Array CpInfo := pool [(5, u "<init>"), (0, u "()V"), (1, .class_ 10), (1, u "java/lang/Object")] 113

def k0m0 : Method := { name := "<init>", desc := "()V", sig := { parameters := [], returnType := none }, accessFlags := 1, code := none }
/-- java/lang/Object -/
def k0 : Class := { plain "java/lang/Object" none with
  accessFlags := 33
  interfaces := #[]
  cf := some (fileOf pool0 8 #[] #[{ accessFlags := 1, nameIndex := 5, descriptorIndex := 6, attributes := #[] }] 33 0 #[] #[])
  fields := #[]
  methods := #[k0m0]
  instanceTypes := #[]
  staticTypes := #[]
  resolved := Array.replicate 124 none
  statics := none }

def pool1 : Array CpInfo := pool [(2, .class_ 4), (1, u "java/lang/Object"), (0, u "<init>"), (0, u "()V"), (0, .integer 2147483647), (0, .methodref 9 10), (0, .class_ 11), (0, .nameAndType 12 13), (0, u "com/example/pagewave/pagewave/ObjectiveHasLowerBoundPinLaw"), (0, u "pick"), (0, u "(I)Lcom/example/pagewave/pagewave/Objective;"), (0, .methodref 15 16), (0, .class_ 17), (0, .nameAndType 18 19), (0, u "com/example/pagewave/pagewave/Objective"), (0, u "hasLowerBound"), (0, u "()Z"), (0, .methodref 15 21), (0, .nameAndType 22 19), (0, u "hasModel"), (0, .fieldref 15 24), (0, .nameAndType 25 26), (0, u "MAX_RESPONSE"), (0, u "Lcom/example/pagewave/pagewave/Objective;"), (0, .fieldref 15 28), (0, .nameAndType 29 26), (0, u "TOTAL_FLOW"), (0, .fieldref 15 31), (0, .nameAndType 32 26), (0, u "MAX_DELAY_FACTOR"), (0, .fieldref 15 34), (0, .nameAndType 35 26), (0, u "MAX_WEIGHTED_RESPONSE"), (0, .fieldref 15 37), (0, .nameAndType 38 26), (0, u "MAX_WEIGHTED_DELAY_FACTOR"), (2, u "law"), (0, u "(I)Z")] 3

def k1m0 : Method := { name := "<init>", desc := "()V", sig := { parameters := [], returnType := none }, accessFlags := 1, code := none }
def k1c1 : Code := { maxStack := 2, maxLocals := 5, code := code, exceptionTable := #[], attributes := #[] }
def k1m1 : Method := { name := "law", desc := "(I)Z", sig := { parameters := [.int], returnType := some .boolean }, accessFlags := 9, code := some k1c1 }
def k1c2 : Code := { maxStack := 2, maxLocals := 1, code := method_3_code, exceptionTable := #[], attributes := #[] }
def k1m2 : Method := { name := "pick", desc := "(I)Lcom/example/pagewave/pagewave/Objective;", sig := { parameters := [.int], returnType := some (.object "com/example/pagewave/pagewave/Objective") }, accessFlags := 10, code := some k1c2 }
/-- com/example/pagewave/pagewave/ObjectiveHasLowerBoundPinLaw -/
def k1 : Class := { plain "com/example/pagewave/pagewave/ObjectiveHasLowerBoundPinLaw" (some 0) with
  accessFlags := 49
  interfaces := #[]
  cf := some (fileOf pool1 9 #[] #[{ accessFlags := 1, nameIndex := 5, descriptorIndex := 6, attributes := #[] }, { accessFlags := 9, nameIndex := 41, descriptorIndex := 42, attributes := #[] }, { accessFlags := 10, nameIndex := 12, descriptorIndex := 13, attributes := #[] }] 49 2 #[] #[])
  fields := #[]
  methods := #[k1m0, k1m1, k1m2]
  instanceTypes := #[]
  staticTypes := #[]
  resolved := Array.replicate 46 none
  statics := none }

def pool2 : Array CpInfo := pool [(1, .class_ 2), (0, u "java/lang/constant/Constable"), (0, .class_ 4), (0, u "java/lang/Object")] 6

/-- java/lang/constant/Constable -/
def k2 : Class := { plain "java/lang/constant/Constable" (some 0) with
  accessFlags := 1537
  interfaces := #[]
  cf := some (fileOf pool2 1 #[] #[] 1537 3 #[] #[])
  fields := #[]
  methods := #[]
  instanceTypes := #[]
  staticTypes := #[]
  resolved := Array.replicate 11 none
  statics := none }

def pool3 : Array CpInfo := pool [(1, .class_ 2), (0, u "java/lang/Comparable"), (0, .class_ 4), (0, u "java/lang/Object")] 7

/-- java/lang/Comparable -/
def k3 : Class := { plain "java/lang/Comparable" (some 0) with
  accessFlags := 1537
  interfaces := #[]
  cf := some (fileOf pool3 1 #[] #[] 1537 3 #[] #[])
  fields := #[]
  methods := #[]
  instanceTypes := #[]
  staticTypes := #[]
  resolved := Array.replicate 12 none
  statics := none }

def pool4 : Array CpInfo := pool [(1, .class_ 2), (0, u "java/io/Serializable"), (0, .class_ 4), (0, u "java/lang/Object")] 2

/-- java/io/Serializable -/
def k4 : Class := { plain "java/io/Serializable" (some 0) with
  accessFlags := 1537
  interfaces := #[]
  cf := some (fileOf pool4 1 #[] #[] 1537 3 #[] #[])
  fields := #[]
  methods := #[]
  instanceTypes := #[]
  staticTypes := #[]
  resolved := Array.replicate 7 none
  statics := none }

def pool5 : Array CpInfo := pool [(2, .class_ 4), (1, u "java/lang/Enum"), (0, u "name"), (0, u "Ljava/lang/String;"), (2, u "ordinal"), (0, u "I"), (1, .class_ 14), (1, u "java/lang/Object"), (4, u "hash"), (86, .class_ 108), (1, u "java/lang/Enum$EnumDesc"), (2, .class_ 112), (0, u "java/lang/constant/Constable"), (0, .class_ 114), (0, u "java/lang/Comparable"), (0, .class_ 116), (0, u "java/io/Serializable")] 87

/-- java/lang/Enum -/
def k5 : Class := { plain "java/lang/Enum" (some 0) with
  accessFlags := 1057
  interfaces := #[2, 3, 4]
  cf := some (fileOf pool5 2 #[.nestMembers #[106]] #[] 1057 12 #[111, 113, 115] #[{ accessFlags := 18, nameIndex := 5, descriptorIndex := 6, attributes := #[] }, { accessFlags := 18, nameIndex := 9, descriptorIndex := 10, attributes := #[] }, { accessFlags := 2, nameIndex := 19, descriptorIndex := 10, attributes := #[] }])
  fields := #[{ name := "name", type := (.object "java/lang/String"), accessFlags := 18, slot := 0, constantValue := 0 }, { name := "ordinal", type := .int, accessFlags := 18, slot := 1, constantValue := 0 }, { name := "hash", type := .int, accessFlags := 2, slot := 2, constantValue := 0 }]
  methods := #[]
  instanceTypes := #[(.object "java/lang/String"), .int, .int]
  staticTypes := #[]
  resolved := Array.replicate 204 none
  statics := none }

def pool6 : Array CpInfo := pool [(1, .class_ 2), (0, u "com/example/pagewave/pagewave/Objective"), (2, u "MAX_RESPONSE"), (0, u "Lcom/example/pagewave/pagewave/Objective;"), (2, u "TOTAL_FLOW"), (2, u "MAX_DELAY_FACTOR"), (2, u "MAX_WEIGHTED_RESPONSE"), (2, u "MAX_WEIGHTED_DELAY_FACTOR"), (2, u "$VALUES"), (0, u "[Lcom/example/pagewave/pagewave/Objective;"), (6, .class_ 31), (1, u "java/lang/Enum"), (8, u "label"), (0, u "Ljava/lang/String;"), (0, .fieldref 1 43), (0, .nameAndType 44 45), (0, u "bottleneck"), (0, u "Lcom/example/pagewave/pagewave/Bottleneck;"), (24, u "hasLowerBound"), (0, u "()Z"), (15, u "hasModel"), (98, .class_ 187), (0, u "com/example/pagewave/pagewave/Objective$Converter")] 18

def k6c0 : Code := { maxStack := 1, maxLocals := 1, code := prog_37_method_6_code, exceptionTable := #[], attributes := #[] }
def k6m0 : Method := { name := "hasLowerBound", desc := "()Z", sig := { parameters := [], returnType := some .boolean }, accessFlags := 0, code := some k6c0 }
def k6c1 : Code := { maxStack := 1, maxLocals := 1, code := prog_37_method_8_code, exceptionTable := #[], attributes := #[] }
def k6m1 : Method := { name := "hasModel", desc := "()Z", sig := { parameters := [], returnType := some .boolean }, accessFlags := 0, code := some k6c1 }
/-- com/example/pagewave/pagewave/Objective -/
def k6 : Class := { plain "com/example/pagewave/pagewave/Objective" (some 5) with
  accessFlags := 16432
  interfaces := #[]
  cf := some (fileOf pool6 1 #[.nestMembers #[186]] #[{ accessFlags := 0, nameIndex := 70, descriptorIndex := 71, attributes := #[] }, { accessFlags := 0, nameIndex := 87, descriptorIndex := 71, attributes := #[] }] 16432 29 #[] #[{ accessFlags := 16409, nameIndex := 5, descriptorIndex := 6, attributes := #[] }, { accessFlags := 16409, nameIndex := 9, descriptorIndex := 6, attributes := #[] }, { accessFlags := 16409, nameIndex := 12, descriptorIndex := 6, attributes := #[] }, { accessFlags := 16409, nameIndex := 15, descriptorIndex := 6, attributes := #[] }, { accessFlags := 16409, nameIndex := 18, descriptorIndex := 6, attributes := #[] }, { accessFlags := 18, nameIndex := 40, descriptorIndex := 41, attributes := #[] }, { accessFlags := 18, nameIndex := 44, descriptorIndex := 45, attributes := #[] }, { accessFlags := 4122, nameIndex := 21, descriptorIndex := 22, attributes := #[] }])
  fields := #[{ name := "MAX_RESPONSE", type := (.object "com/example/pagewave/pagewave/Objective"), accessFlags := 16409, slot := 0, constantValue := 0 }, { name := "TOTAL_FLOW", type := (.object "com/example/pagewave/pagewave/Objective"), accessFlags := 16409, slot := 1, constantValue := 0 }, { name := "MAX_DELAY_FACTOR", type := (.object "com/example/pagewave/pagewave/Objective"), accessFlags := 16409, slot := 2, constantValue := 0 }, { name := "MAX_WEIGHTED_RESPONSE", type := (.object "com/example/pagewave/pagewave/Objective"), accessFlags := 16409, slot := 3, constantValue := 0 }, { name := "MAX_WEIGHTED_DELAY_FACTOR", type := (.object "com/example/pagewave/pagewave/Objective"), accessFlags := 16409, slot := 4, constantValue := 0 }, { name := "label", type := (.object "java/lang/String"), accessFlags := 18, slot := 3, constantValue := 0 }, { name := "bottleneck", type := (.object "com/example/pagewave/pagewave/Bottleneck"), accessFlags := 18, slot := 4, constantValue := 0 }, { name := "$VALUES", type := (.array (.object "com/example/pagewave/pagewave/Objective")), accessFlags := 4122, slot := 5, constantValue := 0 }]
  methods := #[k6m0, k6m1]
  instanceTypes := #[(.object "java/lang/String"), .int, .int, (.object "java/lang/String"), (.object "com/example/pagewave/pagewave/Bottleneck")]
  staticTypes := #[(.object "com/example/pagewave/pagewave/Objective"), (.object "com/example/pagewave/pagewave/Objective"), (.object "com/example/pagewave/pagewave/Objective"), (.object "com/example/pagewave/pagewave/Objective"), (.object "com/example/pagewave/pagewave/Objective"), (.array (.object "com/example/pagewave/pagewave/Objective"))]
  resolved := Array.replicate 206 none
  statics := some 0 }

def pool7 : Array CpInfo := pool [(1, .class_ 2), (0, u "com/example/pagewave/pagewave/Bottleneck"), (2, u "MAX_RESPONSE"), (0, u "Lcom/example/pagewave/pagewave/Bottleneck;"), (2, u "MAX_DELAY_FACTOR"), (2, u "MAX_WEIGHTED_RESPONSE"), (2, u "MAX_WEIGHTED_DELAY_FACTOR"), (2, u "$VALUES"), (0, u "[Lcom/example/pagewave/pagewave/Bottleneck;"), (6, .class_ 28), (1, u "java/lang/Enum"), (8, u "slacks"), (0, u "Z"), (2, u "weights")] 86

/-- com/example/pagewave/pagewave/Bottleneck -/
def k7 : Class := { plain "com/example/pagewave/pagewave/Bottleneck" (some 5) with
  accessFlags := 16433
  interfaces := #[]
  cf := some (fileOf pool7 1 #[] #[] 16433 26 #[] #[{ accessFlags := 16409, nameIndex := 5, descriptorIndex := 6, attributes := #[] }, { accessFlags := 16409, nameIndex := 9, descriptorIndex := 6, attributes := #[] }, { accessFlags := 16409, nameIndex := 12, descriptorIndex := 6, attributes := #[] }, { accessFlags := 16409, nameIndex := 15, descriptorIndex := 6, attributes := #[] }, { accessFlags := 18, nameIndex := 37, descriptorIndex := 38, attributes := #[] }, { accessFlags := 18, nameIndex := 41, descriptorIndex := 38, attributes := #[] }, { accessFlags := 4122, nameIndex := 18, descriptorIndex := 19, attributes := #[] }])
  fields := #[{ name := "MAX_RESPONSE", type := (.object "com/example/pagewave/pagewave/Bottleneck"), accessFlags := 16409, slot := 0, constantValue := 0 }, { name := "MAX_DELAY_FACTOR", type := (.object "com/example/pagewave/pagewave/Bottleneck"), accessFlags := 16409, slot := 1, constantValue := 0 }, { name := "MAX_WEIGHTED_RESPONSE", type := (.object "com/example/pagewave/pagewave/Bottleneck"), accessFlags := 16409, slot := 2, constantValue := 0 }, { name := "MAX_WEIGHTED_DELAY_FACTOR", type := (.object "com/example/pagewave/pagewave/Bottleneck"), accessFlags := 16409, slot := 3, constantValue := 0 }, { name := "slacks", type := .boolean, accessFlags := 18, slot := 3, constantValue := 0 }, { name := "weights", type := .boolean, accessFlags := 18, slot := 4, constantValue := 0 }, { name := "$VALUES", type := (.array (.object "com/example/pagewave/pagewave/Bottleneck")), accessFlags := 4122, slot := 4, constantValue := 0 }]
  methods := #[]
  instanceTypes := #[(.object "java/lang/String"), .int, .int, .boolean, .boolean]
  staticTypes := #[(.object "com/example/pagewave/pagewave/Bottleneck"), (.object "com/example/pagewave/pagewave/Bottleneck"), (.object "com/example/pagewave/pagewave/Bottleneck"), (.object "com/example/pagewave/pagewave/Bottleneck"), (.array (.object "com/example/pagewave/pagewave/Bottleneck"))]
  resolved := Array.replicate 128 none
  statics := some 1 }

def pool8 : Array CpInfo := pool [(1, u "java/lang/Cloneable"), (0, .class_ 1), (0, u "java/lang/Object"), (0, .class_ 3)] 3

/-- java/lang/Cloneable -/
def k8 : Class := { plain "java/lang/Cloneable" (some 0) with
  accessFlags := 1537
  interfaces := #[]
  cf := some (fileOf pool8 2 #[] #[] 1537 4 #[] #[])
  fields := #[]
  methods := #[]
  instanceTypes := #[]
  staticTypes := #[]
  resolved := Array.replicate 8 none
  statics := none }

/-- the primitive byte -/
def k9 : Class := { plain "byte" none with kind := .primitive 'B', accessFlags := 0x411 }
/-- [B -/
def k10 : Class := { plain "[B" (some 0) with kind := .array 9 .byte, interfaces := #[8, 4], accessFlags := 1041 }

/-- the primitive int -/
def k11 : Class := { plain "int" none with kind := .primitive 'I', accessFlags := 0x411 }
/-- [I -/
def k12 : Class := { plain "[I" (some 0) with kind := .array 11 .int, interfaces := #[8, 4], accessFlags := 1041 }

def heap : Heap := #[{ cls := 6, slots := #[.ref 2, .ref 6, .ref 9, .ref 4, .ref 7, .null], vm := .statics 6 },
  { cls := 7, slots := #[.ref 3, .ref 10, .ref 5, .ref 8, .null], vm := .statics 7 },
  { cls := 6, slots := #[.null, .int 0, .int 0, .null, .ref 3], vm := .none },
  { cls := 7, slots := #[.null, .int 0, .int 0, .int 0, .int 0], vm := .none },
  { cls := 6, slots := #[.null, .int 0, .int 0, .null, .ref 5], vm := .none },
  { cls := 7, slots := #[.null, .int 0, .int 0, .int 0, .int 0], vm := .none },
  { cls := 6, slots := #[.null, .int 0, .int 0, .null, .null], vm := .none },
  { cls := 6, slots := #[.null, .int 0, .int 0, .null, .ref 8], vm := .none },
  { cls := 7, slots := #[.null, .int 0, .int 0, .int 0, .int 0], vm := .none },
  { cls := 6, slots := #[.null, .int 0, .int 0, .null, .ref 10], vm := .none },
  { cls := 7, slots := #[.null, .int 0, .int 0, .int 0, .int 0], vm := .none }]
def classes : Array Class := #[k0, k1, k2, k3, k4, k5, k6, k7, k8, k9, k10, k11, k12]
def interned : List (Array UInt16 × Addr) := []
def slotsUsed : Nat := 56
def theMethod : MethodId := ⟨1, 1⟩
def args0 : Array Value := #[.int 5]
def aboutOver (below : List Frame) : State where
  vm := { classes := classes, interned := interned.toArray }
  heap := heap
  slotsUsed := slotsUsed
  threads := #[{ frames := .invoking theMethod args0 :: below }]
def below0 : List Frame := [.native { method := ⟨0, 0⟩, args := #[] }]
def about1 : State := aboutOver below0
def p0 : Program := .bare "" "" ""
def e0 : Env := launch0.env 0 0 0
theorem w_frames : about1.frames = Frame.invoking theMethod args0 :: below0 := rfl
set_option maxRecDepth 65536 in
theorem w_args : argsFit about1.vm theMethod args0 = true := by decide +kernel
set_option maxRecDepth 65536 in
theorem w_heap : heapFits about1 = true := by decide +kernel
set_option maxRecDepth 65536 in
theorem w_runnable : about1.curStatus? = some .runnable := by decide +kernel
set_option maxRecDepth 65536 in
theorem w_alone : about1.alone = true := by decide +kernel
set_option maxRecDepth 65536 in
theorem w_named : about1.methodNamed? x = some theMethod := by decide +kernel
set_option maxRecDepth 65536 in
theorem w_hears : about1.hears theMethod below0 = true := by decide +kernel
set_option maxRecDepth 65536 in
theorem w_ripe : about1.ripe theMethod args0 below0 = true := by decide +kernel
theorem w_running : about1.status = .running := rfl
set_option maxRecDepth 65536 in
theorem w_room : about1.hasRoom e0.platform room_1 = true :=
  launch0.hasRoom_least _ room_1 (by decide +kernel) (by decide +kernel) (by decide +kernel) (by decide +kernel) (by decide +kernel) (by decide +kernel)
theorem allAtoms_all (ts : List Jvm.Cond) (a : Array Jvm.Value) (st : Jvm.State) : (allAtoms ts).before a st = ts.all (fun c => c.before a st) := by
  induction ts with
  | nil => rfl
  | cons c t ih =>
    show (Jvm.Cond.and c (allAtoms t)).before a st = _
    rw [Jvm.Cond.before_and, ih, List.all_cons]
def words1 : List Jvm.Cond := Jvm.Cond.code x code maxLocals ret :: tables_1
/-- a 'code' word, met by the world's own term for the bytes: nothing is compared byte by byte -/
theorem code_word {y : MethodName} {bytes : ByteArray} {mx : Nat} {rt : Option FieldType} {a : Array Value} {s : State} {m : MethodId} {meth : Method} {c : Code} (h1 : s.methodNamed? y = some m) (h2 : s.vm.method? m = some meth) (h3 : meth.code = some c) (h4 : c.code = bytes)
    (h5 : (c.maxLocals == mx && c.exceptionTable.isEmpty && decide (c.maxStack ≤ mostOperands) && decide (meth.sig.returnType = rt) && !meth.locks && decide (parseMethodDescriptor y.desc = some meth.sig)) = true) : (Jvm.Cond.code y bytes mx rt).before a s = true := by
  simp only [Bool.and_eq_true, beq_iff_eq, Bool.not_eq_true', decide_eq_true_eq] at h5
  obtain ⟨⟨⟨⟨⟨g1, g2⟩, g3⟩, g4⟩, g5⟩, g6⟩ := h5
  simp [Cond.before, Cond.holds, Cond.value, h1, h2, h3, h4, g1, g2, g3, g4, g5, g6]
def isCode : Jvm.Cond → Bool
  | .code _ _ _ _ => true
  | _ => false
theorem all_split {L : List Jvm.Cond} {P : Jvm.Cond → Bool} (h1 : L.all (fun c => isCode c || P c) = true) (h2 : ∀ c ∈ L.filter isCode, P c = true) : L.all P = true := by
  refine List.all_eq_true.mpr fun c hc => ?_
  have h := List.all_eq_true.mp h1 c hc
  rcases Bool.eq_false_or_eq_true (isCode c) with hi | hi
  · exact h2 c (List.mem_filter.mpr ⟨hc, hi⟩)
  · simpa [hi] using h
set_option maxRecDepth 65536 in
theorem w_c0 : (Jvm.Cond.code x code maxLocals ret).before args0 about1 = true := code_word (m := ⟨1, 1⟩) (meth := k1m1) (c := k1c1) (by decide +kernel) rfl rfl rfl (by decide +kernel)
set_option maxRecDepth 65536 in
theorem w_c1 : (Jvm.Cond.code ({ cls := "com/example/pagewave/pagewave/ObjectiveHasLowerBoundPinLaw", name := "pick", desc := "(I)Lcom/example/pagewave/pagewave/Objective;" } : Jvm.MethodName) method_3_code (1 : Nat) (Option.some (Jvm.ClassFile.FieldType.object "com/example/pagewave/pagewave/Objective"))).before args0 about1 = true := code_word (m := ⟨1, 2⟩) (meth := k1m2) (c := k1c2) (by decide +kernel) rfl rfl rfl (by decide +kernel)
set_option maxRecDepth 65536 in
theorem w_c2 : (Jvm.Cond.code ({ cls := "com/example/pagewave/pagewave/Objective", name := "hasLowerBound", desc := "()Z" } : Jvm.MethodName) prog_37_method_6_code (1 : Nat) (Option.some Jvm.ClassFile.FieldType.boolean)).before args0 about1 = true := code_word (m := ⟨6, 0⟩) (meth := k6m0) (c := k6c0) (by decide +kernel) rfl rfl rfl (by decide +kernel)
set_option maxRecDepth 65536 in
theorem w_c3 : (Jvm.Cond.code ({ cls := "com/example/pagewave/pagewave/Objective", name := "hasModel", desc := "()Z" } : Jvm.MethodName) prog_37_method_8_code (1 : Nat) (Option.some Jvm.ClassFile.FieldType.boolean)).before args0 about1 = true := code_word (m := ⟨6, 1⟩) (meth := k6m1) (c := k6c1) (by decide +kernel) rfl rfl rfl (by decide +kernel)
def codes1 : List Jvm.Cond := [Jvm.Cond.code x code maxLocals ret, Jvm.Cond.code ({ cls := "com/example/pagewave/pagewave/ObjectiveHasLowerBoundPinLaw", name := "pick", desc := "(I)Lcom/example/pagewave/pagewave/Objective;" } : Jvm.MethodName) method_3_code (1 : Nat) (Option.some (Jvm.ClassFile.FieldType.object "com/example/pagewave/pagewave/Objective")), Jvm.Cond.code ({ cls := "com/example/pagewave/pagewave/Objective", name := "hasLowerBound", desc := "()Z" } : Jvm.MethodName) prog_37_method_6_code (1 : Nat) (Option.some Jvm.ClassFile.FieldType.boolean), Jvm.Cond.code ({ cls := "com/example/pagewave/pagewave/Objective", name := "hasModel", desc := "()Z" } : Jvm.MethodName) prog_37_method_8_code (1 : Nat) (Option.some Jvm.ClassFile.FieldType.boolean)]
set_option maxRecDepth 65536 in
theorem codes_eq : words1.filter isCode = codes1 := rfl
theorem w_codes : ∀ c ∈ words1.filter isCode, c.before args0 about1 = true := by
  rw [codes_eq]
  intro c hc
  simp only [codes1, List.mem_cons, List.not_mem_nil, or_false] at hc
  rcases hc with rfl | rfl | rfl | rfl
  · exact w_c0
  · exact w_c1
  · exact w_c2
  · exact w_c3
set_option maxRecDepth 65536 in
theorem w_t1 : (words1.take 24).all (fun c => isCode c || c.before args0 about1) = true := by decide +kernel
set_option maxRecDepth 65536 in
theorem w_t2 : (words1.drop 24).all (fun c => isCode c || c.before args0 about1) = true := by decide +kernel
theorem w_tables : (allAtoms (Jvm.Cond.code x code maxLocals ret :: tables_1)).before args0 about1 = true := by
  rw [allAtoms_all]
  show words1.all (fun c => c.before args0 about1) = true
  refine all_split ?_ w_codes
  rw [← List.take_append_drop 24 words1, List.all_append, w_t1, w_t2]
  rfl
set_option maxRecDepth 65536 in
theorem w_case : (Jvm.Cond.and given_1 narrow_1).before args0 about1 = true := by decide +kernel
theorem w_applies : (headSpec (Jvm.Cond.code x code maxLocals ret :: tables_1) room_1).applies x e0.platform about1 = true :=
  (Spec.applies_iff w_frames).mpr ⟨w_running, w_runnable, w_alone, w_named, w_hears, w_ripe, w_room, w_tables⟩
theorem atStart : AtStart classFile x code maxLocals ret World_1 tables_1 room_1 Calls_1 rest_1 Pre_1 launch0 p0 e0 about1 theMethod args0 below0 :=
  ⟨lists_1, trivial, launch0.admits_env _ _ _, launch0.least_env, fairChoices_fair.cas, fairChoices_fair.clock, w_frames, w_args, w_heap, w_applies, trivial, trivial, w_case⟩
end start1
theorem witness_1 : WitnessClaimed_1 := ⟨start1.p0, start1.e0, start1.about1, start1.theMethod, start1.args0, start1.below0, start1.atStart⟩
end Jvm.Pilot.@@N@@
