import JvmDerived
import JvmDerived.Pilot.@@N@@Statement
import JvmDerived.Pilot.@@N@@Code
set_option linter.unusedVariables false
set_option linter.unusedSimpArgs false
namespace Jvm.RoadKit
open Sem ClassFile Op Lib Jvm.Stand Jvm.Free Jvm.LawKit
section New
variable {p : Program} {l : Launch} {e : Env} {R : Room} {s : State} {m : MethodId} {args : Array Value} {below : List Frame} {meth : Method} {c : Code} {T : State} {locs : List Loc} {cells slots : Nat}
theorem retI (X : Stand p l e R s m args below meth c T locs cells slots) (hx : p.tables.exec = Jvm.exec) {pc : Nat} {Ls : Array Slot} {z : Int32} {rest : List Value} (hret : meth.sig.returnType = some .int) (hd : decode c.code pc = .ok (.ireturn, 1)) {fs : List Frame}
    (hl : ∀ (f : JFrame) (acts : List Action), f.method = m → f.locked = none → f.entered = [] → (doReturn e (T.setTop f) acts (some (.int z))).1 = T.setFrames fs) : Steps p.tables e below (T.setTop (mkF m pc Ls (.int z :: rest))) (T.setFrames fs) := by
  have hm' : T.vm.method? m = some meth := X.method'
  have hn : narrow .int (.int z) = .int z := rfl
  show Steps p.tables e below (T.setTop { method := m, pc := pc, locals := Ls, stack := _ :: rest, locked := none }) _
  jvm_step X.here [X.here.top, hx, hd, hm', hret, hn]
  first | (intro acts; rw [hl _ acts rfl rfl rfl]) | rw [hl _ _ rfl rfl rfl]
  exact Steps.refl _
end New
end Jvm.RoadKit
@@BLOCK:NumsL.lean.txt@@
namespace Jvm.Pilot.@@N@@
open Jvm Jvm.ClassFile Sem Op Lib Jvm.Free Jvm.Stand Jvm.LawKit Jvm.RoadKit Bundle Jvm.Pilot.@@N@@.Jvm.D
theorem own_eqi {args : Array Value} {first s : State} {o : Option Outcome} {idx : List Nat} {t : Term} {k : Int32} (h : (Jvm.Cond.eq t (.int k)).value args first o s idx = some true) : t.eval args first o idx s = some (.int k) := by
  simp only [Cond.value, Term.eval] at h
  cases ht : t.eval args first o idx s with
  | none => simp [ht] at h
  | some x => cases x <;> simp [ht] at h ⊢; exact h
theorem own_eql {args : Array Value} {first s : State} {o : Option Outcome} {idx : List Nat} {t : Term} {k : Int64} (h : (Jvm.Cond.eq t (.long k)).value args first o s idx = some true) : t.eval args first o idx s = some (.long k) := by
  simp only [Cond.value, Term.eval] at h
  cases ht : t.eval args first o idx s with
  | none => simp [ht] at h
  | some x => cases x <;> simp [ht] at h ⊢; exact h
theorem own_eqr {args : Array Value} {first s : State} {o : Option Outcome} {idx : List Nat} {t u : Term} {a : Addr} (hu : u.eval args first o idx s = some (.ref a)) (h : (Jvm.Cond.eq t u).value args first o s idx = some true) : t.eval args first o idx s = some (.ref a) := by
  simp only [Cond.value, hu] at h
  cases ht : t.eval args first o idx s with
  | none => simp [ht] at h
  | some x => cases x <;> simp [ht] at h ⊢; exact h
theorem own_fld {args : Array Value} {s : State} {t : Term} {x : Addr} {C n d : String} {v : Value} (ht : t.eval args s none [] s = some (.ref x)) (h : (Term.field t C n d).eval args s none [] s = some v) : Fld s s.heap x C n d v := Fld.start ((fld_at ht).symm.trans h)
theorem own_exa_ns {Z : State} {h : Heap} {a : Addr} {C : String} (F : Exa Z h a C) : ∀ c : Cell, h[a]? = some c → c.vm.isStatics = false := fun c hc => by
  obtain ⟨cell, k, h1, -, -, h4, -⟩ := F
  cases h1.symm.trans hc
  exact h4
theorem own_sta_keep {Z : State} {h h' : Heap} {C n d : String} {v : Value} {ws : List Addr} (F : Sta Z h C n d v) (K : Keep h h' ws) (hn : ∀ x ∈ ws, ∀ c : Cell, h[x]? = some c → c.vm.isStatics = false) : Sta Z h' C n d v := by
  obtain ⟨cf, i, k, f, st, cell, h1, h2, h3, h4, h5, h6, h7⟩ := F
  refine ⟨cf, i, k, f, st, cell, h1, h2, h3, h4, K.2.1 st cell h5 (fun q => ?_), h6, h7⟩
  rw [hn st q cell h5] at h6
  cases h6
theorem d_method_2_0 : decode method_2_code 0 = .ok (.iload_n 0, 1) := by decide +kernel
theorem d_method_2_1 : decode method_2_code 1 = .ok (.ifCond .ne 7, 3) := by decide +kernel
theorem d_method_2_4 : decode method_2_code 4 = .ok (.getstatic 7, 3) := by decide +kernel
theorem d_method_2_7 : decode method_2_code 7 = .ok (.areturn, 1) := by decide +kernel
theorem pn_0 : plainName "com/example/querent/querent/engine/TruthAndPinLaw" = true := by first | (simp [plainName, overriddenIn]; done) | decide +kernel
theorem ef_pick0 (mM : MethodId) (x0 : Int32) : entryFrame mM #[(.int x0)] 1 = mkF mM 0 #[.val (.int x0)] [] := by first | (simp [entryFrame, mkF, argsToLocals, Value.category]; done) | rfl
def Q_pick0 (Z : State) (r : Addr) (h0 : Heap) (n0 : Nat) (v_ : Option Value) (h_ : Heap) (L_ : List Loc) : Prop := v_ = some (.ref r) ∧ Fr n0 L_ ∧ h_ = h0
set_option maxRecDepth 65536 in
set_option maxHeartbeats 40000000 in
theorem rm_pick0 (l : Launch) (Z : State) (a0 : Array Value) (hw : ∀ d ∈ tables_1, d.before a0 Z = true) (ws : List Jvm.Cond) (r : Addr) (h0 : Heap) (n0 : Nat) (Z0 : n0 ≤ h0.size) (S_Truth_FALSE : Sta Z h0 "com/example/querent/querent/engine/Truth" "FALSE" "Lcom/example/querent/querent/engine/Truth;" (.ref r)) :
    MetFree l (⟨"com/example/querent/querent/engine/TruthAndPinLaw", "pick", "(I)Lcom/example/querent/querent/engine/Truth;"⟩ : MethodName) (head1 (Jvm.Cond.code (⟨"com/example/querent/querent/engine/TruthAndPinLaw", "pick", "(I)Lcom/example/querent/querent/engine/Truth;"⟩ : MethodName) method_2_code 1 (some (.object "com/example/querent/querent/engine/Truth")) :: ws) ({ frames := 0, cells := 0, slots := 0, locals := 0 } : Room)) (fun aa_ U_ => aa_ = #[(.int (0 : Int32))] ∧ Z.Warmed39 U_.vm ∧ U_.heap = h0) (fun _ _ _ _ _ => True) (fun _ U_ o_ U'_ => ∃ v_ L_, o_ = .returned v_ ∧ Q_pick0 Z r h0 n0 v_ U'_.heap L_ ∧ FrameEnd U_ o_ U'_ L_ ({ frames := 0, cells := 0, slots := 0, locals := 0 } : Room).cells ({ frames := 0, cells := 0, slots := 0, locals := 0 } : Room).slots) := by
  refine MetFree.of_bodySF (plainFor_of_name pn_0) hisR ?_
  intro pP eE sS mM argsA below meth cC s₁ Bd hml0 hP hK
  obtain ⟨rfl, hZ, hh⟩ := hP
  have hx := Bd.exec
  have hby := Bd.bytes
  have hml : cC.maxLocals = 1 := hml0
  have hown : sS.vm.findClass "com/example/querent/querent/engine/TruthAndPinLaw" = some mM.cls := findClass_of_methodNamed Bd.named
  have hnm := (name_of_methodNamed Bd.named Bd.method).1
  have X0 : Stand pP l eE ({ frames := 0, cells := 0, slots := 0, locals := 0 } : Room) sS mM #[(.int (0 : Int32))] below meth cC s₁ [] 0 0 := Stand.of_body Bd
  have e0 : s₁.heap = h0 := by rw [← hh, Bd.state]; rfl
  have N0 := Fr.nil n0
  have pre0 : ∀ t_, Steps pP.tables eE below (s₁.setTop (mkF mM 0 #[.val (.int (0 : Int32))] [])) t_ → Steps pP.tables eE below (s₁.setTop (entryFrame mM #[(.int (0 : Int32))] 1)) t_ := fun t_ k_ => castTop (ef_pick0 mM (0 : Int32)) k_
  obtain ⟨T_1, X_1, e_1, st_1⟩ := getS2 X0 hx hZ hown (host := "") (Or.inl (hw _ (List.mem_of_getElem? (i := 5) rfl))) Via.refl e0 S_Truth_FALSE (g := (mkF mM 4 #[.val (.int (0 : Int32))] [])) rfl (hb hby d_method_2_4)
  obtain ⟨fs, hr, hrun, hended, hW, hsame⟩ := X_1.leave (v := some (.ref r)) (fun h => by rw [Bd.returns] at h; cases h)
  refine ⟨_, _, pre0 _ ?_, hrun, hended, _, _, rfl, ?_, ⟨_, rfl⟩, hW, hsame.mono (by decide) (by decide)⟩
  · show Steps pP.tables eE below (s₁.setTop (mkF mM 0 #[.val (.int (0 : Int32))] [])) _
    refine XS.iloadN X0.here hx rfl (hb hby d_method_2_0) rfl ?_
    show Steps pP.tables eE below (s₁.setTop (mkF mM 1 #[.val (.int (0 : Int32))] [(.int (0 : Int32))])) _
    refine XS.ifNo X0.here hx rfl (hb hby d_method_2_1) rfl (by decide) ?_
    show Steps pP.tables eE below (s₁.setTop (mkF mM 4 #[.val (.int (0 : Int32))] [])) _
    refine st_1 _ ?_
    show Steps pP.tables eE below (T_1.setTop (mkF mM 7 #[.val (.int (0 : Int32))] [(.ref r)])) _
    exact retOut X_1 hx Bd.returns rfl (Or.inr (Or.inr (Or.inr (Or.inr ⟨rfl, rfl, rfl⟩)))) (hb hby d_method_2_7) hr
  · show Q_pick0 Z r h0 n0 _ T_1.heap _
    rw [e_1]
    exact ⟨rfl, N0, rfl⟩
theorem d_method_2_8 : decode method_2_code 8 = .ok (.iload_n 0, 1) := by decide +kernel
theorem d_method_2_9 : decode method_2_code 9 = .ok (.iconst 1, 1) := by decide +kernel
theorem d_method_2_10 : decode method_2_code 10 = .ok (.if_icmp .ne 7, 3) := by decide +kernel
theorem d_method_2_13 : decode method_2_code 13 = .ok (.getstatic 13, 3) := by decide +kernel
theorem d_method_2_16 : decode method_2_code 16 = .ok (.areturn, 1) := by decide +kernel
theorem ef_pick1 (mM : MethodId) (x0 : Int32) : entryFrame mM #[(.int x0)] 1 = mkF mM 0 #[.val (.int x0)] [] := by first | (simp [entryFrame, mkF, argsToLocals, Value.category]; done) | rfl
def Q_pick1 (Z : State) (r : Addr) (h0 : Heap) (n0 : Nat) (v_ : Option Value) (h_ : Heap) (L_ : List Loc) : Prop := v_ = some (.ref r) ∧ Fr n0 L_ ∧ h_ = h0
set_option maxRecDepth 65536 in
set_option maxHeartbeats 40000000 in
theorem rm_pick1 (l : Launch) (Z : State) (a0 : Array Value) (hw : ∀ d ∈ tables_1, d.before a0 Z = true) (ws : List Jvm.Cond) (r : Addr) (h0 : Heap) (n0 : Nat) (Z0 : n0 ≤ h0.size) (S_Truth_UNKNOWN : Sta Z h0 "com/example/querent/querent/engine/Truth" "UNKNOWN" "Lcom/example/querent/querent/engine/Truth;" (.ref r)) :
    MetFree l (⟨"com/example/querent/querent/engine/TruthAndPinLaw", "pick", "(I)Lcom/example/querent/querent/engine/Truth;"⟩ : MethodName) (head1 (Jvm.Cond.code (⟨"com/example/querent/querent/engine/TruthAndPinLaw", "pick", "(I)Lcom/example/querent/querent/engine/Truth;"⟩ : MethodName) method_2_code 1 (some (.object "com/example/querent/querent/engine/Truth")) :: ws) ({ frames := 0, cells := 0, slots := 0, locals := 0 } : Room)) (fun aa_ U_ => aa_ = #[(.int (1 : Int32))] ∧ Z.Warmed39 U_.vm ∧ U_.heap = h0) (fun _ _ _ _ _ => True) (fun _ U_ o_ U'_ => ∃ v_ L_, o_ = .returned v_ ∧ Q_pick1 Z r h0 n0 v_ U'_.heap L_ ∧ FrameEnd U_ o_ U'_ L_ ({ frames := 0, cells := 0, slots := 0, locals := 0 } : Room).cells ({ frames := 0, cells := 0, slots := 0, locals := 0 } : Room).slots) := by
  refine MetFree.of_bodySF (plainFor_of_name pn_0) hisR ?_
  intro pP eE sS mM argsA below meth cC s₁ Bd hml0 hP hK
  obtain ⟨rfl, hZ, hh⟩ := hP
  have hx := Bd.exec
  have hby := Bd.bytes
  have hml : cC.maxLocals = 1 := hml0
  have hown : sS.vm.findClass "com/example/querent/querent/engine/TruthAndPinLaw" = some mM.cls := findClass_of_methodNamed Bd.named
  have hnm := (name_of_methodNamed Bd.named Bd.method).1
  have X0 : Stand pP l eE ({ frames := 0, cells := 0, slots := 0, locals := 0 } : Room) sS mM #[(.int (1 : Int32))] below meth cC s₁ [] 0 0 := Stand.of_body Bd
  have e0 : s₁.heap = h0 := by rw [← hh, Bd.state]; rfl
  have N0 := Fr.nil n0
  have pre0 : ∀ t_, Steps pP.tables eE below (s₁.setTop (mkF mM 0 #[.val (.int (1 : Int32))] [])) t_ → Steps pP.tables eE below (s₁.setTop (entryFrame mM #[(.int (1 : Int32))] 1)) t_ := fun t_ k_ => castTop (ef_pick1 mM (1 : Int32)) k_
  obtain ⟨T_1, X_1, e_1, st_1⟩ := getS2 X0 hx hZ hown (host := "") (Or.inl (hw _ (List.mem_of_getElem? (i := 23) rfl))) Via.refl e0 S_Truth_UNKNOWN (g := (mkF mM 13 #[.val (.int (1 : Int32))] [])) rfl (hb hby d_method_2_13)
  obtain ⟨fs, hr, hrun, hended, hW, hsame⟩ := X_1.leave (v := some (.ref r)) (fun h => by rw [Bd.returns] at h; cases h)
  refine ⟨_, _, pre0 _ ?_, hrun, hended, _, _, rfl, ?_, ⟨_, rfl⟩, hW, hsame.mono (by decide) (by decide)⟩
  · show Steps pP.tables eE below (s₁.setTop (mkF mM 0 #[.val (.int (1 : Int32))] [])) _
    refine XS.iloadN X0.here hx rfl (hb hby d_method_2_0) rfl ?_
    show Steps pP.tables eE below (s₁.setTop (mkF mM 1 #[.val (.int (1 : Int32))] [(.int (1 : Int32))])) _
    refine XS.ifYes X0.here hx rfl (pc0 := 1) (pc' := 8) rfl (hb hby d_method_2_1) rfl (by decide) (by decide) (by decide) ?_
    show Steps pP.tables eE below (s₁.setTop (mkF mM 8 #[.val (.int (1 : Int32))] [])) _
    refine XS.iloadN X0.here hx rfl (hb hby d_method_2_8) rfl ?_
    show Steps pP.tables eE below (s₁.setTop (mkF mM 9 #[.val (.int (1 : Int32))] [(.int (1 : Int32))])) _
    refine XS.iconst X0.here hx rfl (hb hby d_method_2_9) ?_
    show Steps pP.tables eE below (s₁.setTop (mkF mM 10 #[.val (.int (1 : Int32))] [(.int (1 : Int32)), (.int (1 : Int32))])) _
    refine XS.icmpNo X0.here hx rfl (hb hby d_method_2_10) rfl (by decide) ?_
    show Steps pP.tables eE below (s₁.setTop (mkF mM 13 #[.val (.int (1 : Int32))] [])) _
    refine st_1 _ ?_
    show Steps pP.tables eE below (T_1.setTop (mkF mM 16 #[.val (.int (1 : Int32))] [(.ref r)])) _
    exact retOut X_1 hx Bd.returns rfl (Or.inr (Or.inr (Or.inr (Or.inr ⟨rfl, rfl, rfl⟩)))) (hb hby d_method_2_16) hr
  · show Q_pick1 Z r h0 n0 _ T_1.heap _
    rw [e_1]
    exact ⟨rfl, N0, rfl⟩
theorem d_method_2_17 : decode method_2_code 17 = .ok (.getstatic 16, 3) := by decide +kernel
theorem d_method_2_20 : decode method_2_code 20 = .ok (.areturn, 1) := by decide +kernel
theorem ef_pick2 (mM : MethodId) (x0 : Int32) : entryFrame mM #[(.int x0)] 1 = mkF mM 0 #[.val (.int x0)] [] := by first | (simp [entryFrame, mkF, argsToLocals, Value.category]; done) | rfl
def Q_pick2 (Z : State) (r : Addr) (h0 : Heap) (n0 : Nat) (v_ : Option Value) (h_ : Heap) (L_ : List Loc) : Prop := v_ = some (.ref r) ∧ Fr n0 L_ ∧ h_ = h0
set_option maxRecDepth 65536 in
set_option maxHeartbeats 40000000 in
theorem rm_pick2 (l : Launch) (Z : State) (a0 : Array Value) (hw : ∀ d ∈ tables_1, d.before a0 Z = true) (ws : List Jvm.Cond) (r : Addr) (h0 : Heap) (n0 : Nat) (Z0 : n0 ≤ h0.size) (S_Truth_TRUE : Sta Z h0 "com/example/querent/querent/engine/Truth" "TRUE" "Lcom/example/querent/querent/engine/Truth;" (.ref r)) :
    MetFree l (⟨"com/example/querent/querent/engine/TruthAndPinLaw", "pick", "(I)Lcom/example/querent/querent/engine/Truth;"⟩ : MethodName) (head1 (Jvm.Cond.code (⟨"com/example/querent/querent/engine/TruthAndPinLaw", "pick", "(I)Lcom/example/querent/querent/engine/Truth;"⟩ : MethodName) method_2_code 1 (some (.object "com/example/querent/querent/engine/Truth")) :: ws) ({ frames := 0, cells := 0, slots := 0, locals := 0 } : Room)) (fun aa_ U_ => aa_ = #[(.int (2 : Int32))] ∧ Z.Warmed39 U_.vm ∧ U_.heap = h0) (fun _ _ _ _ _ => True) (fun _ U_ o_ U'_ => ∃ v_ L_, o_ = .returned v_ ∧ Q_pick2 Z r h0 n0 v_ U'_.heap L_ ∧ FrameEnd U_ o_ U'_ L_ ({ frames := 0, cells := 0, slots := 0, locals := 0 } : Room).cells ({ frames := 0, cells := 0, slots := 0, locals := 0 } : Room).slots) := by
  refine MetFree.of_bodySF (plainFor_of_name pn_0) hisR ?_
  intro pP eE sS mM argsA below meth cC s₁ Bd hml0 hP hK
  obtain ⟨rfl, hZ, hh⟩ := hP
  have hx := Bd.exec
  have hby := Bd.bytes
  have hml : cC.maxLocals = 1 := hml0
  have hown : sS.vm.findClass "com/example/querent/querent/engine/TruthAndPinLaw" = some mM.cls := findClass_of_methodNamed Bd.named
  have hnm := (name_of_methodNamed Bd.named Bd.method).1
  have X0 : Stand pP l eE ({ frames := 0, cells := 0, slots := 0, locals := 0 } : Room) sS mM #[(.int (2 : Int32))] below meth cC s₁ [] 0 0 := Stand.of_body Bd
  have e0 : s₁.heap = h0 := by rw [← hh, Bd.state]; rfl
  have N0 := Fr.nil n0
  have pre0 : ∀ t_, Steps pP.tables eE below (s₁.setTop (mkF mM 0 #[.val (.int (2 : Int32))] [])) t_ → Steps pP.tables eE below (s₁.setTop (entryFrame mM #[(.int (2 : Int32))] 1)) t_ := fun t_ k_ => castTop (ef_pick2 mM (2 : Int32)) k_
  obtain ⟨T_1, X_1, e_1, st_1⟩ := getS2 X0 hx hZ hown (host := "") (Or.inl (hw _ (List.mem_of_getElem? (i := 21) rfl))) Via.refl e0 S_Truth_TRUE (g := (mkF mM 17 #[.val (.int (2 : Int32))] [])) rfl (hb hby d_method_2_17)
  obtain ⟨fs, hr, hrun, hended, hW, hsame⟩ := X_1.leave (v := some (.ref r)) (fun h => by rw [Bd.returns] at h; cases h)
  refine ⟨_, _, pre0 _ ?_, hrun, hended, _, _, rfl, ?_, ⟨_, rfl⟩, hW, hsame.mono (by decide) (by decide)⟩
  · show Steps pP.tables eE below (s₁.setTop (mkF mM 0 #[.val (.int (2 : Int32))] [])) _
    refine XS.iloadN X0.here hx rfl (hb hby d_method_2_0) rfl ?_
    show Steps pP.tables eE below (s₁.setTop (mkF mM 1 #[.val (.int (2 : Int32))] [(.int (2 : Int32))])) _
    refine XS.ifYes X0.here hx rfl (pc0 := 1) (pc' := 8) rfl (hb hby d_method_2_1) rfl (by decide) (by decide) (by decide) ?_
    show Steps pP.tables eE below (s₁.setTop (mkF mM 8 #[.val (.int (2 : Int32))] [])) _
    refine XS.iloadN X0.here hx rfl (hb hby d_method_2_8) rfl ?_
    show Steps pP.tables eE below (s₁.setTop (mkF mM 9 #[.val (.int (2 : Int32))] [(.int (2 : Int32))])) _
    refine XS.iconst X0.here hx rfl (hb hby d_method_2_9) ?_
    show Steps pP.tables eE below (s₁.setTop (mkF mM 10 #[.val (.int (2 : Int32))] [(.int (1 : Int32)), (.int (2 : Int32))])) _
    refine XS.icmpYes X0.here hx rfl (pc0 := 10) (pc' := 17) rfl (hb hby d_method_2_10) rfl (by decide) (by decide) (by decide) ?_
    show Steps pP.tables eE below (s₁.setTop (mkF mM 17 #[.val (.int (2 : Int32))] [])) _
    refine st_1 _ ?_
    show Steps pP.tables eE below (T_1.setTop (mkF mM 20 #[.val (.int (2 : Int32))] [(.ref r)])) _
    exact retOut X_1 hx Bd.returns rfl (Or.inr (Or.inr (Or.inr (Or.inr ⟨rfl, rfl, rfl⟩)))) (hb hby d_method_2_20) hr
  · show Q_pick2 Z r h0 n0 _ T_1.heap _
    rw [e_1]
    exact ⟨rfl, N0, rfl⟩
theorem d_jdk_29m69_0 : decode jdk_29_method_69_code 0 = .ok (.iload_n 0, 1) := by decide +kernel
theorem d_jdk_29m69_1 : decode jdk_29_method_69_code 1 = .ok (.iload_n 1, 1) := by decide +kernel
theorem d_jdk_29m69_2 : decode jdk_29_method_69_code 2 = .ok (.if_icmp .gt 7, 3) := by decide +kernel
theorem d_jdk_29m69_9 : decode jdk_29_method_69_code 9 = .ok (.iload_n 1, 1) := by decide +kernel
theorem d_jdk_29m69_10 : decode jdk_29_method_69_code 10 = .ok (.ireturn, 1) := by decide +kernel
theorem ef_m0 (mM : MethodId) (x0 : Int32) (x1 : Int32) : entryFrame mM #[(.int x0), (.int x1)] 2 = mkF mM 0 #[.val (.int x0), .val (.int x1)] [] := by first | (simp [entryFrame, mkF, argsToLocals, Value.category]; done) | rfl
def Q_m0 (Z : State) (p : Int32) (q : Int32) (h0 : Heap) (n0 : Nat) (v_ : Option Value) (h_ : Heap) (L_ : List Loc) : Prop := v_ = some (.int q) ∧ Fr n0 L_ ∧ h_ = h0
set_option maxRecDepth 65536 in
set_option maxHeartbeats 40000000 in
theorem rm_m0 (l : Launch) (Z : State) (a0 : Array Value) (hw : ∀ d ∈ tables_1, d.before a0 Z = true) (ws : List Jvm.Cond) (p : Int32) (q : Int32) (h0 : Heap) (n0 : Nat) (Z0 : n0 ≤ h0.size) (hlt : q < p) :
    MetFree l (⟨"java/lang/Math", "min", "(II)I"⟩ : MethodName) (head1 (Jvm.Cond.code (⟨"java/lang/Math", "min", "(II)I"⟩ : MethodName) jdk_29_method_69_code 2 (some .int) :: ws) ({ frames := 0, cells := 0, slots := 0, locals := 0 } : Room)) (fun aa_ U_ => aa_ = #[(.int p), (.int q)] ∧ Z.Warmed39 U_.vm ∧ U_.heap = h0) (fun _ _ _ _ _ => True) (fun _ U_ o_ U'_ => ∃ v_ L_, o_ = .returned v_ ∧ Q_m0 Z p q h0 n0 v_ U'_.heap L_ ∧ FrameEnd U_ o_ U'_ L_ ({ frames := 0, cells := 0, slots := 0, locals := 0 } : Room).cells ({ frames := 0, cells := 0, slots := 0, locals := 0 } : Room).slots) := by
  refine MetFree.of_bodySF (Jvm.Free.JP.mathPlain rfl (by decide +kernel)) hisR ?_
  intro pP eE sS mM argsA below meth cC s₁ Bd hml0 hP hK
  obtain ⟨rfl, hZ, hh⟩ := hP
  have hx := Bd.exec
  have hby := Bd.bytes
  have hml : cC.maxLocals = 2 := hml0
  have hown : sS.vm.findClass "java/lang/Math" = some mM.cls := findClass_of_methodNamed Bd.named
  have hnm := (name_of_methodNamed Bd.named Bd.method).1
  have X0 : Stand pP l eE ({ frames := 0, cells := 0, slots := 0, locals := 0 } : Room) sS mM #[(.int p), (.int q)] below meth cC s₁ [] 0 0 := Stand.of_body Bd
  have e0 : s₁.heap = h0 := by rw [← hh, Bd.state]; rfl
  have N0 := Fr.nil n0
  have pre0 : ∀ t_, Steps pP.tables eE below (s₁.setTop (mkF mM 0 #[.val (.int p), .val (.int q)] [])) t_ → Steps pP.tables eE below (s₁.setTop (entryFrame mM #[(.int p), (.int q)] 2)) t_ := fun t_ k_ => castTop (ef_m0 mM p q) k_
  obtain ⟨fs, hr, hrun, hended, hW, hsame⟩ := X0.leave (v := some (.int q)) (fun h => by rw [Bd.returns] at h; cases h)
  refine ⟨_, _, pre0 _ ?_, hrun, hended, _, _, rfl, ?_, ⟨_, rfl⟩, hW, hsame.mono (by decide) (by decide)⟩
  · show Steps pP.tables eE below (s₁.setTop (mkF mM 0 #[.val (.int p), .val (.int q)] [])) _
    refine XS.iloadN X0.here hx rfl (hb hby d_jdk_29m69_0) rfl ?_
    show Steps pP.tables eE below (s₁.setTop (mkF mM 1 #[.val (.int p), .val (.int q)] [(.int p)])) _
    refine XS.iloadN X0.here hx rfl (hb hby d_jdk_29m69_1) rfl ?_
    show Steps pP.tables eE below (s₁.setTop (mkF mM 2 #[.val (.int p), .val (.int q)] [(.int q), (.int p)])) _
    refine XS.icmpYes X0.here hx rfl (pc0 := 2) (pc' := 9) rfl (hb hby d_jdk_29m69_2) rfl (XT.ii_gt_t hlt) (by decide) (by decide) ?_
    show Steps pP.tables eE below (s₁.setTop (mkF mM 9 #[.val (.int p), .val (.int q)] [])) _
    refine XS.iloadN X0.here hx rfl (hb hby d_jdk_29m69_9) rfl ?_
    show Steps pP.tables eE below (s₁.setTop (mkF mM 10 #[.val (.int p), .val (.int q)] [(.int q)])) _
    exact retI X0 hx Bd.returns (hb hby d_jdk_29m69_10) hr
  · show Q_m0 Z p q h0 n0 _ s₁.heap _
    rw [e0]
    exact ⟨rfl, N0, rfl⟩
theorem d_jdk_29m69_5 : decode jdk_29_method_69_code 5 = .ok (.iload_n 0, 1) := by decide +kernel
theorem d_jdk_29m69_6 : decode jdk_29_method_69_code 6 = .ok (.goto 4, 3) := by decide +kernel
theorem ef_m1 (mM : MethodId) (x0 : Int32) (x1 : Int32) : entryFrame mM #[(.int x0), (.int x1)] 2 = mkF mM 0 #[.val (.int x0), .val (.int x1)] [] := by first | (simp [entryFrame, mkF, argsToLocals, Value.category]; done) | rfl
def Q_m1 (Z : State) (p : Int32) (q : Int32) (h0 : Heap) (n0 : Nat) (v_ : Option Value) (h_ : Heap) (L_ : List Loc) : Prop := v_ = some (.int p) ∧ Fr n0 L_ ∧ h_ = h0
set_option maxRecDepth 65536 in
set_option maxHeartbeats 40000000 in
theorem rm_m1 (l : Launch) (Z : State) (a0 : Array Value) (hw : ∀ d ∈ tables_1, d.before a0 Z = true) (ws : List Jvm.Cond) (p : Int32) (q : Int32) (h0 : Heap) (n0 : Nat) (Z0 : n0 ≤ h0.size) (hlt : ¬ q < p) :
    MetFree l (⟨"java/lang/Math", "min", "(II)I"⟩ : MethodName) (head1 (Jvm.Cond.code (⟨"java/lang/Math", "min", "(II)I"⟩ : MethodName) jdk_29_method_69_code 2 (some .int) :: ws) ({ frames := 0, cells := 0, slots := 0, locals := 0 } : Room)) (fun aa_ U_ => aa_ = #[(.int p), (.int q)] ∧ Z.Warmed39 U_.vm ∧ U_.heap = h0) (fun _ _ _ _ _ => True) (fun _ U_ o_ U'_ => ∃ v_ L_, o_ = .returned v_ ∧ Q_m1 Z p q h0 n0 v_ U'_.heap L_ ∧ FrameEnd U_ o_ U'_ L_ ({ frames := 0, cells := 0, slots := 0, locals := 0 } : Room).cells ({ frames := 0, cells := 0, slots := 0, locals := 0 } : Room).slots) := by
  refine MetFree.of_bodySF (Jvm.Free.JP.mathPlain rfl (by decide +kernel)) hisR ?_
  intro pP eE sS mM argsA below meth cC s₁ Bd hml0 hP hK
  obtain ⟨rfl, hZ, hh⟩ := hP
  have hx := Bd.exec
  have hby := Bd.bytes
  have hml : cC.maxLocals = 2 := hml0
  have hown : sS.vm.findClass "java/lang/Math" = some mM.cls := findClass_of_methodNamed Bd.named
  have hnm := (name_of_methodNamed Bd.named Bd.method).1
  have X0 : Stand pP l eE ({ frames := 0, cells := 0, slots := 0, locals := 0 } : Room) sS mM #[(.int p), (.int q)] below meth cC s₁ [] 0 0 := Stand.of_body Bd
  have e0 : s₁.heap = h0 := by rw [← hh, Bd.state]; rfl
  have N0 := Fr.nil n0
  have pre0 : ∀ t_, Steps pP.tables eE below (s₁.setTop (mkF mM 0 #[.val (.int p), .val (.int q)] [])) t_ → Steps pP.tables eE below (s₁.setTop (entryFrame mM #[(.int p), (.int q)] 2)) t_ := fun t_ k_ => castTop (ef_m1 mM p q) k_
  obtain ⟨fs, hr, hrun, hended, hW, hsame⟩ := X0.leave (v := some (.int p)) (fun h => by rw [Bd.returns] at h; cases h)
  refine ⟨_, _, pre0 _ ?_, hrun, hended, _, _, rfl, ?_, ⟨_, rfl⟩, hW, hsame.mono (by decide) (by decide)⟩
  · show Steps pP.tables eE below (s₁.setTop (mkF mM 0 #[.val (.int p), .val (.int q)] [])) _
    refine XS.iloadN X0.here hx rfl (hb hby d_jdk_29m69_0) rfl ?_
    show Steps pP.tables eE below (s₁.setTop (mkF mM 1 #[.val (.int p), .val (.int q)] [(.int p)])) _
    refine XS.iloadN X0.here hx rfl (hb hby d_jdk_29m69_1) rfl ?_
    show Steps pP.tables eE below (s₁.setTop (mkF mM 2 #[.val (.int p), .val (.int q)] [(.int q), (.int p)])) _
    refine XS.icmpNo X0.here hx rfl (hb hby d_jdk_29m69_2) rfl (XT.ii_gt_f hlt) ?_
    show Steps pP.tables eE below (s₁.setTop (mkF mM 5 #[.val (.int p), .val (.int q)] [])) _
    refine XS.iloadN X0.here hx rfl (hb hby d_jdk_29m69_5) rfl ?_
    show Steps pP.tables eE below (s₁.setTop (mkF mM 6 #[.val (.int p), .val (.int q)] [(.int p)])) _
    refine XS.goto X0.here hx rfl (pc0 := 6) (pc' := 10) rfl (hb hby d_jdk_29m69_6) (by decide) (by decide) ?_
    show Steps pP.tables eE below (s₁.setTop (mkF mM 10 #[.val (.int p), .val (.int q)] [(.int p)])) _
    exact retI X0 hx Bd.returns (hb hby d_jdk_29m69_10) hr
  · show Q_m1 Z p q h0 n0 _ s₁.heap _
    rw [e0]
    exact ⟨rfl, N0, rfl⟩
theorem d_prog_66m5_0 : decode prog_66_method_5_code 0 = .ok (.aload_n 0, 1) := by decide +kernel
theorem d_prog_66m5_1 : decode prog_66_method_5_code 1 = .ok (.getstatic 7, 3) := by decide +kernel
theorem d_prog_66m5_4 : decode prog_66_method_5_code 4 = .ok (.if_acmp .eq 10, 3) := by decide +kernel
theorem d_prog_66m5_14 : decode prog_66_method_5_code 14 = .ok (.getstatic 7, 3) := by decide +kernel
theorem d_prog_66m5_17 : decode prog_66_method_5_code 17 = .ok (.areturn, 1) := by decide +kernel
theorem pn_1 : plainName "com/example/querent/querent/engine/Truth" = true := by first | (simp [plainName, overriddenIn]; done) | decide +kernel
theorem ef_op00 (mM : MethodId) (x0 : Addr) (x1 : Addr) : entryFrame mM #[(.ref x0), (.ref x1)] 2 = mkF mM 0 #[.val (.ref x0), .val (.ref x1)] [] := by first | (simp [entryFrame, mkF, argsToLocals, Value.category]; done) | rfl
def Q_op00 (Z : State) (f : Addr) (u : Addr) (t : Addr) (h0 : Heap) (n0 : Nat) (v_ : Option Value) (h_ : Heap) (L_ : List Loc) : Prop := v_ = some (.ref f) ∧ Fr n0 L_ ∧ h_ = h0
set_option maxRecDepth 65536 in
set_option maxHeartbeats 40000000 in
theorem rm_op00 (l : Launch) (Z : State) (a0 : Array Value) (hw : ∀ d ∈ tables_1, d.before a0 Z = true) (ws : List Jvm.Cond) (f : Addr) (u : Addr) (t : Addr) (h0 : Heap) (n0 : Nat) (Z0 : n0 ≤ h0.size) (S_Truth_FALSE : Sta Z h0 "com/example/querent/querent/engine/Truth" "FALSE" "Lcom/example/querent/querent/engine/Truth;" (.ref f)) (S_Truth_UNKNOWN : Sta Z h0 "com/example/querent/querent/engine/Truth" "UNKNOWN" "Lcom/example/querent/querent/engine/Truth;" (.ref u)) (S_Truth_TRUE : Sta Z h0 "com/example/querent/querent/engine/Truth" "TRUE" "Lcom/example/querent/querent/engine/Truth;" (.ref t)) (nfu : f ≠ u) (nft : f ≠ t) (nut : u ≠ t) :
    MetFree l (⟨"com/example/querent/querent/engine/Truth", "and", "(Lcom/example/querent/querent/engine/Truth;)Lcom/example/querent/querent/engine/Truth;"⟩ : MethodName) (head1 (Jvm.Cond.code (⟨"com/example/querent/querent/engine/Truth", "and", "(Lcom/example/querent/querent/engine/Truth;)Lcom/example/querent/querent/engine/Truth;"⟩ : MethodName) prog_66_method_5_code 2 (some (.object "com/example/querent/querent/engine/Truth")) :: ws) ({ frames := 0, cells := 0, slots := 0, locals := 0 } : Room)) (fun aa_ U_ => aa_ = #[(.ref f), (.ref f)] ∧ Z.Warmed39 U_.vm ∧ U_.heap = h0) (fun _ _ _ _ _ => True) (fun _ U_ o_ U'_ => ∃ v_ L_, o_ = .returned v_ ∧ Q_op00 Z f u t h0 n0 v_ U'_.heap L_ ∧ FrameEnd U_ o_ U'_ L_ ({ frames := 0, cells := 0, slots := 0, locals := 0 } : Room).cells ({ frames := 0, cells := 0, slots := 0, locals := 0 } : Room).slots) := by
  refine MetFree.of_bodySF (plainFor_of_name pn_1) hisR ?_
  intro pP eE sS mM argsA below meth cC s₁ Bd hml0 hP hK
  obtain ⟨rfl, hZ, hh⟩ := hP
  have hx := Bd.exec
  have hby := Bd.bytes
  have hml : cC.maxLocals = 2 := hml0
  have hown : sS.vm.findClass "com/example/querent/querent/engine/Truth" = some mM.cls := findClass_of_methodNamed Bd.named
  have hnm := (name_of_methodNamed Bd.named Bd.method).1
  have X0 : Stand pP l eE ({ frames := 0, cells := 0, slots := 0, locals := 0 } : Room) sS mM #[(.ref f), (.ref f)] below meth cC s₁ [] 0 0 := Stand.of_body Bd
  have e0 : s₁.heap = h0 := by rw [← hh, Bd.state]; rfl
  have N0 := Fr.nil n0
  have pre0 : ∀ t_, Steps pP.tables eE below (s₁.setTop (mkF mM 0 #[.val (.ref f), .val (.ref f)] [])) t_ → Steps pP.tables eE below (s₁.setTop (entryFrame mM #[(.ref f), (.ref f)] 2)) t_ := fun t_ k_ => castTop (ef_op00 mM f f) k_
  obtain ⟨T_1, X_1, e_1, st_1⟩ := getS2 X0 hx hZ hown (host := "") (Or.inl (hw _ (List.mem_of_getElem? (i := 13) rfl))) Via.refl e0 S_Truth_FALSE (g := (mkF mM 1 #[.val (.ref f), .val (.ref f)] [(.ref f)])) rfl (hb hby d_prog_66m5_1)
  obtain ⟨T_2, X_2, e_2, st_2⟩ := getS2 X_1 hx hZ hown (host := "") (Or.inl (hw _ (List.mem_of_getElem? (i := 13) rfl))) Via.refl e_1 S_Truth_FALSE (g := (mkF mM 14 #[.val (.ref f), .val (.ref f)] [])) rfl (hb hby d_prog_66m5_14)
  obtain ⟨fs, hr, hrun, hended, hW, hsame⟩ := X_2.leave (v := some (.ref f)) (fun h => by rw [Bd.returns] at h; cases h)
  refine ⟨_, _, pre0 _ ?_, hrun, hended, _, _, rfl, ?_, ⟨_, rfl⟩, hW, hsame.mono (by decide) (by decide)⟩
  · show Steps pP.tables eE below (s₁.setTop (mkF mM 0 #[.val (.ref f), .val (.ref f)] [])) _
    refine XS.aloadN X0.here hx rfl (hb hby d_prog_66m5_0) rfl rfl ?_
    show Steps pP.tables eE below (s₁.setTop (mkF mM 1 #[.val (.ref f), .val (.ref f)] [(.ref f)])) _
    refine st_1 _ ?_
    show Steps pP.tables eE below (T_1.setTop (mkF mM 4 #[.val (.ref f), .val (.ref f)] [(.ref f), (.ref f)])) _
    refine Jvm.RoadKit.acmp (g := (mkF mM 4 #[.val (.ref f), .val (.ref f)] [(.ref f), (.ref f)])) X_1 hx rfl rfl rfl (pc0 := 4) (pc' := 14) (same := true) rfl (hb hby d_prog_66m5_4) rfl (decide_eq_true rfl) (by decide) (by decide) ?_
    show Steps pP.tables eE below (T_1.setTop (mkF mM 14 #[.val (.ref f), .val (.ref f)] [])) _
    refine st_2 _ ?_
    show Steps pP.tables eE below (T_2.setTop (mkF mM 17 #[.val (.ref f), .val (.ref f)] [(.ref f)])) _
    exact retOut X_2 hx Bd.returns rfl (Or.inr (Or.inr (Or.inr (Or.inr ⟨rfl, rfl, rfl⟩)))) (hb hby d_prog_66m5_17) hr
  · show Q_op00 Z f u t h0 n0 _ T_2.heap _
    rw [e_2]
    exact ⟨rfl, N0, rfl⟩
theorem ef_op01 (mM : MethodId) (x0 : Addr) (x1 : Addr) : entryFrame mM #[(.ref x0), (.ref x1)] 2 = mkF mM 0 #[.val (.ref x0), .val (.ref x1)] [] := by first | (simp [entryFrame, mkF, argsToLocals, Value.category]; done) | rfl
def Q_op01 (Z : State) (f : Addr) (u : Addr) (t : Addr) (h0 : Heap) (n0 : Nat) (v_ : Option Value) (h_ : Heap) (L_ : List Loc) : Prop := v_ = some (.ref f) ∧ Fr n0 L_ ∧ h_ = h0
set_option maxRecDepth 65536 in
set_option maxHeartbeats 40000000 in
theorem rm_op01 (l : Launch) (Z : State) (a0 : Array Value) (hw : ∀ d ∈ tables_1, d.before a0 Z = true) (ws : List Jvm.Cond) (f : Addr) (u : Addr) (t : Addr) (h0 : Heap) (n0 : Nat) (Z0 : n0 ≤ h0.size) (S_Truth_FALSE : Sta Z h0 "com/example/querent/querent/engine/Truth" "FALSE" "Lcom/example/querent/querent/engine/Truth;" (.ref f)) (S_Truth_UNKNOWN : Sta Z h0 "com/example/querent/querent/engine/Truth" "UNKNOWN" "Lcom/example/querent/querent/engine/Truth;" (.ref u)) (S_Truth_TRUE : Sta Z h0 "com/example/querent/querent/engine/Truth" "TRUE" "Lcom/example/querent/querent/engine/Truth;" (.ref t)) (nfu : f ≠ u) (nft : f ≠ t) (nut : u ≠ t) :
    MetFree l (⟨"com/example/querent/querent/engine/Truth", "and", "(Lcom/example/querent/querent/engine/Truth;)Lcom/example/querent/querent/engine/Truth;"⟩ : MethodName) (head1 (Jvm.Cond.code (⟨"com/example/querent/querent/engine/Truth", "and", "(Lcom/example/querent/querent/engine/Truth;)Lcom/example/querent/querent/engine/Truth;"⟩ : MethodName) prog_66_method_5_code 2 (some (.object "com/example/querent/querent/engine/Truth")) :: ws) ({ frames := 0, cells := 0, slots := 0, locals := 0 } : Room)) (fun aa_ U_ => aa_ = #[(.ref f), (.ref u)] ∧ Z.Warmed39 U_.vm ∧ U_.heap = h0) (fun _ _ _ _ _ => True) (fun _ U_ o_ U'_ => ∃ v_ L_, o_ = .returned v_ ∧ Q_op01 Z f u t h0 n0 v_ U'_.heap L_ ∧ FrameEnd U_ o_ U'_ L_ ({ frames := 0, cells := 0, slots := 0, locals := 0 } : Room).cells ({ frames := 0, cells := 0, slots := 0, locals := 0 } : Room).slots) := by
  refine MetFree.of_bodySF (plainFor_of_name pn_1) hisR ?_
  intro pP eE sS mM argsA below meth cC s₁ Bd hml0 hP hK
  obtain ⟨rfl, hZ, hh⟩ := hP
  have hx := Bd.exec
  have hby := Bd.bytes
  have hml : cC.maxLocals = 2 := hml0
  have hown : sS.vm.findClass "com/example/querent/querent/engine/Truth" = some mM.cls := findClass_of_methodNamed Bd.named
  have hnm := (name_of_methodNamed Bd.named Bd.method).1
  have X0 : Stand pP l eE ({ frames := 0, cells := 0, slots := 0, locals := 0 } : Room) sS mM #[(.ref f), (.ref u)] below meth cC s₁ [] 0 0 := Stand.of_body Bd
  have e0 : s₁.heap = h0 := by rw [← hh, Bd.state]; rfl
  have N0 := Fr.nil n0
  have pre0 : ∀ t_, Steps pP.tables eE below (s₁.setTop (mkF mM 0 #[.val (.ref f), .val (.ref u)] [])) t_ → Steps pP.tables eE below (s₁.setTop (entryFrame mM #[(.ref f), (.ref u)] 2)) t_ := fun t_ k_ => castTop (ef_op01 mM f u) k_
  obtain ⟨T_1, X_1, e_1, st_1⟩ := getS2 X0 hx hZ hown (host := "") (Or.inl (hw _ (List.mem_of_getElem? (i := 13) rfl))) Via.refl e0 S_Truth_FALSE (g := (mkF mM 1 #[.val (.ref f), .val (.ref u)] [(.ref f)])) rfl (hb hby d_prog_66m5_1)
  obtain ⟨T_2, X_2, e_2, st_2⟩ := getS2 X_1 hx hZ hown (host := "") (Or.inl (hw _ (List.mem_of_getElem? (i := 13) rfl))) Via.refl e_1 S_Truth_FALSE (g := (mkF mM 14 #[.val (.ref f), .val (.ref u)] [])) rfl (hb hby d_prog_66m5_14)
  obtain ⟨fs, hr, hrun, hended, hW, hsame⟩ := X_2.leave (v := some (.ref f)) (fun h => by rw [Bd.returns] at h; cases h)
  refine ⟨_, _, pre0 _ ?_, hrun, hended, _, _, rfl, ?_, ⟨_, rfl⟩, hW, hsame.mono (by decide) (by decide)⟩
  · show Steps pP.tables eE below (s₁.setTop (mkF mM 0 #[.val (.ref f), .val (.ref u)] [])) _
    refine XS.aloadN X0.here hx rfl (hb hby d_prog_66m5_0) rfl rfl ?_
    show Steps pP.tables eE below (s₁.setTop (mkF mM 1 #[.val (.ref f), .val (.ref u)] [(.ref f)])) _
    refine st_1 _ ?_
    show Steps pP.tables eE below (T_1.setTop (mkF mM 4 #[.val (.ref f), .val (.ref u)] [(.ref f), (.ref f)])) _
    refine Jvm.RoadKit.acmp (g := (mkF mM 4 #[.val (.ref f), .val (.ref u)] [(.ref f), (.ref f)])) X_1 hx rfl rfl rfl (pc0 := 4) (pc' := 14) (same := true) rfl (hb hby d_prog_66m5_4) rfl (decide_eq_true rfl) (by decide) (by decide) ?_
    show Steps pP.tables eE below (T_1.setTop (mkF mM 14 #[.val (.ref f), .val (.ref u)] [])) _
    refine st_2 _ ?_
    show Steps pP.tables eE below (T_2.setTop (mkF mM 17 #[.val (.ref f), .val (.ref u)] [(.ref f)])) _
    exact retOut X_2 hx Bd.returns rfl (Or.inr (Or.inr (Or.inr (Or.inr ⟨rfl, rfl, rfl⟩)))) (hb hby d_prog_66m5_17) hr
  · show Q_op01 Z f u t h0 n0 _ T_2.heap _
    rw [e_2]
    exact ⟨rfl, N0, rfl⟩
theorem ef_op02 (mM : MethodId) (x0 : Addr) (x1 : Addr) : entryFrame mM #[(.ref x0), (.ref x1)] 2 = mkF mM 0 #[.val (.ref x0), .val (.ref x1)] [] := by first | (simp [entryFrame, mkF, argsToLocals, Value.category]; done) | rfl
def Q_op02 (Z : State) (f : Addr) (u : Addr) (t : Addr) (h0 : Heap) (n0 : Nat) (v_ : Option Value) (h_ : Heap) (L_ : List Loc) : Prop := v_ = some (.ref f) ∧ Fr n0 L_ ∧ h_ = h0
set_option maxRecDepth 65536 in
set_option maxHeartbeats 40000000 in
theorem rm_op02 (l : Launch) (Z : State) (a0 : Array Value) (hw : ∀ d ∈ tables_1, d.before a0 Z = true) (ws : List Jvm.Cond) (f : Addr) (u : Addr) (t : Addr) (h0 : Heap) (n0 : Nat) (Z0 : n0 ≤ h0.size) (S_Truth_FALSE : Sta Z h0 "com/example/querent/querent/engine/Truth" "FALSE" "Lcom/example/querent/querent/engine/Truth;" (.ref f)) (S_Truth_UNKNOWN : Sta Z h0 "com/example/querent/querent/engine/Truth" "UNKNOWN" "Lcom/example/querent/querent/engine/Truth;" (.ref u)) (S_Truth_TRUE : Sta Z h0 "com/example/querent/querent/engine/Truth" "TRUE" "Lcom/example/querent/querent/engine/Truth;" (.ref t)) (nfu : f ≠ u) (nft : f ≠ t) (nut : u ≠ t) :
    MetFree l (⟨"com/example/querent/querent/engine/Truth", "and", "(Lcom/example/querent/querent/engine/Truth;)Lcom/example/querent/querent/engine/Truth;"⟩ : MethodName) (head1 (Jvm.Cond.code (⟨"com/example/querent/querent/engine/Truth", "and", "(Lcom/example/querent/querent/engine/Truth;)Lcom/example/querent/querent/engine/Truth;"⟩ : MethodName) prog_66_method_5_code 2 (some (.object "com/example/querent/querent/engine/Truth")) :: ws) ({ frames := 0, cells := 0, slots := 0, locals := 0 } : Room)) (fun aa_ U_ => aa_ = #[(.ref f), (.ref t)] ∧ Z.Warmed39 U_.vm ∧ U_.heap = h0) (fun _ _ _ _ _ => True) (fun _ U_ o_ U'_ => ∃ v_ L_, o_ = .returned v_ ∧ Q_op02 Z f u t h0 n0 v_ U'_.heap L_ ∧ FrameEnd U_ o_ U'_ L_ ({ frames := 0, cells := 0, slots := 0, locals := 0 } : Room).cells ({ frames := 0, cells := 0, slots := 0, locals := 0 } : Room).slots) := by
  refine MetFree.of_bodySF (plainFor_of_name pn_1) hisR ?_
  intro pP eE sS mM argsA below meth cC s₁ Bd hml0 hP hK
  obtain ⟨rfl, hZ, hh⟩ := hP
  have hx := Bd.exec
  have hby := Bd.bytes
  have hml : cC.maxLocals = 2 := hml0
  have hown : sS.vm.findClass "com/example/querent/querent/engine/Truth" = some mM.cls := findClass_of_methodNamed Bd.named
  have hnm := (name_of_methodNamed Bd.named Bd.method).1
  have X0 : Stand pP l eE ({ frames := 0, cells := 0, slots := 0, locals := 0 } : Room) sS mM #[(.ref f), (.ref t)] below meth cC s₁ [] 0 0 := Stand.of_body Bd
  have e0 : s₁.heap = h0 := by rw [← hh, Bd.state]; rfl
  have N0 := Fr.nil n0
  have pre0 : ∀ t_, Steps pP.tables eE below (s₁.setTop (mkF mM 0 #[.val (.ref f), .val (.ref t)] [])) t_ → Steps pP.tables eE below (s₁.setTop (entryFrame mM #[(.ref f), (.ref t)] 2)) t_ := fun t_ k_ => castTop (ef_op02 mM f t) k_
  obtain ⟨T_1, X_1, e_1, st_1⟩ := getS2 X0 hx hZ hown (host := "") (Or.inl (hw _ (List.mem_of_getElem? (i := 13) rfl))) Via.refl e0 S_Truth_FALSE (g := (mkF mM 1 #[.val (.ref f), .val (.ref t)] [(.ref f)])) rfl (hb hby d_prog_66m5_1)
  obtain ⟨T_2, X_2, e_2, st_2⟩ := getS2 X_1 hx hZ hown (host := "") (Or.inl (hw _ (List.mem_of_getElem? (i := 13) rfl))) Via.refl e_1 S_Truth_FALSE (g := (mkF mM 14 #[.val (.ref f), .val (.ref t)] [])) rfl (hb hby d_prog_66m5_14)
  obtain ⟨fs, hr, hrun, hended, hW, hsame⟩ := X_2.leave (v := some (.ref f)) (fun h => by rw [Bd.returns] at h; cases h)
  refine ⟨_, _, pre0 _ ?_, hrun, hended, _, _, rfl, ?_, ⟨_, rfl⟩, hW, hsame.mono (by decide) (by decide)⟩
  · show Steps pP.tables eE below (s₁.setTop (mkF mM 0 #[.val (.ref f), .val (.ref t)] [])) _
    refine XS.aloadN X0.here hx rfl (hb hby d_prog_66m5_0) rfl rfl ?_
    show Steps pP.tables eE below (s₁.setTop (mkF mM 1 #[.val (.ref f), .val (.ref t)] [(.ref f)])) _
    refine st_1 _ ?_
    show Steps pP.tables eE below (T_1.setTop (mkF mM 4 #[.val (.ref f), .val (.ref t)] [(.ref f), (.ref f)])) _
    refine Jvm.RoadKit.acmp (g := (mkF mM 4 #[.val (.ref f), .val (.ref t)] [(.ref f), (.ref f)])) X_1 hx rfl rfl rfl (pc0 := 4) (pc' := 14) (same := true) rfl (hb hby d_prog_66m5_4) rfl (decide_eq_true rfl) (by decide) (by decide) ?_
    show Steps pP.tables eE below (T_1.setTop (mkF mM 14 #[.val (.ref f), .val (.ref t)] [])) _
    refine st_2 _ ?_
    show Steps pP.tables eE below (T_2.setTop (mkF mM 17 #[.val (.ref f), .val (.ref t)] [(.ref f)])) _
    exact retOut X_2 hx Bd.returns rfl (Or.inr (Or.inr (Or.inr (Or.inr ⟨rfl, rfl, rfl⟩)))) (hb hby d_prog_66m5_17) hr
  · show Q_op02 Z f u t h0 n0 _ T_2.heap _
    rw [e_2]
    exact ⟨rfl, N0, rfl⟩
theorem d_prog_66m5_7 : decode prog_66_method_5_code 7 = .ok (.aload_n 1, 1) := by decide +kernel
theorem d_prog_66m5_8 : decode prog_66_method_5_code 8 = .ok (.getstatic 7, 3) := by decide +kernel
theorem d_prog_66m5_11 : decode prog_66_method_5_code 11 = .ok (.if_acmp .ne 7, 3) := by decide +kernel
theorem ef_op10 (mM : MethodId) (x0 : Addr) (x1 : Addr) : entryFrame mM #[(.ref x0), (.ref x1)] 2 = mkF mM 0 #[.val (.ref x0), .val (.ref x1)] [] := by first | (simp [entryFrame, mkF, argsToLocals, Value.category]; done) | rfl
def Q_op10 (Z : State) (f : Addr) (u : Addr) (t : Addr) (h0 : Heap) (n0 : Nat) (v_ : Option Value) (h_ : Heap) (L_ : List Loc) : Prop := v_ = some (.ref f) ∧ Fr n0 L_ ∧ h_ = h0
set_option maxRecDepth 65536 in
set_option maxHeartbeats 40000000 in
theorem rm_op10 (l : Launch) (Z : State) (a0 : Array Value) (hw : ∀ d ∈ tables_1, d.before a0 Z = true) (ws : List Jvm.Cond) (f : Addr) (u : Addr) (t : Addr) (h0 : Heap) (n0 : Nat) (Z0 : n0 ≤ h0.size) (S_Truth_FALSE : Sta Z h0 "com/example/querent/querent/engine/Truth" "FALSE" "Lcom/example/querent/querent/engine/Truth;" (.ref f)) (S_Truth_UNKNOWN : Sta Z h0 "com/example/querent/querent/engine/Truth" "UNKNOWN" "Lcom/example/querent/querent/engine/Truth;" (.ref u)) (S_Truth_TRUE : Sta Z h0 "com/example/querent/querent/engine/Truth" "TRUE" "Lcom/example/querent/querent/engine/Truth;" (.ref t)) (nfu : f ≠ u) (nft : f ≠ t) (nut : u ≠ t) :
    MetFree l (⟨"com/example/querent/querent/engine/Truth", "and", "(Lcom/example/querent/querent/engine/Truth;)Lcom/example/querent/querent/engine/Truth;"⟩ : MethodName) (head1 (Jvm.Cond.code (⟨"com/example/querent/querent/engine/Truth", "and", "(Lcom/example/querent/querent/engine/Truth;)Lcom/example/querent/querent/engine/Truth;"⟩ : MethodName) prog_66_method_5_code 2 (some (.object "com/example/querent/querent/engine/Truth")) :: ws) ({ frames := 0, cells := 0, slots := 0, locals := 0 } : Room)) (fun aa_ U_ => aa_ = #[(.ref u), (.ref f)] ∧ Z.Warmed39 U_.vm ∧ U_.heap = h0) (fun _ _ _ _ _ => True) (fun _ U_ o_ U'_ => ∃ v_ L_, o_ = .returned v_ ∧ Q_op10 Z f u t h0 n0 v_ U'_.heap L_ ∧ FrameEnd U_ o_ U'_ L_ ({ frames := 0, cells := 0, slots := 0, locals := 0 } : Room).cells ({ frames := 0, cells := 0, slots := 0, locals := 0 } : Room).slots) := by
  refine MetFree.of_bodySF (plainFor_of_name pn_1) hisR ?_
  intro pP eE sS mM argsA below meth cC s₁ Bd hml0 hP hK
  obtain ⟨rfl, hZ, hh⟩ := hP
  have hx := Bd.exec
  have hby := Bd.bytes
  have hml : cC.maxLocals = 2 := hml0
  have hown : sS.vm.findClass "com/example/querent/querent/engine/Truth" = some mM.cls := findClass_of_methodNamed Bd.named
  have hnm := (name_of_methodNamed Bd.named Bd.method).1
  have X0 : Stand pP l eE ({ frames := 0, cells := 0, slots := 0, locals := 0 } : Room) sS mM #[(.ref u), (.ref f)] below meth cC s₁ [] 0 0 := Stand.of_body Bd
  have e0 : s₁.heap = h0 := by rw [← hh, Bd.state]; rfl
  have N0 := Fr.nil n0
  have pre0 : ∀ t_, Steps pP.tables eE below (s₁.setTop (mkF mM 0 #[.val (.ref u), .val (.ref f)] [])) t_ → Steps pP.tables eE below (s₁.setTop (entryFrame mM #[(.ref u), (.ref f)] 2)) t_ := fun t_ k_ => castTop (ef_op10 mM u f) k_
  obtain ⟨T_1, X_1, e_1, st_1⟩ := getS2 X0 hx hZ hown (host := "") (Or.inl (hw _ (List.mem_of_getElem? (i := 13) rfl))) Via.refl e0 S_Truth_FALSE (g := (mkF mM 1 #[.val (.ref u), .val (.ref f)] [(.ref u)])) rfl (hb hby d_prog_66m5_1)
  obtain ⟨T_2, X_2, e_2, st_2⟩ := getS2 X_1 hx hZ hown (host := "") (Or.inl (hw _ (List.mem_of_getElem? (i := 13) rfl))) Via.refl e_1 S_Truth_FALSE (g := (mkF mM 8 #[.val (.ref u), .val (.ref f)] [(.ref f)])) rfl (hb hby d_prog_66m5_8)
  obtain ⟨T_3, X_3, e_3, st_3⟩ := getS2 X_2 hx hZ hown (host := "") (Or.inl (hw _ (List.mem_of_getElem? (i := 13) rfl))) Via.refl e_2 S_Truth_FALSE (g := (mkF mM 14 #[.val (.ref u), .val (.ref f)] [])) rfl (hb hby d_prog_66m5_14)
  obtain ⟨fs, hr, hrun, hended, hW, hsame⟩ := X_3.leave (v := some (.ref f)) (fun h => by rw [Bd.returns] at h; cases h)
  refine ⟨_, _, pre0 _ ?_, hrun, hended, _, _, rfl, ?_, ⟨_, rfl⟩, hW, hsame.mono (by decide) (by decide)⟩
  · show Steps pP.tables eE below (s₁.setTop (mkF mM 0 #[.val (.ref u), .val (.ref f)] [])) _
    refine XS.aloadN X0.here hx rfl (hb hby d_prog_66m5_0) rfl rfl ?_
    show Steps pP.tables eE below (s₁.setTop (mkF mM 1 #[.val (.ref u), .val (.ref f)] [(.ref u)])) _
    refine st_1 _ ?_
    show Steps pP.tables eE below (T_1.setTop (mkF mM 4 #[.val (.ref u), .val (.ref f)] [(.ref f), (.ref u)])) _
    refine Jvm.RoadKit.acmp (g := (mkF mM 4 #[.val (.ref u), .val (.ref f)] [(.ref f), (.ref u)])) X_1 hx rfl rfl rfl (pc0 := 4) (pc' := 7) (same := false) rfl (hb hby d_prog_66m5_4) rfl (decide_eq_false fun q => (Ne.symm nfu) (Value.ref.inj q)) (by decide) (by decide) ?_
    show Steps pP.tables eE below (T_1.setTop (mkF mM 7 #[.val (.ref u), .val (.ref f)] [])) _
    refine XS.aloadN X_1.here hx rfl (hb hby d_prog_66m5_7) rfl rfl ?_
    show Steps pP.tables eE below (T_1.setTop (mkF mM 8 #[.val (.ref u), .val (.ref f)] [(.ref f)])) _
    refine st_2 _ ?_
    show Steps pP.tables eE below (T_2.setTop (mkF mM 11 #[.val (.ref u), .val (.ref f)] [(.ref f), (.ref f)])) _
    refine Jvm.RoadKit.acmp (g := (mkF mM 11 #[.val (.ref u), .val (.ref f)] [(.ref f), (.ref f)])) X_2 hx rfl rfl rfl (pc0 := 11) (pc' := 14) (same := true) rfl (hb hby d_prog_66m5_11) rfl (decide_eq_true rfl) (by decide) (by decide) ?_
    show Steps pP.tables eE below (T_2.setTop (mkF mM 14 #[.val (.ref u), .val (.ref f)] [])) _
    refine st_3 _ ?_
    show Steps pP.tables eE below (T_3.setTop (mkF mM 17 #[.val (.ref u), .val (.ref f)] [(.ref f)])) _
    exact retOut X_3 hx Bd.returns rfl (Or.inr (Or.inr (Or.inr (Or.inr ⟨rfl, rfl, rfl⟩)))) (hb hby d_prog_66m5_17) hr
  · show Q_op10 Z f u t h0 n0 _ T_3.heap _
    rw [e_3]
    exact ⟨rfl, N0, rfl⟩
theorem d_prog_66m5_18 : decode prog_66_method_5_code 18 = .ok (.aload_n 0, 1) := by decide +kernel
theorem d_prog_66m5_19 : decode prog_66_method_5_code 19 = .ok (.getstatic 10, 3) := by decide +kernel
theorem d_prog_66m5_22 : decode prog_66_method_5_code 22 = .ok (.if_acmp .eq 10, 3) := by decide +kernel
theorem d_prog_66m5_32 : decode prog_66_method_5_code 32 = .ok (.getstatic 10, 3) := by decide +kernel
theorem d_prog_66m5_35 : decode prog_66_method_5_code 35 = .ok (.goto 6, 3) := by decide +kernel
theorem d_prog_66m5_41 : decode prog_66_method_5_code 41 = .ok (.areturn, 1) := by decide +kernel
theorem ef_op11 (mM : MethodId) (x0 : Addr) (x1 : Addr) : entryFrame mM #[(.ref x0), (.ref x1)] 2 = mkF mM 0 #[.val (.ref x0), .val (.ref x1)] [] := by first | (simp [entryFrame, mkF, argsToLocals, Value.category]; done) | rfl
def Q_op11 (Z : State) (f : Addr) (u : Addr) (t : Addr) (h0 : Heap) (n0 : Nat) (v_ : Option Value) (h_ : Heap) (L_ : List Loc) : Prop := v_ = some (.ref u) ∧ Fr n0 L_ ∧ h_ = h0
set_option maxRecDepth 65536 in
set_option maxHeartbeats 40000000 in
theorem rm_op11 (l : Launch) (Z : State) (a0 : Array Value) (hw : ∀ d ∈ tables_1, d.before a0 Z = true) (ws : List Jvm.Cond) (f : Addr) (u : Addr) (t : Addr) (h0 : Heap) (n0 : Nat) (Z0 : n0 ≤ h0.size) (S_Truth_FALSE : Sta Z h0 "com/example/querent/querent/engine/Truth" "FALSE" "Lcom/example/querent/querent/engine/Truth;" (.ref f)) (S_Truth_UNKNOWN : Sta Z h0 "com/example/querent/querent/engine/Truth" "UNKNOWN" "Lcom/example/querent/querent/engine/Truth;" (.ref u)) (S_Truth_TRUE : Sta Z h0 "com/example/querent/querent/engine/Truth" "TRUE" "Lcom/example/querent/querent/engine/Truth;" (.ref t)) (nfu : f ≠ u) (nft : f ≠ t) (nut : u ≠ t) :
    MetFree l (⟨"com/example/querent/querent/engine/Truth", "and", "(Lcom/example/querent/querent/engine/Truth;)Lcom/example/querent/querent/engine/Truth;"⟩ : MethodName) (head1 (Jvm.Cond.code (⟨"com/example/querent/querent/engine/Truth", "and", "(Lcom/example/querent/querent/engine/Truth;)Lcom/example/querent/querent/engine/Truth;"⟩ : MethodName) prog_66_method_5_code 2 (some (.object "com/example/querent/querent/engine/Truth")) :: ws) ({ frames := 0, cells := 0, slots := 0, locals := 0 } : Room)) (fun aa_ U_ => aa_ = #[(.ref u), (.ref u)] ∧ Z.Warmed39 U_.vm ∧ U_.heap = h0) (fun _ _ _ _ _ => True) (fun _ U_ o_ U'_ => ∃ v_ L_, o_ = .returned v_ ∧ Q_op11 Z f u t h0 n0 v_ U'_.heap L_ ∧ FrameEnd U_ o_ U'_ L_ ({ frames := 0, cells := 0, slots := 0, locals := 0 } : Room).cells ({ frames := 0, cells := 0, slots := 0, locals := 0 } : Room).slots) := by
  refine MetFree.of_bodySF (plainFor_of_name pn_1) hisR ?_
  intro pP eE sS mM argsA below meth cC s₁ Bd hml0 hP hK
  obtain ⟨rfl, hZ, hh⟩ := hP
  have hx := Bd.exec
  have hby := Bd.bytes
  have hml : cC.maxLocals = 2 := hml0
  have hown : sS.vm.findClass "com/example/querent/querent/engine/Truth" = some mM.cls := findClass_of_methodNamed Bd.named
  have hnm := (name_of_methodNamed Bd.named Bd.method).1
  have X0 : Stand pP l eE ({ frames := 0, cells := 0, slots := 0, locals := 0 } : Room) sS mM #[(.ref u), (.ref u)] below meth cC s₁ [] 0 0 := Stand.of_body Bd
  have e0 : s₁.heap = h0 := by rw [← hh, Bd.state]; rfl
  have N0 := Fr.nil n0
  have pre0 : ∀ t_, Steps pP.tables eE below (s₁.setTop (mkF mM 0 #[.val (.ref u), .val (.ref u)] [])) t_ → Steps pP.tables eE below (s₁.setTop (entryFrame mM #[(.ref u), (.ref u)] 2)) t_ := fun t_ k_ => castTop (ef_op11 mM u u) k_
  obtain ⟨T_1, X_1, e_1, st_1⟩ := getS2 X0 hx hZ hown (host := "") (Or.inl (hw _ (List.mem_of_getElem? (i := 13) rfl))) Via.refl e0 S_Truth_FALSE (g := (mkF mM 1 #[.val (.ref u), .val (.ref u)] [(.ref u)])) rfl (hb hby d_prog_66m5_1)
  obtain ⟨T_2, X_2, e_2, st_2⟩ := getS2 X_1 hx hZ hown (host := "") (Or.inl (hw _ (List.mem_of_getElem? (i := 13) rfl))) Via.refl e_1 S_Truth_FALSE (g := (mkF mM 8 #[.val (.ref u), .val (.ref u)] [(.ref u)])) rfl (hb hby d_prog_66m5_8)
  obtain ⟨T_3, X_3, e_3, st_3⟩ := getS2 X_2 hx hZ hown (host := "") (Or.inl (hw _ (List.mem_of_getElem? (i := 25) rfl))) Via.refl e_2 S_Truth_UNKNOWN (g := (mkF mM 19 #[.val (.ref u), .val (.ref u)] [(.ref u)])) rfl (hb hby d_prog_66m5_19)
  obtain ⟨T_4, X_4, e_4, st_4⟩ := getS2 X_3 hx hZ hown (host := "") (Or.inl (hw _ (List.mem_of_getElem? (i := 25) rfl))) Via.refl e_3 S_Truth_UNKNOWN (g := (mkF mM 32 #[.val (.ref u), .val (.ref u)] [])) rfl (hb hby d_prog_66m5_32)
  obtain ⟨fs, hr, hrun, hended, hW, hsame⟩ := X_4.leave (v := some (.ref u)) (fun h => by rw [Bd.returns] at h; cases h)
  refine ⟨_, _, pre0 _ ?_, hrun, hended, _, _, rfl, ?_, ⟨_, rfl⟩, hW, hsame.mono (by decide) (by decide)⟩
  · show Steps pP.tables eE below (s₁.setTop (mkF mM 0 #[.val (.ref u), .val (.ref u)] [])) _
    refine XS.aloadN X0.here hx rfl (hb hby d_prog_66m5_0) rfl rfl ?_
    show Steps pP.tables eE below (s₁.setTop (mkF mM 1 #[.val (.ref u), .val (.ref u)] [(.ref u)])) _
    refine st_1 _ ?_
    show Steps pP.tables eE below (T_1.setTop (mkF mM 4 #[.val (.ref u), .val (.ref u)] [(.ref f), (.ref u)])) _
    refine Jvm.RoadKit.acmp (g := (mkF mM 4 #[.val (.ref u), .val (.ref u)] [(.ref f), (.ref u)])) X_1 hx rfl rfl rfl (pc0 := 4) (pc' := 7) (same := false) rfl (hb hby d_prog_66m5_4) rfl (decide_eq_false fun q => (Ne.symm nfu) (Value.ref.inj q)) (by decide) (by decide) ?_
    show Steps pP.tables eE below (T_1.setTop (mkF mM 7 #[.val (.ref u), .val (.ref u)] [])) _
    refine XS.aloadN X_1.here hx rfl (hb hby d_prog_66m5_7) rfl rfl ?_
    show Steps pP.tables eE below (T_1.setTop (mkF mM 8 #[.val (.ref u), .val (.ref u)] [(.ref u)])) _
    refine st_2 _ ?_
    show Steps pP.tables eE below (T_2.setTop (mkF mM 11 #[.val (.ref u), .val (.ref u)] [(.ref f), (.ref u)])) _
    refine Jvm.RoadKit.acmp (g := (mkF mM 11 #[.val (.ref u), .val (.ref u)] [(.ref f), (.ref u)])) X_2 hx rfl rfl rfl (pc0 := 11) (pc' := 18) (same := false) rfl (hb hby d_prog_66m5_11) rfl (decide_eq_false fun q => (Ne.symm nfu) (Value.ref.inj q)) (by decide) (by decide) ?_
    show Steps pP.tables eE below (T_2.setTop (mkF mM 18 #[.val (.ref u), .val (.ref u)] [])) _
    refine XS.aloadN X_2.here hx rfl (hb hby d_prog_66m5_18) rfl rfl ?_
    show Steps pP.tables eE below (T_2.setTop (mkF mM 19 #[.val (.ref u), .val (.ref u)] [(.ref u)])) _
    refine st_3 _ ?_
    show Steps pP.tables eE below (T_3.setTop (mkF mM 22 #[.val (.ref u), .val (.ref u)] [(.ref u), (.ref u)])) _
    refine Jvm.RoadKit.acmp (g := (mkF mM 22 #[.val (.ref u), .val (.ref u)] [(.ref u), (.ref u)])) X_3 hx rfl rfl rfl (pc0 := 22) (pc' := 32) (same := true) rfl (hb hby d_prog_66m5_22) rfl (decide_eq_true rfl) (by decide) (by decide) ?_
    show Steps pP.tables eE below (T_3.setTop (mkF mM 32 #[.val (.ref u), .val (.ref u)] [])) _
    refine st_4 _ ?_
    show Steps pP.tables eE below (T_4.setTop (mkF mM 35 #[.val (.ref u), .val (.ref u)] [(.ref u)])) _
    refine XS.goto X_4.here hx rfl (pc0 := 35) (pc' := 41) rfl (hb hby d_prog_66m5_35) (by decide) (by decide) ?_
    show Steps pP.tables eE below (T_4.setTop (mkF mM 41 #[.val (.ref u), .val (.ref u)] [(.ref u)])) _
    exact retOut X_4 hx Bd.returns rfl (Or.inr (Or.inr (Or.inr (Or.inr ⟨rfl, rfl, rfl⟩)))) (hb hby d_prog_66m5_41) hr
  · show Q_op11 Z f u t h0 n0 _ T_4.heap _
    rw [e_4]
    exact ⟨rfl, N0, rfl⟩
theorem ef_op12 (mM : MethodId) (x0 : Addr) (x1 : Addr) : entryFrame mM #[(.ref x0), (.ref x1)] 2 = mkF mM 0 #[.val (.ref x0), .val (.ref x1)] [] := by first | (simp [entryFrame, mkF, argsToLocals, Value.category]; done) | rfl
def Q_op12 (Z : State) (f : Addr) (u : Addr) (t : Addr) (h0 : Heap) (n0 : Nat) (v_ : Option Value) (h_ : Heap) (L_ : List Loc) : Prop := v_ = some (.ref u) ∧ Fr n0 L_ ∧ h_ = h0
set_option maxRecDepth 65536 in
set_option maxHeartbeats 40000000 in
theorem rm_op12 (l : Launch) (Z : State) (a0 : Array Value) (hw : ∀ d ∈ tables_1, d.before a0 Z = true) (ws : List Jvm.Cond) (f : Addr) (u : Addr) (t : Addr) (h0 : Heap) (n0 : Nat) (Z0 : n0 ≤ h0.size) (S_Truth_FALSE : Sta Z h0 "com/example/querent/querent/engine/Truth" "FALSE" "Lcom/example/querent/querent/engine/Truth;" (.ref f)) (S_Truth_UNKNOWN : Sta Z h0 "com/example/querent/querent/engine/Truth" "UNKNOWN" "Lcom/example/querent/querent/engine/Truth;" (.ref u)) (S_Truth_TRUE : Sta Z h0 "com/example/querent/querent/engine/Truth" "TRUE" "Lcom/example/querent/querent/engine/Truth;" (.ref t)) (nfu : f ≠ u) (nft : f ≠ t) (nut : u ≠ t) :
    MetFree l (⟨"com/example/querent/querent/engine/Truth", "and", "(Lcom/example/querent/querent/engine/Truth;)Lcom/example/querent/querent/engine/Truth;"⟩ : MethodName) (head1 (Jvm.Cond.code (⟨"com/example/querent/querent/engine/Truth", "and", "(Lcom/example/querent/querent/engine/Truth;)Lcom/example/querent/querent/engine/Truth;"⟩ : MethodName) prog_66_method_5_code 2 (some (.object "com/example/querent/querent/engine/Truth")) :: ws) ({ frames := 0, cells := 0, slots := 0, locals := 0 } : Room)) (fun aa_ U_ => aa_ = #[(.ref u), (.ref t)] ∧ Z.Warmed39 U_.vm ∧ U_.heap = h0) (fun _ _ _ _ _ => True) (fun _ U_ o_ U'_ => ∃ v_ L_, o_ = .returned v_ ∧ Q_op12 Z f u t h0 n0 v_ U'_.heap L_ ∧ FrameEnd U_ o_ U'_ L_ ({ frames := 0, cells := 0, slots := 0, locals := 0 } : Room).cells ({ frames := 0, cells := 0, slots := 0, locals := 0 } : Room).slots) := by
  refine MetFree.of_bodySF (plainFor_of_name pn_1) hisR ?_
  intro pP eE sS mM argsA below meth cC s₁ Bd hml0 hP hK
  obtain ⟨rfl, hZ, hh⟩ := hP
  have hx := Bd.exec
  have hby := Bd.bytes
  have hml : cC.maxLocals = 2 := hml0
  have hown : sS.vm.findClass "com/example/querent/querent/engine/Truth" = some mM.cls := findClass_of_methodNamed Bd.named
  have hnm := (name_of_methodNamed Bd.named Bd.method).1
  have X0 : Stand pP l eE ({ frames := 0, cells := 0, slots := 0, locals := 0 } : Room) sS mM #[(.ref u), (.ref t)] below meth cC s₁ [] 0 0 := Stand.of_body Bd
  have e0 : s₁.heap = h0 := by rw [← hh, Bd.state]; rfl
  have N0 := Fr.nil n0
  have pre0 : ∀ t_, Steps pP.tables eE below (s₁.setTop (mkF mM 0 #[.val (.ref u), .val (.ref t)] [])) t_ → Steps pP.tables eE below (s₁.setTop (entryFrame mM #[(.ref u), (.ref t)] 2)) t_ := fun t_ k_ => castTop (ef_op12 mM u t) k_
  obtain ⟨T_1, X_1, e_1, st_1⟩ := getS2 X0 hx hZ hown (host := "") (Or.inl (hw _ (List.mem_of_getElem? (i := 13) rfl))) Via.refl e0 S_Truth_FALSE (g := (mkF mM 1 #[.val (.ref u), .val (.ref t)] [(.ref u)])) rfl (hb hby d_prog_66m5_1)
  obtain ⟨T_2, X_2, e_2, st_2⟩ := getS2 X_1 hx hZ hown (host := "") (Or.inl (hw _ (List.mem_of_getElem? (i := 13) rfl))) Via.refl e_1 S_Truth_FALSE (g := (mkF mM 8 #[.val (.ref u), .val (.ref t)] [(.ref t)])) rfl (hb hby d_prog_66m5_8)
  obtain ⟨T_3, X_3, e_3, st_3⟩ := getS2 X_2 hx hZ hown (host := "") (Or.inl (hw _ (List.mem_of_getElem? (i := 25) rfl))) Via.refl e_2 S_Truth_UNKNOWN (g := (mkF mM 19 #[.val (.ref u), .val (.ref t)] [(.ref u)])) rfl (hb hby d_prog_66m5_19)
  obtain ⟨T_4, X_4, e_4, st_4⟩ := getS2 X_3 hx hZ hown (host := "") (Or.inl (hw _ (List.mem_of_getElem? (i := 25) rfl))) Via.refl e_3 S_Truth_UNKNOWN (g := (mkF mM 32 #[.val (.ref u), .val (.ref t)] [])) rfl (hb hby d_prog_66m5_32)
  obtain ⟨fs, hr, hrun, hended, hW, hsame⟩ := X_4.leave (v := some (.ref u)) (fun h => by rw [Bd.returns] at h; cases h)
  refine ⟨_, _, pre0 _ ?_, hrun, hended, _, _, rfl, ?_, ⟨_, rfl⟩, hW, hsame.mono (by decide) (by decide)⟩
  · show Steps pP.tables eE below (s₁.setTop (mkF mM 0 #[.val (.ref u), .val (.ref t)] [])) _
    refine XS.aloadN X0.here hx rfl (hb hby d_prog_66m5_0) rfl rfl ?_
    show Steps pP.tables eE below (s₁.setTop (mkF mM 1 #[.val (.ref u), .val (.ref t)] [(.ref u)])) _
    refine st_1 _ ?_
    show Steps pP.tables eE below (T_1.setTop (mkF mM 4 #[.val (.ref u), .val (.ref t)] [(.ref f), (.ref u)])) _
    refine Jvm.RoadKit.acmp (g := (mkF mM 4 #[.val (.ref u), .val (.ref t)] [(.ref f), (.ref u)])) X_1 hx rfl rfl rfl (pc0 := 4) (pc' := 7) (same := false) rfl (hb hby d_prog_66m5_4) rfl (decide_eq_false fun q => (Ne.symm nfu) (Value.ref.inj q)) (by decide) (by decide) ?_
    show Steps pP.tables eE below (T_1.setTop (mkF mM 7 #[.val (.ref u), .val (.ref t)] [])) _
    refine XS.aloadN X_1.here hx rfl (hb hby d_prog_66m5_7) rfl rfl ?_
    show Steps pP.tables eE below (T_1.setTop (mkF mM 8 #[.val (.ref u), .val (.ref t)] [(.ref t)])) _
    refine st_2 _ ?_
    show Steps pP.tables eE below (T_2.setTop (mkF mM 11 #[.val (.ref u), .val (.ref t)] [(.ref f), (.ref t)])) _
    refine Jvm.RoadKit.acmp (g := (mkF mM 11 #[.val (.ref u), .val (.ref t)] [(.ref f), (.ref t)])) X_2 hx rfl rfl rfl (pc0 := 11) (pc' := 18) (same := false) rfl (hb hby d_prog_66m5_11) rfl (decide_eq_false fun q => (Ne.symm nft) (Value.ref.inj q)) (by decide) (by decide) ?_
    show Steps pP.tables eE below (T_2.setTop (mkF mM 18 #[.val (.ref u), .val (.ref t)] [])) _
    refine XS.aloadN X_2.here hx rfl (hb hby d_prog_66m5_18) rfl rfl ?_
    show Steps pP.tables eE below (T_2.setTop (mkF mM 19 #[.val (.ref u), .val (.ref t)] [(.ref u)])) _
    refine st_3 _ ?_
    show Steps pP.tables eE below (T_3.setTop (mkF mM 22 #[.val (.ref u), .val (.ref t)] [(.ref u), (.ref u)])) _
    refine Jvm.RoadKit.acmp (g := (mkF mM 22 #[.val (.ref u), .val (.ref t)] [(.ref u), (.ref u)])) X_3 hx rfl rfl rfl (pc0 := 22) (pc' := 32) (same := true) rfl (hb hby d_prog_66m5_22) rfl (decide_eq_true rfl) (by decide) (by decide) ?_
    show Steps pP.tables eE below (T_3.setTop (mkF mM 32 #[.val (.ref u), .val (.ref t)] [])) _
    refine st_4 _ ?_
    show Steps pP.tables eE below (T_4.setTop (mkF mM 35 #[.val (.ref u), .val (.ref t)] [(.ref u)])) _
    refine XS.goto X_4.here hx rfl (pc0 := 35) (pc' := 41) rfl (hb hby d_prog_66m5_35) (by decide) (by decide) ?_
    show Steps pP.tables eE below (T_4.setTop (mkF mM 41 #[.val (.ref u), .val (.ref t)] [(.ref u)])) _
    exact retOut X_4 hx Bd.returns rfl (Or.inr (Or.inr (Or.inr (Or.inr ⟨rfl, rfl, rfl⟩)))) (hb hby d_prog_66m5_41) hr
  · show Q_op12 Z f u t h0 n0 _ T_4.heap _
    rw [e_4]
    exact ⟨rfl, N0, rfl⟩
theorem ef_op20 (mM : MethodId) (x0 : Addr) (x1 : Addr) : entryFrame mM #[(.ref x0), (.ref x1)] 2 = mkF mM 0 #[.val (.ref x0), .val (.ref x1)] [] := by first | (simp [entryFrame, mkF, argsToLocals, Value.category]; done) | rfl
def Q_op20 (Z : State) (f : Addr) (u : Addr) (t : Addr) (h0 : Heap) (n0 : Nat) (v_ : Option Value) (h_ : Heap) (L_ : List Loc) : Prop := v_ = some (.ref f) ∧ Fr n0 L_ ∧ h_ = h0
set_option maxRecDepth 65536 in
set_option maxHeartbeats 40000000 in
theorem rm_op20 (l : Launch) (Z : State) (a0 : Array Value) (hw : ∀ d ∈ tables_1, d.before a0 Z = true) (ws : List Jvm.Cond) (f : Addr) (u : Addr) (t : Addr) (h0 : Heap) (n0 : Nat) (Z0 : n0 ≤ h0.size) (S_Truth_FALSE : Sta Z h0 "com/example/querent/querent/engine/Truth" "FALSE" "Lcom/example/querent/querent/engine/Truth;" (.ref f)) (S_Truth_UNKNOWN : Sta Z h0 "com/example/querent/querent/engine/Truth" "UNKNOWN" "Lcom/example/querent/querent/engine/Truth;" (.ref u)) (S_Truth_TRUE : Sta Z h0 "com/example/querent/querent/engine/Truth" "TRUE" "Lcom/example/querent/querent/engine/Truth;" (.ref t)) (nfu : f ≠ u) (nft : f ≠ t) (nut : u ≠ t) :
    MetFree l (⟨"com/example/querent/querent/engine/Truth", "and", "(Lcom/example/querent/querent/engine/Truth;)Lcom/example/querent/querent/engine/Truth;"⟩ : MethodName) (head1 (Jvm.Cond.code (⟨"com/example/querent/querent/engine/Truth", "and", "(Lcom/example/querent/querent/engine/Truth;)Lcom/example/querent/querent/engine/Truth;"⟩ : MethodName) prog_66_method_5_code 2 (some (.object "com/example/querent/querent/engine/Truth")) :: ws) ({ frames := 0, cells := 0, slots := 0, locals := 0 } : Room)) (fun aa_ U_ => aa_ = #[(.ref t), (.ref f)] ∧ Z.Warmed39 U_.vm ∧ U_.heap = h0) (fun _ _ _ _ _ => True) (fun _ U_ o_ U'_ => ∃ v_ L_, o_ = .returned v_ ∧ Q_op20 Z f u t h0 n0 v_ U'_.heap L_ ∧ FrameEnd U_ o_ U'_ L_ ({ frames := 0, cells := 0, slots := 0, locals := 0 } : Room).cells ({ frames := 0, cells := 0, slots := 0, locals := 0 } : Room).slots) := by
  refine MetFree.of_bodySF (plainFor_of_name pn_1) hisR ?_
  intro pP eE sS mM argsA below meth cC s₁ Bd hml0 hP hK
  obtain ⟨rfl, hZ, hh⟩ := hP
  have hx := Bd.exec
  have hby := Bd.bytes
  have hml : cC.maxLocals = 2 := hml0
  have hown : sS.vm.findClass "com/example/querent/querent/engine/Truth" = some mM.cls := findClass_of_methodNamed Bd.named
  have hnm := (name_of_methodNamed Bd.named Bd.method).1
  have X0 : Stand pP l eE ({ frames := 0, cells := 0, slots := 0, locals := 0 } : Room) sS mM #[(.ref t), (.ref f)] below meth cC s₁ [] 0 0 := Stand.of_body Bd
  have e0 : s₁.heap = h0 := by rw [← hh, Bd.state]; rfl
  have N0 := Fr.nil n0
  have pre0 : ∀ t_, Steps pP.tables eE below (s₁.setTop (mkF mM 0 #[.val (.ref t), .val (.ref f)] [])) t_ → Steps pP.tables eE below (s₁.setTop (entryFrame mM #[(.ref t), (.ref f)] 2)) t_ := fun t_ k_ => castTop (ef_op20 mM t f) k_
  obtain ⟨T_1, X_1, e_1, st_1⟩ := getS2 X0 hx hZ hown (host := "") (Or.inl (hw _ (List.mem_of_getElem? (i := 13) rfl))) Via.refl e0 S_Truth_FALSE (g := (mkF mM 1 #[.val (.ref t), .val (.ref f)] [(.ref t)])) rfl (hb hby d_prog_66m5_1)
  obtain ⟨T_2, X_2, e_2, st_2⟩ := getS2 X_1 hx hZ hown (host := "") (Or.inl (hw _ (List.mem_of_getElem? (i := 13) rfl))) Via.refl e_1 S_Truth_FALSE (g := (mkF mM 8 #[.val (.ref t), .val (.ref f)] [(.ref f)])) rfl (hb hby d_prog_66m5_8)
  obtain ⟨T_3, X_3, e_3, st_3⟩ := getS2 X_2 hx hZ hown (host := "") (Or.inl (hw _ (List.mem_of_getElem? (i := 13) rfl))) Via.refl e_2 S_Truth_FALSE (g := (mkF mM 14 #[.val (.ref t), .val (.ref f)] [])) rfl (hb hby d_prog_66m5_14)
  obtain ⟨fs, hr, hrun, hended, hW, hsame⟩ := X_3.leave (v := some (.ref f)) (fun h => by rw [Bd.returns] at h; cases h)
  refine ⟨_, _, pre0 _ ?_, hrun, hended, _, _, rfl, ?_, ⟨_, rfl⟩, hW, hsame.mono (by decide) (by decide)⟩
  · show Steps pP.tables eE below (s₁.setTop (mkF mM 0 #[.val (.ref t), .val (.ref f)] [])) _
    refine XS.aloadN X0.here hx rfl (hb hby d_prog_66m5_0) rfl rfl ?_
    show Steps pP.tables eE below (s₁.setTop (mkF mM 1 #[.val (.ref t), .val (.ref f)] [(.ref t)])) _
    refine st_1 _ ?_
    show Steps pP.tables eE below (T_1.setTop (mkF mM 4 #[.val (.ref t), .val (.ref f)] [(.ref f), (.ref t)])) _
    refine Jvm.RoadKit.acmp (g := (mkF mM 4 #[.val (.ref t), .val (.ref f)] [(.ref f), (.ref t)])) X_1 hx rfl rfl rfl (pc0 := 4) (pc' := 7) (same := false) rfl (hb hby d_prog_66m5_4) rfl (decide_eq_false fun q => (Ne.symm nft) (Value.ref.inj q)) (by decide) (by decide) ?_
    show Steps pP.tables eE below (T_1.setTop (mkF mM 7 #[.val (.ref t), .val (.ref f)] [])) _
    refine XS.aloadN X_1.here hx rfl (hb hby d_prog_66m5_7) rfl rfl ?_
    show Steps pP.tables eE below (T_1.setTop (mkF mM 8 #[.val (.ref t), .val (.ref f)] [(.ref f)])) _
    refine st_2 _ ?_
    show Steps pP.tables eE below (T_2.setTop (mkF mM 11 #[.val (.ref t), .val (.ref f)] [(.ref f), (.ref f)])) _
    refine Jvm.RoadKit.acmp (g := (mkF mM 11 #[.val (.ref t), .val (.ref f)] [(.ref f), (.ref f)])) X_2 hx rfl rfl rfl (pc0 := 11) (pc' := 14) (same := true) rfl (hb hby d_prog_66m5_11) rfl (decide_eq_true rfl) (by decide) (by decide) ?_
    show Steps pP.tables eE below (T_2.setTop (mkF mM 14 #[.val (.ref t), .val (.ref f)] [])) _
    refine st_3 _ ?_
    show Steps pP.tables eE below (T_3.setTop (mkF mM 17 #[.val (.ref t), .val (.ref f)] [(.ref f)])) _
    exact retOut X_3 hx Bd.returns rfl (Or.inr (Or.inr (Or.inr (Or.inr ⟨rfl, rfl, rfl⟩)))) (hb hby d_prog_66m5_17) hr
  · show Q_op20 Z f u t h0 n0 _ T_3.heap _
    rw [e_3]
    exact ⟨rfl, N0, rfl⟩
theorem d_prog_66m5_25 : decode prog_66_method_5_code 25 = .ok (.aload_n 1, 1) := by decide +kernel
theorem d_prog_66m5_26 : decode prog_66_method_5_code 26 = .ok (.getstatic 10, 3) := by decide +kernel
theorem d_prog_66m5_29 : decode prog_66_method_5_code 29 = .ok (.if_acmp .ne 9, 3) := by decide +kernel
theorem ef_op21 (mM : MethodId) (x0 : Addr) (x1 : Addr) : entryFrame mM #[(.ref x0), (.ref x1)] 2 = mkF mM 0 #[.val (.ref x0), .val (.ref x1)] [] := by first | (simp [entryFrame, mkF, argsToLocals, Value.category]; done) | rfl
def Q_op21 (Z : State) (f : Addr) (u : Addr) (t : Addr) (h0 : Heap) (n0 : Nat) (v_ : Option Value) (h_ : Heap) (L_ : List Loc) : Prop := v_ = some (.ref u) ∧ Fr n0 L_ ∧ h_ = h0
set_option maxRecDepth 65536 in
set_option maxHeartbeats 40000000 in
theorem rm_op21 (l : Launch) (Z : State) (a0 : Array Value) (hw : ∀ d ∈ tables_1, d.before a0 Z = true) (ws : List Jvm.Cond) (f : Addr) (u : Addr) (t : Addr) (h0 : Heap) (n0 : Nat) (Z0 : n0 ≤ h0.size) (S_Truth_FALSE : Sta Z h0 "com/example/querent/querent/engine/Truth" "FALSE" "Lcom/example/querent/querent/engine/Truth;" (.ref f)) (S_Truth_UNKNOWN : Sta Z h0 "com/example/querent/querent/engine/Truth" "UNKNOWN" "Lcom/example/querent/querent/engine/Truth;" (.ref u)) (S_Truth_TRUE : Sta Z h0 "com/example/querent/querent/engine/Truth" "TRUE" "Lcom/example/querent/querent/engine/Truth;" (.ref t)) (nfu : f ≠ u) (nft : f ≠ t) (nut : u ≠ t) :
    MetFree l (⟨"com/example/querent/querent/engine/Truth", "and", "(Lcom/example/querent/querent/engine/Truth;)Lcom/example/querent/querent/engine/Truth;"⟩ : MethodName) (head1 (Jvm.Cond.code (⟨"com/example/querent/querent/engine/Truth", "and", "(Lcom/example/querent/querent/engine/Truth;)Lcom/example/querent/querent/engine/Truth;"⟩ : MethodName) prog_66_method_5_code 2 (some (.object "com/example/querent/querent/engine/Truth")) :: ws) ({ frames := 0, cells := 0, slots := 0, locals := 0 } : Room)) (fun aa_ U_ => aa_ = #[(.ref t), (.ref u)] ∧ Z.Warmed39 U_.vm ∧ U_.heap = h0) (fun _ _ _ _ _ => True) (fun _ U_ o_ U'_ => ∃ v_ L_, o_ = .returned v_ ∧ Q_op21 Z f u t h0 n0 v_ U'_.heap L_ ∧ FrameEnd U_ o_ U'_ L_ ({ frames := 0, cells := 0, slots := 0, locals := 0 } : Room).cells ({ frames := 0, cells := 0, slots := 0, locals := 0 } : Room).slots) := by
  refine MetFree.of_bodySF (plainFor_of_name pn_1) hisR ?_
  intro pP eE sS mM argsA below meth cC s₁ Bd hml0 hP hK
  obtain ⟨rfl, hZ, hh⟩ := hP
  have hx := Bd.exec
  have hby := Bd.bytes
  have hml : cC.maxLocals = 2 := hml0
  have hown : sS.vm.findClass "com/example/querent/querent/engine/Truth" = some mM.cls := findClass_of_methodNamed Bd.named
  have hnm := (name_of_methodNamed Bd.named Bd.method).1
  have X0 : Stand pP l eE ({ frames := 0, cells := 0, slots := 0, locals := 0 } : Room) sS mM #[(.ref t), (.ref u)] below meth cC s₁ [] 0 0 := Stand.of_body Bd
  have e0 : s₁.heap = h0 := by rw [← hh, Bd.state]; rfl
  have N0 := Fr.nil n0
  have pre0 : ∀ t_, Steps pP.tables eE below (s₁.setTop (mkF mM 0 #[.val (.ref t), .val (.ref u)] [])) t_ → Steps pP.tables eE below (s₁.setTop (entryFrame mM #[(.ref t), (.ref u)] 2)) t_ := fun t_ k_ => castTop (ef_op21 mM t u) k_
  obtain ⟨T_1, X_1, e_1, st_1⟩ := getS2 X0 hx hZ hown (host := "") (Or.inl (hw _ (List.mem_of_getElem? (i := 13) rfl))) Via.refl e0 S_Truth_FALSE (g := (mkF mM 1 #[.val (.ref t), .val (.ref u)] [(.ref t)])) rfl (hb hby d_prog_66m5_1)
  obtain ⟨T_2, X_2, e_2, st_2⟩ := getS2 X_1 hx hZ hown (host := "") (Or.inl (hw _ (List.mem_of_getElem? (i := 13) rfl))) Via.refl e_1 S_Truth_FALSE (g := (mkF mM 8 #[.val (.ref t), .val (.ref u)] [(.ref u)])) rfl (hb hby d_prog_66m5_8)
  obtain ⟨T_3, X_3, e_3, st_3⟩ := getS2 X_2 hx hZ hown (host := "") (Or.inl (hw _ (List.mem_of_getElem? (i := 25) rfl))) Via.refl e_2 S_Truth_UNKNOWN (g := (mkF mM 19 #[.val (.ref t), .val (.ref u)] [(.ref t)])) rfl (hb hby d_prog_66m5_19)
  obtain ⟨T_4, X_4, e_4, st_4⟩ := getS2 X_3 hx hZ hown (host := "") (Or.inl (hw _ (List.mem_of_getElem? (i := 25) rfl))) Via.refl e_3 S_Truth_UNKNOWN (g := (mkF mM 26 #[.val (.ref t), .val (.ref u)] [(.ref u)])) rfl (hb hby d_prog_66m5_26)
  obtain ⟨T_5, X_5, e_5, st_5⟩ := getS2 X_4 hx hZ hown (host := "") (Or.inl (hw _ (List.mem_of_getElem? (i := 25) rfl))) Via.refl e_4 S_Truth_UNKNOWN (g := (mkF mM 32 #[.val (.ref t), .val (.ref u)] [])) rfl (hb hby d_prog_66m5_32)
  obtain ⟨fs, hr, hrun, hended, hW, hsame⟩ := X_5.leave (v := some (.ref u)) (fun h => by rw [Bd.returns] at h; cases h)
  refine ⟨_, _, pre0 _ ?_, hrun, hended, _, _, rfl, ?_, ⟨_, rfl⟩, hW, hsame.mono (by decide) (by decide)⟩
  · show Steps pP.tables eE below (s₁.setTop (mkF mM 0 #[.val (.ref t), .val (.ref u)] [])) _
    refine XS.aloadN X0.here hx rfl (hb hby d_prog_66m5_0) rfl rfl ?_
    show Steps pP.tables eE below (s₁.setTop (mkF mM 1 #[.val (.ref t), .val (.ref u)] [(.ref t)])) _
    refine st_1 _ ?_
    show Steps pP.tables eE below (T_1.setTop (mkF mM 4 #[.val (.ref t), .val (.ref u)] [(.ref f), (.ref t)])) _
    refine Jvm.RoadKit.acmp (g := (mkF mM 4 #[.val (.ref t), .val (.ref u)] [(.ref f), (.ref t)])) X_1 hx rfl rfl rfl (pc0 := 4) (pc' := 7) (same := false) rfl (hb hby d_prog_66m5_4) rfl (decide_eq_false fun q => (Ne.symm nft) (Value.ref.inj q)) (by decide) (by decide) ?_
    show Steps pP.tables eE below (T_1.setTop (mkF mM 7 #[.val (.ref t), .val (.ref u)] [])) _
    refine XS.aloadN X_1.here hx rfl (hb hby d_prog_66m5_7) rfl rfl ?_
    show Steps pP.tables eE below (T_1.setTop (mkF mM 8 #[.val (.ref t), .val (.ref u)] [(.ref u)])) _
    refine st_2 _ ?_
    show Steps pP.tables eE below (T_2.setTop (mkF mM 11 #[.val (.ref t), .val (.ref u)] [(.ref f), (.ref u)])) _
    refine Jvm.RoadKit.acmp (g := (mkF mM 11 #[.val (.ref t), .val (.ref u)] [(.ref f), (.ref u)])) X_2 hx rfl rfl rfl (pc0 := 11) (pc' := 18) (same := false) rfl (hb hby d_prog_66m5_11) rfl (decide_eq_false fun q => (Ne.symm nfu) (Value.ref.inj q)) (by decide) (by decide) ?_
    show Steps pP.tables eE below (T_2.setTop (mkF mM 18 #[.val (.ref t), .val (.ref u)] [])) _
    refine XS.aloadN X_2.here hx rfl (hb hby d_prog_66m5_18) rfl rfl ?_
    show Steps pP.tables eE below (T_2.setTop (mkF mM 19 #[.val (.ref t), .val (.ref u)] [(.ref t)])) _
    refine st_3 _ ?_
    show Steps pP.tables eE below (T_3.setTop (mkF mM 22 #[.val (.ref t), .val (.ref u)] [(.ref u), (.ref t)])) _
    refine Jvm.RoadKit.acmp (g := (mkF mM 22 #[.val (.ref t), .val (.ref u)] [(.ref u), (.ref t)])) X_3 hx rfl rfl rfl (pc0 := 22) (pc' := 25) (same := false) rfl (hb hby d_prog_66m5_22) rfl (decide_eq_false fun q => (Ne.symm nut) (Value.ref.inj q)) (by decide) (by decide) ?_
    show Steps pP.tables eE below (T_3.setTop (mkF mM 25 #[.val (.ref t), .val (.ref u)] [])) _
    refine XS.aloadN X_3.here hx rfl (hb hby d_prog_66m5_25) rfl rfl ?_
    show Steps pP.tables eE below (T_3.setTop (mkF mM 26 #[.val (.ref t), .val (.ref u)] [(.ref u)])) _
    refine st_4 _ ?_
    show Steps pP.tables eE below (T_4.setTop (mkF mM 29 #[.val (.ref t), .val (.ref u)] [(.ref u), (.ref u)])) _
    refine Jvm.RoadKit.acmp (g := (mkF mM 29 #[.val (.ref t), .val (.ref u)] [(.ref u), (.ref u)])) X_4 hx rfl rfl rfl (pc0 := 29) (pc' := 32) (same := true) rfl (hb hby d_prog_66m5_29) rfl (decide_eq_true rfl) (by decide) (by decide) ?_
    show Steps pP.tables eE below (T_4.setTop (mkF mM 32 #[.val (.ref t), .val (.ref u)] [])) _
    refine st_5 _ ?_
    show Steps pP.tables eE below (T_5.setTop (mkF mM 35 #[.val (.ref t), .val (.ref u)] [(.ref u)])) _
    refine XS.goto X_5.here hx rfl (pc0 := 35) (pc' := 41) rfl (hb hby d_prog_66m5_35) (by decide) (by decide) ?_
    show Steps pP.tables eE below (T_5.setTop (mkF mM 41 #[.val (.ref t), .val (.ref u)] [(.ref u)])) _
    exact retOut X_5 hx Bd.returns rfl (Or.inr (Or.inr (Or.inr (Or.inr ⟨rfl, rfl, rfl⟩)))) (hb hby d_prog_66m5_41) hr
  · show Q_op21 Z f u t h0 n0 _ T_5.heap _
    rw [e_5]
    exact ⟨rfl, N0, rfl⟩
theorem d_prog_66m5_38 : decode prog_66_method_5_code 38 = .ok (.getstatic 3, 3) := by decide +kernel
theorem ef_op22 (mM : MethodId) (x0 : Addr) (x1 : Addr) : entryFrame mM #[(.ref x0), (.ref x1)] 2 = mkF mM 0 #[.val (.ref x0), .val (.ref x1)] [] := by first | (simp [entryFrame, mkF, argsToLocals, Value.category]; done) | rfl
def Q_op22 (Z : State) (f : Addr) (u : Addr) (t : Addr) (h0 : Heap) (n0 : Nat) (v_ : Option Value) (h_ : Heap) (L_ : List Loc) : Prop := v_ = some (.ref t) ∧ Fr n0 L_ ∧ h_ = h0
set_option maxRecDepth 65536 in
set_option maxHeartbeats 40000000 in
theorem rm_op22 (l : Launch) (Z : State) (a0 : Array Value) (hw : ∀ d ∈ tables_1, d.before a0 Z = true) (ws : List Jvm.Cond) (f : Addr) (u : Addr) (t : Addr) (h0 : Heap) (n0 : Nat) (Z0 : n0 ≤ h0.size) (S_Truth_FALSE : Sta Z h0 "com/example/querent/querent/engine/Truth" "FALSE" "Lcom/example/querent/querent/engine/Truth;" (.ref f)) (S_Truth_UNKNOWN : Sta Z h0 "com/example/querent/querent/engine/Truth" "UNKNOWN" "Lcom/example/querent/querent/engine/Truth;" (.ref u)) (S_Truth_TRUE : Sta Z h0 "com/example/querent/querent/engine/Truth" "TRUE" "Lcom/example/querent/querent/engine/Truth;" (.ref t)) (nfu : f ≠ u) (nft : f ≠ t) (nut : u ≠ t) :
    MetFree l (⟨"com/example/querent/querent/engine/Truth", "and", "(Lcom/example/querent/querent/engine/Truth;)Lcom/example/querent/querent/engine/Truth;"⟩ : MethodName) (head1 (Jvm.Cond.code (⟨"com/example/querent/querent/engine/Truth", "and", "(Lcom/example/querent/querent/engine/Truth;)Lcom/example/querent/querent/engine/Truth;"⟩ : MethodName) prog_66_method_5_code 2 (some (.object "com/example/querent/querent/engine/Truth")) :: ws) ({ frames := 0, cells := 0, slots := 0, locals := 0 } : Room)) (fun aa_ U_ => aa_ = #[(.ref t), (.ref t)] ∧ Z.Warmed39 U_.vm ∧ U_.heap = h0) (fun _ _ _ _ _ => True) (fun _ U_ o_ U'_ => ∃ v_ L_, o_ = .returned v_ ∧ Q_op22 Z f u t h0 n0 v_ U'_.heap L_ ∧ FrameEnd U_ o_ U'_ L_ ({ frames := 0, cells := 0, slots := 0, locals := 0 } : Room).cells ({ frames := 0, cells := 0, slots := 0, locals := 0 } : Room).slots) := by
  refine MetFree.of_bodySF (plainFor_of_name pn_1) hisR ?_
  intro pP eE sS mM argsA below meth cC s₁ Bd hml0 hP hK
  obtain ⟨rfl, hZ, hh⟩ := hP
  have hx := Bd.exec
  have hby := Bd.bytes
  have hml : cC.maxLocals = 2 := hml0
  have hown : sS.vm.findClass "com/example/querent/querent/engine/Truth" = some mM.cls := findClass_of_methodNamed Bd.named
  have hnm := (name_of_methodNamed Bd.named Bd.method).1
  have X0 : Stand pP l eE ({ frames := 0, cells := 0, slots := 0, locals := 0 } : Room) sS mM #[(.ref t), (.ref t)] below meth cC s₁ [] 0 0 := Stand.of_body Bd
  have e0 : s₁.heap = h0 := by rw [← hh, Bd.state]; rfl
  have N0 := Fr.nil n0
  have pre0 : ∀ t_, Steps pP.tables eE below (s₁.setTop (mkF mM 0 #[.val (.ref t), .val (.ref t)] [])) t_ → Steps pP.tables eE below (s₁.setTop (entryFrame mM #[(.ref t), (.ref t)] 2)) t_ := fun t_ k_ => castTop (ef_op22 mM t t) k_
  obtain ⟨T_1, X_1, e_1, st_1⟩ := getS2 X0 hx hZ hown (host := "") (Or.inl (hw _ (List.mem_of_getElem? (i := 13) rfl))) Via.refl e0 S_Truth_FALSE (g := (mkF mM 1 #[.val (.ref t), .val (.ref t)] [(.ref t)])) rfl (hb hby d_prog_66m5_1)
  obtain ⟨T_2, X_2, e_2, st_2⟩ := getS2 X_1 hx hZ hown (host := "") (Or.inl (hw _ (List.mem_of_getElem? (i := 13) rfl))) Via.refl e_1 S_Truth_FALSE (g := (mkF mM 8 #[.val (.ref t), .val (.ref t)] [(.ref t)])) rfl (hb hby d_prog_66m5_8)
  obtain ⟨T_3, X_3, e_3, st_3⟩ := getS2 X_2 hx hZ hown (host := "") (Or.inl (hw _ (List.mem_of_getElem? (i := 25) rfl))) Via.refl e_2 S_Truth_UNKNOWN (g := (mkF mM 19 #[.val (.ref t), .val (.ref t)] [(.ref t)])) rfl (hb hby d_prog_66m5_19)
  obtain ⟨T_4, X_4, e_4, st_4⟩ := getS2 X_3 hx hZ hown (host := "") (Or.inl (hw _ (List.mem_of_getElem? (i := 25) rfl))) Via.refl e_3 S_Truth_UNKNOWN (g := (mkF mM 26 #[.val (.ref t), .val (.ref t)] [(.ref t)])) rfl (hb hby d_prog_66m5_26)
  obtain ⟨T_5, X_5, e_5, st_5⟩ := getS2 X_4 hx hZ hown (host := "") (Or.inl (hw _ (List.mem_of_getElem? (i := 26) rfl))) Via.refl e_4 S_Truth_TRUE (g := (mkF mM 38 #[.val (.ref t), .val (.ref t)] [])) rfl (hb hby d_prog_66m5_38)
  obtain ⟨fs, hr, hrun, hended, hW, hsame⟩ := X_5.leave (v := some (.ref t)) (fun h => by rw [Bd.returns] at h; cases h)
  refine ⟨_, _, pre0 _ ?_, hrun, hended, _, _, rfl, ?_, ⟨_, rfl⟩, hW, hsame.mono (by decide) (by decide)⟩
  · show Steps pP.tables eE below (s₁.setTop (mkF mM 0 #[.val (.ref t), .val (.ref t)] [])) _
    refine XS.aloadN X0.here hx rfl (hb hby d_prog_66m5_0) rfl rfl ?_
    show Steps pP.tables eE below (s₁.setTop (mkF mM 1 #[.val (.ref t), .val (.ref t)] [(.ref t)])) _
    refine st_1 _ ?_
    show Steps pP.tables eE below (T_1.setTop (mkF mM 4 #[.val (.ref t), .val (.ref t)] [(.ref f), (.ref t)])) _
    refine Jvm.RoadKit.acmp (g := (mkF mM 4 #[.val (.ref t), .val (.ref t)] [(.ref f), (.ref t)])) X_1 hx rfl rfl rfl (pc0 := 4) (pc' := 7) (same := false) rfl (hb hby d_prog_66m5_4) rfl (decide_eq_false fun q => (Ne.symm nft) (Value.ref.inj q)) (by decide) (by decide) ?_
    show Steps pP.tables eE below (T_1.setTop (mkF mM 7 #[.val (.ref t), .val (.ref t)] [])) _
    refine XS.aloadN X_1.here hx rfl (hb hby d_prog_66m5_7) rfl rfl ?_
    show Steps pP.tables eE below (T_1.setTop (mkF mM 8 #[.val (.ref t), .val (.ref t)] [(.ref t)])) _
    refine st_2 _ ?_
    show Steps pP.tables eE below (T_2.setTop (mkF mM 11 #[.val (.ref t), .val (.ref t)] [(.ref f), (.ref t)])) _
    refine Jvm.RoadKit.acmp (g := (mkF mM 11 #[.val (.ref t), .val (.ref t)] [(.ref f), (.ref t)])) X_2 hx rfl rfl rfl (pc0 := 11) (pc' := 18) (same := false) rfl (hb hby d_prog_66m5_11) rfl (decide_eq_false fun q => (Ne.symm nft) (Value.ref.inj q)) (by decide) (by decide) ?_
    show Steps pP.tables eE below (T_2.setTop (mkF mM 18 #[.val (.ref t), .val (.ref t)] [])) _
    refine XS.aloadN X_2.here hx rfl (hb hby d_prog_66m5_18) rfl rfl ?_
    show Steps pP.tables eE below (T_2.setTop (mkF mM 19 #[.val (.ref t), .val (.ref t)] [(.ref t)])) _
    refine st_3 _ ?_
    show Steps pP.tables eE below (T_3.setTop (mkF mM 22 #[.val (.ref t), .val (.ref t)] [(.ref u), (.ref t)])) _
    refine Jvm.RoadKit.acmp (g := (mkF mM 22 #[.val (.ref t), .val (.ref t)] [(.ref u), (.ref t)])) X_3 hx rfl rfl rfl (pc0 := 22) (pc' := 25) (same := false) rfl (hb hby d_prog_66m5_22) rfl (decide_eq_false fun q => (Ne.symm nut) (Value.ref.inj q)) (by decide) (by decide) ?_
    show Steps pP.tables eE below (T_3.setTop (mkF mM 25 #[.val (.ref t), .val (.ref t)] [])) _
    refine XS.aloadN X_3.here hx rfl (hb hby d_prog_66m5_25) rfl rfl ?_
    show Steps pP.tables eE below (T_3.setTop (mkF mM 26 #[.val (.ref t), .val (.ref t)] [(.ref t)])) _
    refine st_4 _ ?_
    show Steps pP.tables eE below (T_4.setTop (mkF mM 29 #[.val (.ref t), .val (.ref t)] [(.ref u), (.ref t)])) _
    refine Jvm.RoadKit.acmp (g := (mkF mM 29 #[.val (.ref t), .val (.ref t)] [(.ref u), (.ref t)])) X_4 hx rfl rfl rfl (pc0 := 29) (pc' := 38) (same := false) rfl (hb hby d_prog_66m5_29) rfl (decide_eq_false fun q => (Ne.symm nut) (Value.ref.inj q)) (by decide) (by decide) ?_
    show Steps pP.tables eE below (T_4.setTop (mkF mM 38 #[.val (.ref t), .val (.ref t)] [])) _
    refine st_5 _ ?_
    show Steps pP.tables eE below (T_5.setTop (mkF mM 41 #[.val (.ref t), .val (.ref t)] [(.ref t)])) _
    exact retOut X_5 hx Bd.returns rfl (Or.inr (Or.inr (Or.inr (Or.inr ⟨rfl, rfl, rfl⟩)))) (hb hby d_prog_66m5_41) hr
  · show Q_op22 Z f u t h0 n0 _ T_5.heap _
    rw [e_5]
    exact ⟨rfl, N0, rfl⟩
theorem d_method_3_0 : decode method_3_code 0 = .ok (.aload_n 0, 1) := by decide +kernel
theorem d_method_3_1 : decode method_3_code 1 = .ok (.getstatic 7, 3) := by decide +kernel
theorem d_method_3_4 : decode method_3_code 4 = .ok (.if_acmp .ne 5, 3) := by decide +kernel
theorem d_method_3_7 : decode method_3_code 7 = .ok (.iconst 0, 1) := by decide +kernel
theorem d_method_3_8 : decode method_3_code 8 = .ok (.ireturn, 1) := by decide +kernel
theorem ef_rank0 (mM : MethodId) (x0 : Addr) : entryFrame mM #[(.ref x0)] 1 = mkF mM 0 #[.val (.ref x0)] [] := by first | (simp [entryFrame, mkF, argsToLocals, Value.category]; done) | rfl
def Q_rank0 (Z : State) (f : Addr) (u : Addr) (t : Addr) (h0 : Heap) (n0 : Nat) (v_ : Option Value) (h_ : Heap) (L_ : List Loc) : Prop := v_ = some (.int (0 : Int32)) ∧ Fr n0 L_ ∧ h_ = h0
set_option maxRecDepth 65536 in
set_option maxHeartbeats 40000000 in
theorem rm_rank0 (l : Launch) (Z : State) (a0 : Array Value) (hw : ∀ d ∈ tables_1, d.before a0 Z = true) (ws : List Jvm.Cond) (f : Addr) (u : Addr) (t : Addr) (h0 : Heap) (n0 : Nat) (Z0 : n0 ≤ h0.size) (S_Truth_FALSE : Sta Z h0 "com/example/querent/querent/engine/Truth" "FALSE" "Lcom/example/querent/querent/engine/Truth;" (.ref f)) (S_Truth_UNKNOWN : Sta Z h0 "com/example/querent/querent/engine/Truth" "UNKNOWN" "Lcom/example/querent/querent/engine/Truth;" (.ref u)) (S_Truth_TRUE : Sta Z h0 "com/example/querent/querent/engine/Truth" "TRUE" "Lcom/example/querent/querent/engine/Truth;" (.ref t)) (nfu : f ≠ u) (nft : f ≠ t) (nut : u ≠ t) :
    MetFree l (⟨"com/example/querent/querent/engine/TruthAndPinLaw", "rank", "(Lcom/example/querent/querent/engine/Truth;)I"⟩ : MethodName) (head1 (Jvm.Cond.code (⟨"com/example/querent/querent/engine/TruthAndPinLaw", "rank", "(Lcom/example/querent/querent/engine/Truth;)I"⟩ : MethodName) method_3_code 1 (some .int) :: ws) ({ frames := 0, cells := 0, slots := 0, locals := 0 } : Room)) (fun aa_ U_ => aa_ = #[(.ref f)] ∧ Z.Warmed39 U_.vm ∧ U_.heap = h0) (fun _ _ _ _ _ => True) (fun _ U_ o_ U'_ => ∃ v_ L_, o_ = .returned v_ ∧ Q_rank0 Z f u t h0 n0 v_ U'_.heap L_ ∧ FrameEnd U_ o_ U'_ L_ ({ frames := 0, cells := 0, slots := 0, locals := 0 } : Room).cells ({ frames := 0, cells := 0, slots := 0, locals := 0 } : Room).slots) := by
  refine MetFree.of_bodySF (plainFor_of_name pn_0) hisR ?_
  intro pP eE sS mM argsA below meth cC s₁ Bd hml0 hP hK
  obtain ⟨rfl, hZ, hh⟩ := hP
  have hx := Bd.exec
  have hby := Bd.bytes
  have hml : cC.maxLocals = 1 := hml0
  have hown : sS.vm.findClass "com/example/querent/querent/engine/TruthAndPinLaw" = some mM.cls := findClass_of_methodNamed Bd.named
  have hnm := (name_of_methodNamed Bd.named Bd.method).1
  have X0 : Stand pP l eE ({ frames := 0, cells := 0, slots := 0, locals := 0 } : Room) sS mM #[(.ref f)] below meth cC s₁ [] 0 0 := Stand.of_body Bd
  have e0 : s₁.heap = h0 := by rw [← hh, Bd.state]; rfl
  have N0 := Fr.nil n0
  have pre0 : ∀ t_, Steps pP.tables eE below (s₁.setTop (mkF mM 0 #[.val (.ref f)] [])) t_ → Steps pP.tables eE below (s₁.setTop (entryFrame mM #[(.ref f)] 1)) t_ := fun t_ k_ => castTop (ef_rank0 mM f) k_
  obtain ⟨T_1, X_1, e_1, st_1⟩ := getS2 X0 hx hZ hown (host := "") (Or.inl (hw _ (List.mem_of_getElem? (i := 5) rfl))) Via.refl e0 S_Truth_FALSE (g := (mkF mM 1 #[.val (.ref f)] [(.ref f)])) rfl (hb hby d_method_3_1)
  obtain ⟨fs, hr, hrun, hended, hW, hsame⟩ := X_1.leave (v := some (.int (0 : Int32))) (fun h => by rw [Bd.returns] at h; cases h)
  refine ⟨_, _, pre0 _ ?_, hrun, hended, _, _, rfl, ?_, ⟨_, rfl⟩, hW, hsame.mono (by decide) (by decide)⟩
  · show Steps pP.tables eE below (s₁.setTop (mkF mM 0 #[.val (.ref f)] [])) _
    refine XS.aloadN X0.here hx rfl (hb hby d_method_3_0) rfl rfl ?_
    show Steps pP.tables eE below (s₁.setTop (mkF mM 1 #[.val (.ref f)] [(.ref f)])) _
    refine st_1 _ ?_
    show Steps pP.tables eE below (T_1.setTop (mkF mM 4 #[.val (.ref f)] [(.ref f), (.ref f)])) _
    refine Jvm.RoadKit.acmp (g := (mkF mM 4 #[.val (.ref f)] [(.ref f), (.ref f)])) X_1 hx rfl rfl rfl (pc0 := 4) (pc' := 7) (same := true) rfl (hb hby d_method_3_4) rfl (decide_eq_true rfl) (by decide) (by decide) ?_
    show Steps pP.tables eE below (T_1.setTop (mkF mM 7 #[.val (.ref f)] [])) _
    refine XS.iconst X_1.here hx rfl (hb hby d_method_3_7) ?_
    show Steps pP.tables eE below (T_1.setTop (mkF mM 8 #[.val (.ref f)] [(.int (0 : Int32))])) _
    exact retI X_1 hx Bd.returns (hb hby d_method_3_8) hr
  · show Q_rank0 Z f u t h0 n0 _ T_1.heap _
    rw [e_1]
    exact ⟨rfl, N0, rfl⟩
theorem d_method_3_9 : decode method_3_code 9 = .ok (.aload_n 0, 1) := by decide +kernel
theorem d_method_3_10 : decode method_3_code 10 = .ok (.getstatic 13, 3) := by decide +kernel
theorem d_method_3_13 : decode method_3_code 13 = .ok (.if_acmp .ne 5, 3) := by decide +kernel
theorem d_method_3_16 : decode method_3_code 16 = .ok (.iconst 1, 1) := by decide +kernel
theorem d_method_3_17 : decode method_3_code 17 = .ok (.ireturn, 1) := by decide +kernel
theorem ef_rank1 (mM : MethodId) (x0 : Addr) : entryFrame mM #[(.ref x0)] 1 = mkF mM 0 #[.val (.ref x0)] [] := by first | (simp [entryFrame, mkF, argsToLocals, Value.category]; done) | rfl
def Q_rank1 (Z : State) (f : Addr) (u : Addr) (t : Addr) (h0 : Heap) (n0 : Nat) (v_ : Option Value) (h_ : Heap) (L_ : List Loc) : Prop := v_ = some (.int (1 : Int32)) ∧ Fr n0 L_ ∧ h_ = h0
set_option maxRecDepth 65536 in
set_option maxHeartbeats 40000000 in
theorem rm_rank1 (l : Launch) (Z : State) (a0 : Array Value) (hw : ∀ d ∈ tables_1, d.before a0 Z = true) (ws : List Jvm.Cond) (f : Addr) (u : Addr) (t : Addr) (h0 : Heap) (n0 : Nat) (Z0 : n0 ≤ h0.size) (S_Truth_FALSE : Sta Z h0 "com/example/querent/querent/engine/Truth" "FALSE" "Lcom/example/querent/querent/engine/Truth;" (.ref f)) (S_Truth_UNKNOWN : Sta Z h0 "com/example/querent/querent/engine/Truth" "UNKNOWN" "Lcom/example/querent/querent/engine/Truth;" (.ref u)) (S_Truth_TRUE : Sta Z h0 "com/example/querent/querent/engine/Truth" "TRUE" "Lcom/example/querent/querent/engine/Truth;" (.ref t)) (nfu : f ≠ u) (nft : f ≠ t) (nut : u ≠ t) :
    MetFree l (⟨"com/example/querent/querent/engine/TruthAndPinLaw", "rank", "(Lcom/example/querent/querent/engine/Truth;)I"⟩ : MethodName) (head1 (Jvm.Cond.code (⟨"com/example/querent/querent/engine/TruthAndPinLaw", "rank", "(Lcom/example/querent/querent/engine/Truth;)I"⟩ : MethodName) method_3_code 1 (some .int) :: ws) ({ frames := 0, cells := 0, slots := 0, locals := 0 } : Room)) (fun aa_ U_ => aa_ = #[(.ref u)] ∧ Z.Warmed39 U_.vm ∧ U_.heap = h0) (fun _ _ _ _ _ => True) (fun _ U_ o_ U'_ => ∃ v_ L_, o_ = .returned v_ ∧ Q_rank1 Z f u t h0 n0 v_ U'_.heap L_ ∧ FrameEnd U_ o_ U'_ L_ ({ frames := 0, cells := 0, slots := 0, locals := 0 } : Room).cells ({ frames := 0, cells := 0, slots := 0, locals := 0 } : Room).slots) := by
  refine MetFree.of_bodySF (plainFor_of_name pn_0) hisR ?_
  intro pP eE sS mM argsA below meth cC s₁ Bd hml0 hP hK
  obtain ⟨rfl, hZ, hh⟩ := hP
  have hx := Bd.exec
  have hby := Bd.bytes
  have hml : cC.maxLocals = 1 := hml0
  have hown : sS.vm.findClass "com/example/querent/querent/engine/TruthAndPinLaw" = some mM.cls := findClass_of_methodNamed Bd.named
  have hnm := (name_of_methodNamed Bd.named Bd.method).1
  have X0 : Stand pP l eE ({ frames := 0, cells := 0, slots := 0, locals := 0 } : Room) sS mM #[(.ref u)] below meth cC s₁ [] 0 0 := Stand.of_body Bd
  have e0 : s₁.heap = h0 := by rw [← hh, Bd.state]; rfl
  have N0 := Fr.nil n0
  have pre0 : ∀ t_, Steps pP.tables eE below (s₁.setTop (mkF mM 0 #[.val (.ref u)] [])) t_ → Steps pP.tables eE below (s₁.setTop (entryFrame mM #[(.ref u)] 1)) t_ := fun t_ k_ => castTop (ef_rank1 mM u) k_
  obtain ⟨T_1, X_1, e_1, st_1⟩ := getS2 X0 hx hZ hown (host := "") (Or.inl (hw _ (List.mem_of_getElem? (i := 5) rfl))) Via.refl e0 S_Truth_FALSE (g := (mkF mM 1 #[.val (.ref u)] [(.ref u)])) rfl (hb hby d_method_3_1)
  obtain ⟨T_2, X_2, e_2, st_2⟩ := getS2 X_1 hx hZ hown (host := "") (Or.inl (hw _ (List.mem_of_getElem? (i := 23) rfl))) Via.refl e_1 S_Truth_UNKNOWN (g := (mkF mM 10 #[.val (.ref u)] [(.ref u)])) rfl (hb hby d_method_3_10)
  obtain ⟨fs, hr, hrun, hended, hW, hsame⟩ := X_2.leave (v := some (.int (1 : Int32))) (fun h => by rw [Bd.returns] at h; cases h)
  refine ⟨_, _, pre0 _ ?_, hrun, hended, _, _, rfl, ?_, ⟨_, rfl⟩, hW, hsame.mono (by decide) (by decide)⟩
  · show Steps pP.tables eE below (s₁.setTop (mkF mM 0 #[.val (.ref u)] [])) _
    refine XS.aloadN X0.here hx rfl (hb hby d_method_3_0) rfl rfl ?_
    show Steps pP.tables eE below (s₁.setTop (mkF mM 1 #[.val (.ref u)] [(.ref u)])) _
    refine st_1 _ ?_
    show Steps pP.tables eE below (T_1.setTop (mkF mM 4 #[.val (.ref u)] [(.ref f), (.ref u)])) _
    refine Jvm.RoadKit.acmp (g := (mkF mM 4 #[.val (.ref u)] [(.ref f), (.ref u)])) X_1 hx rfl rfl rfl (pc0 := 4) (pc' := 9) (same := false) rfl (hb hby d_method_3_4) rfl (decide_eq_false fun q => (Ne.symm nfu) (Value.ref.inj q)) (by decide) (by decide) ?_
    show Steps pP.tables eE below (T_1.setTop (mkF mM 9 #[.val (.ref u)] [])) _
    refine XS.aloadN X_1.here hx rfl (hb hby d_method_3_9) rfl rfl ?_
    show Steps pP.tables eE below (T_1.setTop (mkF mM 10 #[.val (.ref u)] [(.ref u)])) _
    refine st_2 _ ?_
    show Steps pP.tables eE below (T_2.setTop (mkF mM 13 #[.val (.ref u)] [(.ref u), (.ref u)])) _
    refine Jvm.RoadKit.acmp (g := (mkF mM 13 #[.val (.ref u)] [(.ref u), (.ref u)])) X_2 hx rfl rfl rfl (pc0 := 13) (pc' := 16) (same := true) rfl (hb hby d_method_3_13) rfl (decide_eq_true rfl) (by decide) (by decide) ?_
    show Steps pP.tables eE below (T_2.setTop (mkF mM 16 #[.val (.ref u)] [])) _
    refine XS.iconst X_2.here hx rfl (hb hby d_method_3_16) ?_
    show Steps pP.tables eE below (T_2.setTop (mkF mM 17 #[.val (.ref u)] [(.int (1 : Int32))])) _
    exact retI X_2 hx Bd.returns (hb hby d_method_3_17) hr
  · show Q_rank1 Z f u t h0 n0 _ T_2.heap _
    rw [e_2]
    exact ⟨rfl, N0, rfl⟩
theorem d_method_3_18 : decode method_3_code 18 = .ok (.aload_n 0, 1) := by decide +kernel
theorem d_method_3_19 : decode method_3_code 19 = .ok (.getstatic 16, 3) := by decide +kernel
theorem d_method_3_22 : decode method_3_code 22 = .ok (.if_acmp .ne 5, 3) := by decide +kernel
theorem d_method_3_25 : decode method_3_code 25 = .ok (.iconst 2, 1) := by decide +kernel
theorem d_method_3_26 : decode method_3_code 26 = .ok (.ireturn, 1) := by decide +kernel
theorem ef_rank2 (mM : MethodId) (x0 : Addr) : entryFrame mM #[(.ref x0)] 1 = mkF mM 0 #[.val (.ref x0)] [] := by first | (simp [entryFrame, mkF, argsToLocals, Value.category]; done) | rfl
def Q_rank2 (Z : State) (f : Addr) (u : Addr) (t : Addr) (h0 : Heap) (n0 : Nat) (v_ : Option Value) (h_ : Heap) (L_ : List Loc) : Prop := v_ = some (.int (2 : Int32)) ∧ Fr n0 L_ ∧ h_ = h0
set_option maxRecDepth 65536 in
set_option maxHeartbeats 40000000 in
theorem rm_rank2 (l : Launch) (Z : State) (a0 : Array Value) (hw : ∀ d ∈ tables_1, d.before a0 Z = true) (ws : List Jvm.Cond) (f : Addr) (u : Addr) (t : Addr) (h0 : Heap) (n0 : Nat) (Z0 : n0 ≤ h0.size) (S_Truth_FALSE : Sta Z h0 "com/example/querent/querent/engine/Truth" "FALSE" "Lcom/example/querent/querent/engine/Truth;" (.ref f)) (S_Truth_UNKNOWN : Sta Z h0 "com/example/querent/querent/engine/Truth" "UNKNOWN" "Lcom/example/querent/querent/engine/Truth;" (.ref u)) (S_Truth_TRUE : Sta Z h0 "com/example/querent/querent/engine/Truth" "TRUE" "Lcom/example/querent/querent/engine/Truth;" (.ref t)) (nfu : f ≠ u) (nft : f ≠ t) (nut : u ≠ t) :
    MetFree l (⟨"com/example/querent/querent/engine/TruthAndPinLaw", "rank", "(Lcom/example/querent/querent/engine/Truth;)I"⟩ : MethodName) (head1 (Jvm.Cond.code (⟨"com/example/querent/querent/engine/TruthAndPinLaw", "rank", "(Lcom/example/querent/querent/engine/Truth;)I"⟩ : MethodName) method_3_code 1 (some .int) :: ws) ({ frames := 0, cells := 0, slots := 0, locals := 0 } : Room)) (fun aa_ U_ => aa_ = #[(.ref t)] ∧ Z.Warmed39 U_.vm ∧ U_.heap = h0) (fun _ _ _ _ _ => True) (fun _ U_ o_ U'_ => ∃ v_ L_, o_ = .returned v_ ∧ Q_rank2 Z f u t h0 n0 v_ U'_.heap L_ ∧ FrameEnd U_ o_ U'_ L_ ({ frames := 0, cells := 0, slots := 0, locals := 0 } : Room).cells ({ frames := 0, cells := 0, slots := 0, locals := 0 } : Room).slots) := by
  refine MetFree.of_bodySF (plainFor_of_name pn_0) hisR ?_
  intro pP eE sS mM argsA below meth cC s₁ Bd hml0 hP hK
  obtain ⟨rfl, hZ, hh⟩ := hP
  have hx := Bd.exec
  have hby := Bd.bytes
  have hml : cC.maxLocals = 1 := hml0
  have hown : sS.vm.findClass "com/example/querent/querent/engine/TruthAndPinLaw" = some mM.cls := findClass_of_methodNamed Bd.named
  have hnm := (name_of_methodNamed Bd.named Bd.method).1
  have X0 : Stand pP l eE ({ frames := 0, cells := 0, slots := 0, locals := 0 } : Room) sS mM #[(.ref t)] below meth cC s₁ [] 0 0 := Stand.of_body Bd
  have e0 : s₁.heap = h0 := by rw [← hh, Bd.state]; rfl
  have N0 := Fr.nil n0
  have pre0 : ∀ t_, Steps pP.tables eE below (s₁.setTop (mkF mM 0 #[.val (.ref t)] [])) t_ → Steps pP.tables eE below (s₁.setTop (entryFrame mM #[(.ref t)] 1)) t_ := fun t_ k_ => castTop (ef_rank2 mM t) k_
  obtain ⟨T_1, X_1, e_1, st_1⟩ := getS2 X0 hx hZ hown (host := "") (Or.inl (hw _ (List.mem_of_getElem? (i := 5) rfl))) Via.refl e0 S_Truth_FALSE (g := (mkF mM 1 #[.val (.ref t)] [(.ref t)])) rfl (hb hby d_method_3_1)
  obtain ⟨T_2, X_2, e_2, st_2⟩ := getS2 X_1 hx hZ hown (host := "") (Or.inl (hw _ (List.mem_of_getElem? (i := 23) rfl))) Via.refl e_1 S_Truth_UNKNOWN (g := (mkF mM 10 #[.val (.ref t)] [(.ref t)])) rfl (hb hby d_method_3_10)
  obtain ⟨T_3, X_3, e_3, st_3⟩ := getS2 X_2 hx hZ hown (host := "") (Or.inl (hw _ (List.mem_of_getElem? (i := 21) rfl))) Via.refl e_2 S_Truth_TRUE (g := (mkF mM 19 #[.val (.ref t)] [(.ref t)])) rfl (hb hby d_method_3_19)
  obtain ⟨fs, hr, hrun, hended, hW, hsame⟩ := X_3.leave (v := some (.int (2 : Int32))) (fun h => by rw [Bd.returns] at h; cases h)
  refine ⟨_, _, pre0 _ ?_, hrun, hended, _, _, rfl, ?_, ⟨_, rfl⟩, hW, hsame.mono (by decide) (by decide)⟩
  · show Steps pP.tables eE below (s₁.setTop (mkF mM 0 #[.val (.ref t)] [])) _
    refine XS.aloadN X0.here hx rfl (hb hby d_method_3_0) rfl rfl ?_
    show Steps pP.tables eE below (s₁.setTop (mkF mM 1 #[.val (.ref t)] [(.ref t)])) _
    refine st_1 _ ?_
    show Steps pP.tables eE below (T_1.setTop (mkF mM 4 #[.val (.ref t)] [(.ref f), (.ref t)])) _
    refine Jvm.RoadKit.acmp (g := (mkF mM 4 #[.val (.ref t)] [(.ref f), (.ref t)])) X_1 hx rfl rfl rfl (pc0 := 4) (pc' := 9) (same := false) rfl (hb hby d_method_3_4) rfl (decide_eq_false fun q => (Ne.symm nft) (Value.ref.inj q)) (by decide) (by decide) ?_
    show Steps pP.tables eE below (T_1.setTop (mkF mM 9 #[.val (.ref t)] [])) _
    refine XS.aloadN X_1.here hx rfl (hb hby d_method_3_9) rfl rfl ?_
    show Steps pP.tables eE below (T_1.setTop (mkF mM 10 #[.val (.ref t)] [(.ref t)])) _
    refine st_2 _ ?_
    show Steps pP.tables eE below (T_2.setTop (mkF mM 13 #[.val (.ref t)] [(.ref u), (.ref t)])) _
    refine Jvm.RoadKit.acmp (g := (mkF mM 13 #[.val (.ref t)] [(.ref u), (.ref t)])) X_2 hx rfl rfl rfl (pc0 := 13) (pc' := 18) (same := false) rfl (hb hby d_method_3_13) rfl (decide_eq_false fun q => (Ne.symm nut) (Value.ref.inj q)) (by decide) (by decide) ?_
    show Steps pP.tables eE below (T_2.setTop (mkF mM 18 #[.val (.ref t)] [])) _
    refine XS.aloadN X_2.here hx rfl (hb hby d_method_3_18) rfl rfl ?_
    show Steps pP.tables eE below (T_2.setTop (mkF mM 19 #[.val (.ref t)] [(.ref t)])) _
    refine st_3 _ ?_
    show Steps pP.tables eE below (T_3.setTop (mkF mM 22 #[.val (.ref t)] [(.ref t), (.ref t)])) _
    refine Jvm.RoadKit.acmp (g := (mkF mM 22 #[.val (.ref t)] [(.ref t), (.ref t)])) X_3 hx rfl rfl rfl (pc0 := 22) (pc' := 25) (same := true) rfl (hb hby d_method_3_22) rfl (decide_eq_true rfl) (by decide) (by decide) ?_
    show Steps pP.tables eE below (T_3.setTop (mkF mM 25 #[.val (.ref t)] [])) _
    refine XS.iconst X_3.here hx rfl (hb hby d_method_3_25) ?_
    show Steps pP.tables eE below (T_3.setTop (mkF mM 26 #[.val (.ref t)] [(.int (2 : Int32))])) _
    exact retI X_3 hx Bd.returns (hb hby d_method_3_26) hr
  · show Q_rank2 Z f u t h0 n0 _ T_3.heap _
    rw [e_3]
    exact ⟨rfl, N0, rfl⟩
theorem pd_0 : parseMethodDescriptor "(I)Lcom/example/querent/querent/engine/Truth;" = some ⟨[.int], some (.object "com/example/querent/querent/engine/Truth")⟩ := by decide +kernel
theorem pd_1 : parseMethodDescriptor "(Lcom/example/querent/querent/engine/Truth;)Lcom/example/querent/querent/engine/Truth;" = some ⟨[(.object "com/example/querent/querent/engine/Truth")], some (.object "com/example/querent/querent/engine/Truth")⟩ := by decide +kernel
theorem pd_2 : parseMethodDescriptor "(Lcom/example/querent/querent/engine/Truth;)I" = some ⟨[(.object "com/example/querent/querent/engine/Truth")], some .int⟩ := by decide +kernel
theorem pd_3 : parseMethodDescriptor "(II)I" = some ⟨[.int, .int], some .int⟩ := by decide +kernel
theorem ef_law00 (mM : MethodId) (x0 : Int32) (x1 : Int32) : entryFrame mM #[(.int x0), (.int x1)] maxLocals = mkF mM 0 #[.val (.int x0), .val (.int x1), .unset, .unset, .unset, .unset, .unset] [] := by first | (simp [entryFrame, mkF, argsToLocals, Value.category, maxLocals]; done) | rfl
def Q_law00 (Z : State) (p1 : Int32) (p2 : Int32) (f : Addr) (u : Addr) (t : Addr) (h0 : Heap) (n0 : Nat) (v_ : Option Value) (h_ : Heap) (L_ : List Loc) : Prop := v_ = some (.int (1 : Int32)) ∧ Fr n0 L_
set_option maxRecDepth 65536 in
set_option maxHeartbeats 40000000 in
theorem rm_law00 (l : Launch) (Z : State) (a0 : Array Value) (hw : ∀ d ∈ tables_1, d.before a0 Z = true) (ws : List Jvm.Cond) (p1 : Int32) (p2 : Int32) (f : Addr) (u : Addr) (t : Addr) (h0 : Heap) (n0 : Nat) (Z0 : n0 ≤ h0.size) (hi : ((p1 &&& (2147483647 : Int32)) % (3 : Int32)) = (0 : Int32)) (hj : ((p2 &&& (2147483647 : Int32)) % (3 : Int32)) = (0 : Int32)) (S_Truth_FALSE : Sta Z h0 "com/example/querent/querent/engine/Truth" "FALSE" "Lcom/example/querent/querent/engine/Truth;" (.ref f)) (S_Truth_UNKNOWN : Sta Z h0 "com/example/querent/querent/engine/Truth" "UNKNOWN" "Lcom/example/querent/querent/engine/Truth;" (.ref u)) (S_Truth_TRUE : Sta Z h0 "com/example/querent/querent/engine/Truth" "TRUE" "Lcom/example/querent/querent/engine/Truth;" (.ref t)) (nfu : f ≠ u) (nft : f ≠ t) (nut : u ≠ t) (E_f : Exa Z h0 f "com/example/querent/querent/engine/Truth") (E_u : Exa Z h0 u "com/example/querent/querent/engine/Truth") (E_t : Exa Z h0 t "com/example/querent/querent/engine/Truth") :
    MetFree l x (head1 (Jvm.Cond.code x code maxLocals ret :: ws) room_1) (fun aa_ U_ => aa_ = #[(.int p1), (.int p2)] ∧ Z.Warmed39 U_.vm ∧ U_.heap = h0) (fun _ _ _ _ _ => True) (fun _ U_ o_ U'_ => ∃ v_ L_, o_ = .returned v_ ∧ Q_law00 Z p1 p2 f u t h0 n0 v_ U'_.heap L_ ∧ FrameEnd U_ o_ U'_ L_ 0 0) := by
  refine MetFree.of_bodySF (plainFor_of_name pn_0) hisR ?_
  intro pP eE sS mM argsA below meth cC s₁ Bd hml0 hP hK
  obtain ⟨rfl, hZ, hh⟩ := hP
  have hx := Bd.exec
  have hby := Bd.bytes
  have hml : cC.maxLocals = 7 := hml0
  have hown : sS.vm.findClass "com/example/querent/querent/engine/TruthAndPinLaw" = some mM.cls := findClass_of_methodNamed Bd.named
  have hnm := (name_of_methodNamed Bd.named Bd.method).1
  have X0 : Stand pP l eE room_1 sS mM #[(.int p1), (.int p2)] below meth cC s₁ [] 0 0 := Stand.of_body Bd
  have e0 : s₁.heap = h0 := by rw [← hh, Bd.state]; rfl
  have N0 := Fr.nil n0
  have pre0 : ∀ t_, Steps pP.tables eE below (s₁.setTop (mkF mM 0 #[.val (.int p1), .val (.int p2), .unset, .unset, .unset, .unset, .unset] [])) t_ → Steps pP.tables eE below (s₁.setTop (entryFrame mM #[(.int p1), (.int p2)] maxLocals)) t_ := fun t_ k_ => castTop (ef_law00 mM p1 p2) k_
  obtain ⟨_, _, ⟨T_1, L_1, k_1, n_1⟩, -, X_1, ⟨Lc_1, hQ_1, l_1, y_1, z_1⟩, st_1⟩ := Jvm.LawKit.callS X0 hx (y := (⟨"com/example/querent/querent/engine/TruthAndPinLaw", "pick", "(I)Lcom/example/querent/querent/engine/Truth;"⟩ : MethodName)) hown (mvT hZ (hw _ (List.mem_of_getElem? (i := 1) rfl))) (mvT hZ (hw _ (List.mem_of_getElem? (i := 2) rfl))) (mvT hZ (hw _ (List.mem_of_getElem? (i := 3) rfl))) (mvT hZ (hw _ (List.mem_of_getElem? (i := 4) rfl))) (by decide) (backOf (W := 0) (rm_pick0 l Z a0 hw [] f h0 n0 Z0 S_Truth_FALSE) hZ (hw _ (List.mem_of_getElem? (i := 4) rfl)) (hw _ (List.mem_of_getElem? (i := 3) rfl)) (by decide) (by decide)) (g := (mkF mM 15 #[.val (.int p1), .val (.int p2), .val (.int (0 : Int32)), .val (.int (0 : Int32)), .unset, .unset, .unset] [(.int (0 : Int32))])) rfl (by rw [hml]; rfl) (argsL := [(.int (0 : Int32))]) (rest := []) (lenOf pd_0 rfl) rfl (by show 2 * 0 + _ ≤ _; exact Nat.le_of_eq rfl) (hb hby at_15) (fun _ _ => ⟨rfl, e0, (by decide : 0 + 0 ≤ _), (by decide : 0 + 0 ≤ _)⟩)
  dsimp only [Pt.U, Pt.locs, Pt.cells, Pt.slots] at X_1 l_1 y_1 z_1 st_1 hQ_1
  subst l_1 y_1 z_1
  obtain ⟨rfl, N_1q, eh_1⟩ := hQ_1
  have N_1 := Fr.app N0 N_1q
  obtain ⟨_, _, ⟨T_2, L_2, k_2, n_2⟩, -, X_2, ⟨Lc_2, hQ_2, l_2, y_2, z_2⟩, st_2⟩ := Jvm.LawKit.callS X_1 hx (y := (⟨"com/example/querent/querent/engine/TruthAndPinLaw", "pick", "(I)Lcom/example/querent/querent/engine/Truth;"⟩ : MethodName)) hown (mvT hZ (hw _ (List.mem_of_getElem? (i := 1) rfl))) (mvT hZ (hw _ (List.mem_of_getElem? (i := 2) rfl))) (mvT hZ (hw _ (List.mem_of_getElem? (i := 3) rfl))) (mvT hZ (hw _ (List.mem_of_getElem? (i := 4) rfl))) (by decide) (backOf (W := 0) (rm_pick0 l Z a0 hw [] f h0 n0 Z0 S_Truth_FALSE) hZ (hw _ (List.mem_of_getElem? (i := 4) rfl)) (hw _ (List.mem_of_getElem? (i := 3) rfl)) (by decide) (by decide)) (g := (mkF mM 21 #[.val (.int p1), .val (.int p2), .val (.int (0 : Int32)), .val (.int (0 : Int32)), .val (.ref f), .unset, .unset] [(.int (0 : Int32))])) rfl (by rw [hml]; rfl) (argsL := [(.int (0 : Int32))]) (rest := []) (lenOf pd_0 rfl) rfl (by show 2 * 0 + _ ≤ _; exact Nat.le_of_eq rfl) (hb hby at_21) (fun _ _ => ⟨rfl, eh_1, (by decide : 0 + 0 ≤ _), (by decide : 0 + 0 ≤ _)⟩)
  dsimp only [Pt.U, Pt.locs, Pt.cells, Pt.slots] at X_2 l_2 y_2 z_2 st_2 hQ_2
  subst l_2 y_2 z_2
  obtain ⟨rfl, N_2q, eh_2⟩ := hQ_2
  have N_2 := Fr.app N_1 N_2q
  obtain ⟨cq_3, kq_3, q_3a, q_3b, q_3c⟩ := isOf hZ eh_2 E_f
  obtain ⟨_, _, ⟨T_3, L_3, k_3, n_3⟩, -, X_3, ⟨Lc_3, hQ_3, l_3, y_3, z_3⟩, st_3⟩ := X_2.virtualBack hx (y := (⟨"com/example/querent/querent/engine/Truth", "and", "(Lcom/example/querent/querent/engine/Truth;)Lcom/example/querent/querent/engine/Truth;"⟩ : MethodName)) (z := (⟨"com/example/querent/querent/engine/Truth", "and", "(Lcom/example/querent/querent/engine/Truth;)Lcom/example/querent/querent/engine/Truth;"⟩ : MethodName)) hown (mvT hZ (hw _ (List.mem_of_getElem? (i := 8) rfl))) (mvT hZ (hw _ (List.mem_of_getElem? (i := 9) rfl))) (notFace_of_selects (args := #[]) (mvT hZ (hw _ (List.mem_of_getElem? (i := 11) rfl)))) (mvT hZ (hw _ (List.mem_of_getElem? (i := 11) rfl))) (mvT hZ (hw _ (List.mem_of_getElem? (i := 10) rfl))) (by decide) (backOf (W := 0) (rm_op00 l Z a0 hw [] f u t h0 n0 Z0 S_Truth_FALSE S_Truth_UNKNOWN S_Truth_TRUE nfu nft nut) hZ (hw _ (List.mem_of_getElem? (i := 12) rfl)) (hw _ (List.mem_of_getElem? (i := 6) rfl)) (by decide) (by decide)) q_3a q_3c (g := (mkF mM 30 #[.val (.int p1), .val (.int p2), .val (.int (0 : Int32)), .val (.int (0 : Int32)), .val (.ref f), .val (.ref f), .unset] [(.ref f), (.ref f)])) rfl (by rw [hml]; rfl) (Steps.refl _) (argsL := [(.ref f)]) (rest := []) (lenOf pd_1 rfl) rfl (by show 2 * 0 + _ ≤ _; exact Nat.le_of_eq rfl) (hb hby at_30) (fun _ _ => ⟨rfl, eh_2, (by decide : 0 + 0 ≤ _), (by decide : 0 + 0 ≤ _)⟩)
  dsimp only [Pt.U, Pt.locs, Pt.cells, Pt.slots] at X_3 l_3 y_3 z_3 st_3 hQ_3
  subst l_3 y_3 z_3
  obtain ⟨rfl, N_3q, eh_3⟩ := hQ_3
  have N_3 := Fr.app N_2 N_3q
  obtain ⟨_, _, ⟨T_4, L_4, k_4, n_4⟩, -, X_4, ⟨Lc_4, hQ_4, l_4, y_4, z_4⟩, st_4⟩ := Jvm.LawKit.callS X_3 hx (y := (⟨"com/example/querent/querent/engine/TruthAndPinLaw", "rank", "(Lcom/example/querent/querent/engine/Truth;)I"⟩ : MethodName)) hown (mvT hZ (hw _ (List.mem_of_getElem? (i := 14) rfl))) (mvT hZ (hw _ (List.mem_of_getElem? (i := 15) rfl))) (mvT hZ (hw _ (List.mem_of_getElem? (i := 3) rfl))) (mvT hZ (hw _ (List.mem_of_getElem? (i := 16) rfl))) (by decide) (backOf (W := 0) (rm_rank0 l Z a0 hw [] f u t h0 n0 Z0 S_Truth_FALSE S_Truth_UNKNOWN S_Truth_TRUE nfu nft nut) hZ (hw _ (List.mem_of_getElem? (i := 16) rfl)) (hw _ (List.mem_of_getElem? (i := 3) rfl)) (by decide) (by decide)) (g := (mkF mM 37 #[.val (.int p1), .val (.int p2), .val (.int (0 : Int32)), .val (.int (0 : Int32)), .val (.ref f), .val (.ref f), .val (.ref f)] [(.ref f)])) rfl (by rw [hml]; rfl) (argsL := [(.ref f)]) (rest := []) (lenOf pd_2 rfl) rfl (by show 2 * 0 + _ ≤ _; exact Nat.le_of_eq rfl) (hb hby at_37) (fun _ _ => ⟨rfl, eh_3, (by decide : 0 + 0 ≤ _), (by decide : 0 + 0 ≤ _)⟩)
  dsimp only [Pt.U, Pt.locs, Pt.cells, Pt.slots] at X_4 l_4 y_4 z_4 st_4 hQ_4
  subst l_4 y_4 z_4
  obtain ⟨rfl, N_4q, eh_4⟩ := hQ_4
  have N_4 := Fr.app N_3 N_4q
  obtain ⟨_, _, ⟨T_5, L_5, k_5, n_5⟩, -, X_5, ⟨Lc_5, hQ_5, l_5, y_5, z_5⟩, st_5⟩ := Jvm.LawKit.callS X_4 hx (y := (⟨"java/lang/Math", "min", "(II)I"⟩ : MethodName)) hown (mvT hZ (hw _ (List.mem_of_getElem? (i := 17) rfl))) (mvT hZ (hw _ (List.mem_of_getElem? (i := 18) rfl))) (mvT hZ (hw _ (List.mem_of_getElem? (i := 19) rfl))) (mvT hZ (hw _ (List.mem_of_getElem? (i := 20) rfl))) (by decide) (backOf (W := 1) (rm_m1 l Z a0 hw [] (0 : Int32) (0 : Int32) h0 n0 Z0 (by decide)) hZ (hw _ (List.mem_of_getElem? (i := 20) rfl)) (hw _ (List.mem_of_getElem? (i := 19) rfl)) (by decide) (by decide)) (g := (mkF mM 42 #[.val (.int p1), .val (.int p2), .val (.int (0 : Int32)), .val (.int (0 : Int32)), .val (.ref f), .val (.ref f), .val (.ref f)] [(.int (0 : Int32)), (.int (0 : Int32)), (.int (0 : Int32))])) rfl (by rw [hml]; rfl) (argsL := [(.int (0 : Int32)), (.int (0 : Int32))]) (rest := [(.int (0 : Int32))]) (lenOf pd_3 rfl) rfl (by show 2 * 0 + _ ≤ _; exact Nat.le_of_eq rfl) (hb hby at_42) (fun _ _ => ⟨rfl, eh_4, (by decide : 0 + 0 ≤ _), (by decide : 0 + 0 ≤ _)⟩)
  dsimp only [Pt.U, Pt.locs, Pt.cells, Pt.slots] at X_5 l_5 y_5 z_5 st_5 hQ_5
  subst l_5 y_5 z_5
  obtain ⟨rfl, N_5q, eh_5⟩ := hQ_5
  have N_5 := Fr.app N_4 N_5q
  obtain ⟨fs, hr, hrun, hended, hW, hsame⟩ := X_5.leave (v := some (.int (1 : Int32))) (fun h => by rw [Bd.returns] at h; cases h)
  refine ⟨_, _, pre0 _ ?_, hrun, hended, _, _, rfl, ?_, ⟨_, rfl⟩, hW, hsame.mono (by decide) (by decide)⟩
  · show Steps pP.tables eE below (s₁.setTop (mkF mM 0 #[.val (.int p1), .val (.int p2), .unset, .unset, .unset, .unset, .unset] [])) _
    refine XS.iloadN X0.here hx rfl (hb hby at_0) rfl ?_
    show Steps pP.tables eE below (s₁.setTop (mkF mM 1 #[.val (.int p1), .val (.int p2), .unset, .unset, .unset, .unset, .unset] [(.int p1)])) _
    refine X0.ldcI hx hown (mvT hZ (hw _ (List.mem_of_getElem? (i := 0) rfl))) (g := (mkF mM 1 #[.val (.int p1), .val (.int p2), .unset, .unset, .unset, .unset, .unset] [(.int p1)])) rfl (hb hby at_1) ?_
    show Steps pP.tables eE below (s₁.setTop (mkF mM 3 #[.val (.int p1), .val (.int p2), .unset, .unset, .unset, .unset, .unset] [(.int (2147483647 : Int32)), (.int p1)])) _
    refine XS.iand X0.here hx rfl (hb hby at_3) rfl ?_
    show Steps pP.tables eE below (s₁.setTop (mkF mM 4 #[.val (.int p1), .val (.int p2), .unset, .unset, .unset, .unset, .unset] [(.int (p1 &&& (2147483647 : Int32)))])) _
    refine XS.iconst X0.here hx rfl (hb hby at_4) ?_
    show Steps pP.tables eE below (s₁.setTop (mkF mM 5 #[.val (.int p1), .val (.int p2), .unset, .unset, .unset, .unset, .unset] [(.int (3 : Int32)), (.int (p1 &&& (2147483647 : Int32)))])) _
    refine iremM X0 hx rfl (hb hby at_5) rfl (by decide) ?_
    show Steps pP.tables eE below (s₁.setTop (mkF mM 6 #[.val (.int p1), .val (.int p2), .unset, .unset, .unset, .unset, .unset] [(.int ((p1 &&& (2147483647 : Int32)) % (3 : Int32)))])) _
    rw [hi]
    show Steps pP.tables eE below (s₁.setTop (mkF mM 6 #[.val (.int p1), .val (.int p2), .unset, .unset, .unset, .unset, .unset] [(.int (0 : Int32))])) _
    refine XS.istoreN X0.here hx rfl (hb hby at_6) rfl (l' := #[.val (.int p1), .val (.int p2), .val (.int (0 : Int32)), .unset, .unset, .unset, .unset]) rfl ?_
    show Steps pP.tables eE below (s₁.setTop (mkF mM 7 #[.val (.int p1), .val (.int p2), .val (.int (0 : Int32)), .unset, .unset, .unset, .unset] [])) _
    refine XS.iloadN X0.here hx rfl (hb hby at_7) rfl ?_
    show Steps pP.tables eE below (s₁.setTop (mkF mM 8 #[.val (.int p1), .val (.int p2), .val (.int (0 : Int32)), .unset, .unset, .unset, .unset] [(.int p2)])) _
    refine X0.ldcI hx hown (mvT hZ (hw _ (List.mem_of_getElem? (i := 0) rfl))) (g := (mkF mM 8 #[.val (.int p1), .val (.int p2), .val (.int (0 : Int32)), .unset, .unset, .unset, .unset] [(.int p2)])) rfl (hb hby at_8) ?_
    show Steps pP.tables eE below (s₁.setTop (mkF mM 10 #[.val (.int p1), .val (.int p2), .val (.int (0 : Int32)), .unset, .unset, .unset, .unset] [(.int (2147483647 : Int32)), (.int p2)])) _
    refine XS.iand X0.here hx rfl (hb hby at_10) rfl ?_
    show Steps pP.tables eE below (s₁.setTop (mkF mM 11 #[.val (.int p1), .val (.int p2), .val (.int (0 : Int32)), .unset, .unset, .unset, .unset] [(.int (p2 &&& (2147483647 : Int32)))])) _
    refine XS.iconst X0.here hx rfl (hb hby at_11) ?_
    show Steps pP.tables eE below (s₁.setTop (mkF mM 12 #[.val (.int p1), .val (.int p2), .val (.int (0 : Int32)), .unset, .unset, .unset, .unset] [(.int (3 : Int32)), (.int (p2 &&& (2147483647 : Int32)))])) _
    refine iremM X0 hx rfl (hb hby at_12) rfl (by decide) ?_
    show Steps pP.tables eE below (s₁.setTop (mkF mM 13 #[.val (.int p1), .val (.int p2), .val (.int (0 : Int32)), .unset, .unset, .unset, .unset] [(.int ((p2 &&& (2147483647 : Int32)) % (3 : Int32)))])) _
    rw [hj]
    show Steps pP.tables eE below (s₁.setTop (mkF mM 13 #[.val (.int p1), .val (.int p2), .val (.int (0 : Int32)), .unset, .unset, .unset, .unset] [(.int (0 : Int32))])) _
    refine XS.istoreN X0.here hx rfl (hb hby at_13) rfl (l' := #[.val (.int p1), .val (.int p2), .val (.int (0 : Int32)), .val (.int (0 : Int32)), .unset, .unset, .unset]) rfl ?_
    show Steps pP.tables eE below (s₁.setTop (mkF mM 14 #[.val (.int p1), .val (.int p2), .val (.int (0 : Int32)), .val (.int (0 : Int32)), .unset, .unset, .unset] [])) _
    refine XS.iloadN X0.here hx rfl (hb hby at_14) rfl ?_
    show Steps pP.tables eE below (s₁.setTop (mkF mM 15 #[.val (.int p1), .val (.int p2), .val (.int (0 : Int32)), .val (.int (0 : Int32)), .unset, .unset, .unset] [(.int (0 : Int32))])) _
    refine st_1 _ ?_
    show Steps pP.tables eE below (T_1.setTop (mkF mM 18 #[.val (.int p1), .val (.int p2), .val (.int (0 : Int32)), .val (.int (0 : Int32)), .unset, .unset, .unset] [(.ref f)])) _
    refine XS.astore X_1.here hx rfl (hb hby at_18) rfl rfl (l' := #[.val (.int p1), .val (.int p2), .val (.int (0 : Int32)), .val (.int (0 : Int32)), .val (.ref f), .unset, .unset]) rfl ?_
    show Steps pP.tables eE below (T_1.setTop (mkF mM 20 #[.val (.int p1), .val (.int p2), .val (.int (0 : Int32)), .val (.int (0 : Int32)), .val (.ref f), .unset, .unset] [])) _
    refine XS.iloadN X_1.here hx rfl (hb hby at_20) rfl ?_
    show Steps pP.tables eE below (T_1.setTop (mkF mM 21 #[.val (.int p1), .val (.int p2), .val (.int (0 : Int32)), .val (.int (0 : Int32)), .val (.ref f), .unset, .unset] [(.int (0 : Int32))])) _
    refine st_2 _ ?_
    show Steps pP.tables eE below (T_2.setTop (mkF mM 24 #[.val (.int p1), .val (.int p2), .val (.int (0 : Int32)), .val (.int (0 : Int32)), .val (.ref f), .unset, .unset] [(.ref f)])) _
    refine XS.astore X_2.here hx rfl (hb hby at_24) rfl rfl (l' := #[.val (.int p1), .val (.int p2), .val (.int (0 : Int32)), .val (.int (0 : Int32)), .val (.ref f), .val (.ref f), .unset]) rfl ?_
    show Steps pP.tables eE below (T_2.setTop (mkF mM 26 #[.val (.int p1), .val (.int p2), .val (.int (0 : Int32)), .val (.int (0 : Int32)), .val (.ref f), .val (.ref f), .unset] [])) _
    refine XS.aload X_2.here hx rfl (hb hby at_26) rfl rfl ?_
    show Steps pP.tables eE below (T_2.setTop (mkF mM 28 #[.val (.int p1), .val (.int p2), .val (.int (0 : Int32)), .val (.int (0 : Int32)), .val (.ref f), .val (.ref f), .unset] [(.ref f)])) _
    refine XS.aload X_2.here hx rfl (hb hby at_28) rfl rfl ?_
    show Steps pP.tables eE below (T_2.setTop (mkF mM 30 #[.val (.int p1), .val (.int p2), .val (.int (0 : Int32)), .val (.int (0 : Int32)), .val (.ref f), .val (.ref f), .unset] [(.ref f), (.ref f)])) _
    refine st_3.trans ?_
    show Steps pP.tables eE below (T_3.setTop (mkF mM 33 #[.val (.int p1), .val (.int p2), .val (.int (0 : Int32)), .val (.int (0 : Int32)), .val (.ref f), .val (.ref f), .unset] [(.ref f)])) _
    refine XS.astore X_3.here hx rfl (hb hby at_33) rfl rfl (l' := #[.val (.int p1), .val (.int p2), .val (.int (0 : Int32)), .val (.int (0 : Int32)), .val (.ref f), .val (.ref f), .val (.ref f)]) rfl ?_
    show Steps pP.tables eE below (T_3.setTop (mkF mM 35 #[.val (.int p1), .val (.int p2), .val (.int (0 : Int32)), .val (.int (0 : Int32)), .val (.ref f), .val (.ref f), .val (.ref f)] [])) _
    refine XS.aload X_3.here hx rfl (hb hby at_35) rfl rfl ?_
    show Steps pP.tables eE below (T_3.setTop (mkF mM 37 #[.val (.int p1), .val (.int p2), .val (.int (0 : Int32)), .val (.int (0 : Int32)), .val (.ref f), .val (.ref f), .val (.ref f)] [(.ref f)])) _
    refine st_4 _ ?_
    show Steps pP.tables eE below (T_4.setTop (mkF mM 40 #[.val (.int p1), .val (.int p2), .val (.int (0 : Int32)), .val (.int (0 : Int32)), .val (.ref f), .val (.ref f), .val (.ref f)] [(.int (0 : Int32))])) _
    refine XS.iloadN X_4.here hx rfl (hb hby at_40) rfl ?_
    show Steps pP.tables eE below (T_4.setTop (mkF mM 41 #[.val (.int p1), .val (.int p2), .val (.int (0 : Int32)), .val (.int (0 : Int32)), .val (.ref f), .val (.ref f), .val (.ref f)] [(.int (0 : Int32)), (.int (0 : Int32))])) _
    refine XS.iloadN X_4.here hx rfl (hb hby at_41) rfl ?_
    show Steps pP.tables eE below (T_4.setTop (mkF mM 42 #[.val (.int p1), .val (.int p2), .val (.int (0 : Int32)), .val (.int (0 : Int32)), .val (.ref f), .val (.ref f), .val (.ref f)] [(.int (0 : Int32)), (.int (0 : Int32)), (.int (0 : Int32))])) _
    refine st_5 _ ?_
    show Steps pP.tables eE below (T_5.setTop (mkF mM 45 #[.val (.int p1), .val (.int p2), .val (.int (0 : Int32)), .val (.int (0 : Int32)), .val (.ref f), .val (.ref f), .val (.ref f)] [(.int (0 : Int32)), (.int (0 : Int32))])) _
    refine XS.icmpNo X_5.here hx rfl (hb hby at_45) rfl (by decide) ?_
    show Steps pP.tables eE below (T_5.setTop (mkF mM 48 #[.val (.int p1), .val (.int p2), .val (.int (0 : Int32)), .val (.int (0 : Int32)), .val (.ref f), .val (.ref f), .val (.ref f)] [])) _
    refine XS.iconst X_5.here hx rfl (hb hby at_48) ?_
    show Steps pP.tables eE below (T_5.setTop (mkF mM 49 #[.val (.int p1), .val (.int p2), .val (.int (0 : Int32)), .val (.int (0 : Int32)), .val (.ref f), .val (.ref f), .val (.ref f)] [(.int (1 : Int32))])) _
    refine XS.goto X_5.here hx rfl (pc0 := 49) (pc' := 53) rfl (hb hby at_49) (by decide) (by decide) ?_
    show Steps pP.tables eE below (T_5.setTop (mkF mM 53 #[.val (.int p1), .val (.int p2), .val (.int (0 : Int32)), .val (.int (0 : Int32)), .val (.ref f), .val (.ref f), .val (.ref f)] [(.int (1 : Int32))])) _
    exact retN X_5 hx (t := .boolean) Bd.returns (by simp) (hb hby at_53) hr
  · show Q_law00 Z p1 p2 f u t h0 n0 _ T_5.heap _
    exact ⟨rfl, N_5⟩
theorem ef_law01 (mM : MethodId) (x0 : Int32) (x1 : Int32) : entryFrame mM #[(.int x0), (.int x1)] maxLocals = mkF mM 0 #[.val (.int x0), .val (.int x1), .unset, .unset, .unset, .unset, .unset] [] := by first | (simp [entryFrame, mkF, argsToLocals, Value.category, maxLocals]; done) | rfl
def Q_law01 (Z : State) (p1 : Int32) (p2 : Int32) (f : Addr) (u : Addr) (t : Addr) (h0 : Heap) (n0 : Nat) (v_ : Option Value) (h_ : Heap) (L_ : List Loc) : Prop := v_ = some (.int (1 : Int32)) ∧ Fr n0 L_
set_option maxRecDepth 65536 in
set_option maxHeartbeats 40000000 in
theorem rm_law01 (l : Launch) (Z : State) (a0 : Array Value) (hw : ∀ d ∈ tables_1, d.before a0 Z = true) (ws : List Jvm.Cond) (p1 : Int32) (p2 : Int32) (f : Addr) (u : Addr) (t : Addr) (h0 : Heap) (n0 : Nat) (Z0 : n0 ≤ h0.size) (hi : ((p1 &&& (2147483647 : Int32)) % (3 : Int32)) = (0 : Int32)) (hj : ((p2 &&& (2147483647 : Int32)) % (3 : Int32)) = (1 : Int32)) (S_Truth_FALSE : Sta Z h0 "com/example/querent/querent/engine/Truth" "FALSE" "Lcom/example/querent/querent/engine/Truth;" (.ref f)) (S_Truth_UNKNOWN : Sta Z h0 "com/example/querent/querent/engine/Truth" "UNKNOWN" "Lcom/example/querent/querent/engine/Truth;" (.ref u)) (S_Truth_TRUE : Sta Z h0 "com/example/querent/querent/engine/Truth" "TRUE" "Lcom/example/querent/querent/engine/Truth;" (.ref t)) (nfu : f ≠ u) (nft : f ≠ t) (nut : u ≠ t) (E_f : Exa Z h0 f "com/example/querent/querent/engine/Truth") (E_u : Exa Z h0 u "com/example/querent/querent/engine/Truth") (E_t : Exa Z h0 t "com/example/querent/querent/engine/Truth") :
    MetFree l x (head1 (Jvm.Cond.code x code maxLocals ret :: ws) room_1) (fun aa_ U_ => aa_ = #[(.int p1), (.int p2)] ∧ Z.Warmed39 U_.vm ∧ U_.heap = h0) (fun _ _ _ _ _ => True) (fun _ U_ o_ U'_ => ∃ v_ L_, o_ = .returned v_ ∧ Q_law01 Z p1 p2 f u t h0 n0 v_ U'_.heap L_ ∧ FrameEnd U_ o_ U'_ L_ 0 0) := by
  refine MetFree.of_bodySF (plainFor_of_name pn_0) hisR ?_
  intro pP eE sS mM argsA below meth cC s₁ Bd hml0 hP hK
  obtain ⟨rfl, hZ, hh⟩ := hP
  have hx := Bd.exec
  have hby := Bd.bytes
  have hml : cC.maxLocals = 7 := hml0
  have hown : sS.vm.findClass "com/example/querent/querent/engine/TruthAndPinLaw" = some mM.cls := findClass_of_methodNamed Bd.named
  have hnm := (name_of_methodNamed Bd.named Bd.method).1
  have X0 : Stand pP l eE room_1 sS mM #[(.int p1), (.int p2)] below meth cC s₁ [] 0 0 := Stand.of_body Bd
  have e0 : s₁.heap = h0 := by rw [← hh, Bd.state]; rfl
  have N0 := Fr.nil n0
  have pre0 : ∀ t_, Steps pP.tables eE below (s₁.setTop (mkF mM 0 #[.val (.int p1), .val (.int p2), .unset, .unset, .unset, .unset, .unset] [])) t_ → Steps pP.tables eE below (s₁.setTop (entryFrame mM #[(.int p1), (.int p2)] maxLocals)) t_ := fun t_ k_ => castTop (ef_law01 mM p1 p2) k_
  obtain ⟨_, _, ⟨T_1, L_1, k_1, n_1⟩, -, X_1, ⟨Lc_1, hQ_1, l_1, y_1, z_1⟩, st_1⟩ := Jvm.LawKit.callS X0 hx (y := (⟨"com/example/querent/querent/engine/TruthAndPinLaw", "pick", "(I)Lcom/example/querent/querent/engine/Truth;"⟩ : MethodName)) hown (mvT hZ (hw _ (List.mem_of_getElem? (i := 1) rfl))) (mvT hZ (hw _ (List.mem_of_getElem? (i := 2) rfl))) (mvT hZ (hw _ (List.mem_of_getElem? (i := 3) rfl))) (mvT hZ (hw _ (List.mem_of_getElem? (i := 4) rfl))) (by decide) (backOf (W := 0) (rm_pick0 l Z a0 hw [] f h0 n0 Z0 S_Truth_FALSE) hZ (hw _ (List.mem_of_getElem? (i := 4) rfl)) (hw _ (List.mem_of_getElem? (i := 3) rfl)) (by decide) (by decide)) (g := (mkF mM 15 #[.val (.int p1), .val (.int p2), .val (.int (0 : Int32)), .val (.int (1 : Int32)), .unset, .unset, .unset] [(.int (0 : Int32))])) rfl (by rw [hml]; rfl) (argsL := [(.int (0 : Int32))]) (rest := []) (lenOf pd_0 rfl) rfl (by show 2 * 0 + _ ≤ _; exact Nat.le_of_eq rfl) (hb hby at_15) (fun _ _ => ⟨rfl, e0, (by decide : 0 + 0 ≤ _), (by decide : 0 + 0 ≤ _)⟩)
  dsimp only [Pt.U, Pt.locs, Pt.cells, Pt.slots] at X_1 l_1 y_1 z_1 st_1 hQ_1
  subst l_1 y_1 z_1
  obtain ⟨rfl, N_1q, eh_1⟩ := hQ_1
  have N_1 := Fr.app N0 N_1q
  obtain ⟨_, _, ⟨T_2, L_2, k_2, n_2⟩, -, X_2, ⟨Lc_2, hQ_2, l_2, y_2, z_2⟩, st_2⟩ := Jvm.LawKit.callS X_1 hx (y := (⟨"com/example/querent/querent/engine/TruthAndPinLaw", "pick", "(I)Lcom/example/querent/querent/engine/Truth;"⟩ : MethodName)) hown (mvT hZ (hw _ (List.mem_of_getElem? (i := 1) rfl))) (mvT hZ (hw _ (List.mem_of_getElem? (i := 2) rfl))) (mvT hZ (hw _ (List.mem_of_getElem? (i := 3) rfl))) (mvT hZ (hw _ (List.mem_of_getElem? (i := 4) rfl))) (by decide) (backOf (W := 0) (rm_pick1 l Z a0 hw [] u h0 n0 Z0 S_Truth_UNKNOWN) hZ (hw _ (List.mem_of_getElem? (i := 4) rfl)) (hw _ (List.mem_of_getElem? (i := 3) rfl)) (by decide) (by decide)) (g := (mkF mM 21 #[.val (.int p1), .val (.int p2), .val (.int (0 : Int32)), .val (.int (1 : Int32)), .val (.ref f), .unset, .unset] [(.int (1 : Int32))])) rfl (by rw [hml]; rfl) (argsL := [(.int (1 : Int32))]) (rest := []) (lenOf pd_0 rfl) rfl (by show 2 * 0 + _ ≤ _; exact Nat.le_of_eq rfl) (hb hby at_21) (fun _ _ => ⟨rfl, eh_1, (by decide : 0 + 0 ≤ _), (by decide : 0 + 0 ≤ _)⟩)
  dsimp only [Pt.U, Pt.locs, Pt.cells, Pt.slots] at X_2 l_2 y_2 z_2 st_2 hQ_2
  subst l_2 y_2 z_2
  obtain ⟨rfl, N_2q, eh_2⟩ := hQ_2
  have N_2 := Fr.app N_1 N_2q
  obtain ⟨cq_3, kq_3, q_3a, q_3b, q_3c⟩ := isOf hZ eh_2 E_f
  obtain ⟨_, _, ⟨T_3, L_3, k_3, n_3⟩, -, X_3, ⟨Lc_3, hQ_3, l_3, y_3, z_3⟩, st_3⟩ := X_2.virtualBack hx (y := (⟨"com/example/querent/querent/engine/Truth", "and", "(Lcom/example/querent/querent/engine/Truth;)Lcom/example/querent/querent/engine/Truth;"⟩ : MethodName)) (z := (⟨"com/example/querent/querent/engine/Truth", "and", "(Lcom/example/querent/querent/engine/Truth;)Lcom/example/querent/querent/engine/Truth;"⟩ : MethodName)) hown (mvT hZ (hw _ (List.mem_of_getElem? (i := 8) rfl))) (mvT hZ (hw _ (List.mem_of_getElem? (i := 9) rfl))) (notFace_of_selects (args := #[]) (mvT hZ (hw _ (List.mem_of_getElem? (i := 11) rfl)))) (mvT hZ (hw _ (List.mem_of_getElem? (i := 11) rfl))) (mvT hZ (hw _ (List.mem_of_getElem? (i := 10) rfl))) (by decide) (backOf (W := 0) (rm_op01 l Z a0 hw [] f u t h0 n0 Z0 S_Truth_FALSE S_Truth_UNKNOWN S_Truth_TRUE nfu nft nut) hZ (hw _ (List.mem_of_getElem? (i := 12) rfl)) (hw _ (List.mem_of_getElem? (i := 6) rfl)) (by decide) (by decide)) q_3a q_3c (g := (mkF mM 30 #[.val (.int p1), .val (.int p2), .val (.int (0 : Int32)), .val (.int (1 : Int32)), .val (.ref f), .val (.ref u), .unset] [(.ref u), (.ref f)])) rfl (by rw [hml]; rfl) (Steps.refl _) (argsL := [(.ref u)]) (rest := []) (lenOf pd_1 rfl) rfl (by show 2 * 0 + _ ≤ _; exact Nat.le_of_eq rfl) (hb hby at_30) (fun _ _ => ⟨rfl, eh_2, (by decide : 0 + 0 ≤ _), (by decide : 0 + 0 ≤ _)⟩)
  dsimp only [Pt.U, Pt.locs, Pt.cells, Pt.slots] at X_3 l_3 y_3 z_3 st_3 hQ_3
  subst l_3 y_3 z_3
  obtain ⟨rfl, N_3q, eh_3⟩ := hQ_3
  have N_3 := Fr.app N_2 N_3q
  obtain ⟨_, _, ⟨T_4, L_4, k_4, n_4⟩, -, X_4, ⟨Lc_4, hQ_4, l_4, y_4, z_4⟩, st_4⟩ := Jvm.LawKit.callS X_3 hx (y := (⟨"com/example/querent/querent/engine/TruthAndPinLaw", "rank", "(Lcom/example/querent/querent/engine/Truth;)I"⟩ : MethodName)) hown (mvT hZ (hw _ (List.mem_of_getElem? (i := 14) rfl))) (mvT hZ (hw _ (List.mem_of_getElem? (i := 15) rfl))) (mvT hZ (hw _ (List.mem_of_getElem? (i := 3) rfl))) (mvT hZ (hw _ (List.mem_of_getElem? (i := 16) rfl))) (by decide) (backOf (W := 0) (rm_rank0 l Z a0 hw [] f u t h0 n0 Z0 S_Truth_FALSE S_Truth_UNKNOWN S_Truth_TRUE nfu nft nut) hZ (hw _ (List.mem_of_getElem? (i := 16) rfl)) (hw _ (List.mem_of_getElem? (i := 3) rfl)) (by decide) (by decide)) (g := (mkF mM 37 #[.val (.int p1), .val (.int p2), .val (.int (0 : Int32)), .val (.int (1 : Int32)), .val (.ref f), .val (.ref u), .val (.ref f)] [(.ref f)])) rfl (by rw [hml]; rfl) (argsL := [(.ref f)]) (rest := []) (lenOf pd_2 rfl) rfl (by show 2 * 0 + _ ≤ _; exact Nat.le_of_eq rfl) (hb hby at_37) (fun _ _ => ⟨rfl, eh_3, (by decide : 0 + 0 ≤ _), (by decide : 0 + 0 ≤ _)⟩)
  dsimp only [Pt.U, Pt.locs, Pt.cells, Pt.slots] at X_4 l_4 y_4 z_4 st_4 hQ_4
  subst l_4 y_4 z_4
  obtain ⟨rfl, N_4q, eh_4⟩ := hQ_4
  have N_4 := Fr.app N_3 N_4q
  obtain ⟨_, _, ⟨T_5, L_5, k_5, n_5⟩, -, X_5, ⟨Lc_5, hQ_5, l_5, y_5, z_5⟩, st_5⟩ := Jvm.LawKit.callS X_4 hx (y := (⟨"java/lang/Math", "min", "(II)I"⟩ : MethodName)) hown (mvT hZ (hw _ (List.mem_of_getElem? (i := 17) rfl))) (mvT hZ (hw _ (List.mem_of_getElem? (i := 18) rfl))) (mvT hZ (hw _ (List.mem_of_getElem? (i := 19) rfl))) (mvT hZ (hw _ (List.mem_of_getElem? (i := 20) rfl))) (by decide) (backOf (W := 1) (rm_m1 l Z a0 hw [] (0 : Int32) (1 : Int32) h0 n0 Z0 (by decide)) hZ (hw _ (List.mem_of_getElem? (i := 20) rfl)) (hw _ (List.mem_of_getElem? (i := 19) rfl)) (by decide) (by decide)) (g := (mkF mM 42 #[.val (.int p1), .val (.int p2), .val (.int (0 : Int32)), .val (.int (1 : Int32)), .val (.ref f), .val (.ref u), .val (.ref f)] [(.int (1 : Int32)), (.int (0 : Int32)), (.int (0 : Int32))])) rfl (by rw [hml]; rfl) (argsL := [(.int (0 : Int32)), (.int (1 : Int32))]) (rest := [(.int (0 : Int32))]) (lenOf pd_3 rfl) rfl (by show 2 * 0 + _ ≤ _; exact Nat.le_of_eq rfl) (hb hby at_42) (fun _ _ => ⟨rfl, eh_4, (by decide : 0 + 0 ≤ _), (by decide : 0 + 0 ≤ _)⟩)
  dsimp only [Pt.U, Pt.locs, Pt.cells, Pt.slots] at X_5 l_5 y_5 z_5 st_5 hQ_5
  subst l_5 y_5 z_5
  obtain ⟨rfl, N_5q, eh_5⟩ := hQ_5
  have N_5 := Fr.app N_4 N_5q
  obtain ⟨fs, hr, hrun, hended, hW, hsame⟩ := X_5.leave (v := some (.int (1 : Int32))) (fun h => by rw [Bd.returns] at h; cases h)
  refine ⟨_, _, pre0 _ ?_, hrun, hended, _, _, rfl, ?_, ⟨_, rfl⟩, hW, hsame.mono (by decide) (by decide)⟩
  · show Steps pP.tables eE below (s₁.setTop (mkF mM 0 #[.val (.int p1), .val (.int p2), .unset, .unset, .unset, .unset, .unset] [])) _
    refine XS.iloadN X0.here hx rfl (hb hby at_0) rfl ?_
    show Steps pP.tables eE below (s₁.setTop (mkF mM 1 #[.val (.int p1), .val (.int p2), .unset, .unset, .unset, .unset, .unset] [(.int p1)])) _
    refine X0.ldcI hx hown (mvT hZ (hw _ (List.mem_of_getElem? (i := 0) rfl))) (g := (mkF mM 1 #[.val (.int p1), .val (.int p2), .unset, .unset, .unset, .unset, .unset] [(.int p1)])) rfl (hb hby at_1) ?_
    show Steps pP.tables eE below (s₁.setTop (mkF mM 3 #[.val (.int p1), .val (.int p2), .unset, .unset, .unset, .unset, .unset] [(.int (2147483647 : Int32)), (.int p1)])) _
    refine XS.iand X0.here hx rfl (hb hby at_3) rfl ?_
    show Steps pP.tables eE below (s₁.setTop (mkF mM 4 #[.val (.int p1), .val (.int p2), .unset, .unset, .unset, .unset, .unset] [(.int (p1 &&& (2147483647 : Int32)))])) _
    refine XS.iconst X0.here hx rfl (hb hby at_4) ?_
    show Steps pP.tables eE below (s₁.setTop (mkF mM 5 #[.val (.int p1), .val (.int p2), .unset, .unset, .unset, .unset, .unset] [(.int (3 : Int32)), (.int (p1 &&& (2147483647 : Int32)))])) _
    refine iremM X0 hx rfl (hb hby at_5) rfl (by decide) ?_
    show Steps pP.tables eE below (s₁.setTop (mkF mM 6 #[.val (.int p1), .val (.int p2), .unset, .unset, .unset, .unset, .unset] [(.int ((p1 &&& (2147483647 : Int32)) % (3 : Int32)))])) _
    rw [hi]
    show Steps pP.tables eE below (s₁.setTop (mkF mM 6 #[.val (.int p1), .val (.int p2), .unset, .unset, .unset, .unset, .unset] [(.int (0 : Int32))])) _
    refine XS.istoreN X0.here hx rfl (hb hby at_6) rfl (l' := #[.val (.int p1), .val (.int p2), .val (.int (0 : Int32)), .unset, .unset, .unset, .unset]) rfl ?_
    show Steps pP.tables eE below (s₁.setTop (mkF mM 7 #[.val (.int p1), .val (.int p2), .val (.int (0 : Int32)), .unset, .unset, .unset, .unset] [])) _
    refine XS.iloadN X0.here hx rfl (hb hby at_7) rfl ?_
    show Steps pP.tables eE below (s₁.setTop (mkF mM 8 #[.val (.int p1), .val (.int p2), .val (.int (0 : Int32)), .unset, .unset, .unset, .unset] [(.int p2)])) _
    refine X0.ldcI hx hown (mvT hZ (hw _ (List.mem_of_getElem? (i := 0) rfl))) (g := (mkF mM 8 #[.val (.int p1), .val (.int p2), .val (.int (0 : Int32)), .unset, .unset, .unset, .unset] [(.int p2)])) rfl (hb hby at_8) ?_
    show Steps pP.tables eE below (s₁.setTop (mkF mM 10 #[.val (.int p1), .val (.int p2), .val (.int (0 : Int32)), .unset, .unset, .unset, .unset] [(.int (2147483647 : Int32)), (.int p2)])) _
    refine XS.iand X0.here hx rfl (hb hby at_10) rfl ?_
    show Steps pP.tables eE below (s₁.setTop (mkF mM 11 #[.val (.int p1), .val (.int p2), .val (.int (0 : Int32)), .unset, .unset, .unset, .unset] [(.int (p2 &&& (2147483647 : Int32)))])) _
    refine XS.iconst X0.here hx rfl (hb hby at_11) ?_
    show Steps pP.tables eE below (s₁.setTop (mkF mM 12 #[.val (.int p1), .val (.int p2), .val (.int (0 : Int32)), .unset, .unset, .unset, .unset] [(.int (3 : Int32)), (.int (p2 &&& (2147483647 : Int32)))])) _
    refine iremM X0 hx rfl (hb hby at_12) rfl (by decide) ?_
    show Steps pP.tables eE below (s₁.setTop (mkF mM 13 #[.val (.int p1), .val (.int p2), .val (.int (0 : Int32)), .unset, .unset, .unset, .unset] [(.int ((p2 &&& (2147483647 : Int32)) % (3 : Int32)))])) _
    rw [hj]
    show Steps pP.tables eE below (s₁.setTop (mkF mM 13 #[.val (.int p1), .val (.int p2), .val (.int (0 : Int32)), .unset, .unset, .unset, .unset] [(.int (1 : Int32))])) _
    refine XS.istoreN X0.here hx rfl (hb hby at_13) rfl (l' := #[.val (.int p1), .val (.int p2), .val (.int (0 : Int32)), .val (.int (1 : Int32)), .unset, .unset, .unset]) rfl ?_
    show Steps pP.tables eE below (s₁.setTop (mkF mM 14 #[.val (.int p1), .val (.int p2), .val (.int (0 : Int32)), .val (.int (1 : Int32)), .unset, .unset, .unset] [])) _
    refine XS.iloadN X0.here hx rfl (hb hby at_14) rfl ?_
    show Steps pP.tables eE below (s₁.setTop (mkF mM 15 #[.val (.int p1), .val (.int p2), .val (.int (0 : Int32)), .val (.int (1 : Int32)), .unset, .unset, .unset] [(.int (0 : Int32))])) _
    refine st_1 _ ?_
    show Steps pP.tables eE below (T_1.setTop (mkF mM 18 #[.val (.int p1), .val (.int p2), .val (.int (0 : Int32)), .val (.int (1 : Int32)), .unset, .unset, .unset] [(.ref f)])) _
    refine XS.astore X_1.here hx rfl (hb hby at_18) rfl rfl (l' := #[.val (.int p1), .val (.int p2), .val (.int (0 : Int32)), .val (.int (1 : Int32)), .val (.ref f), .unset, .unset]) rfl ?_
    show Steps pP.tables eE below (T_1.setTop (mkF mM 20 #[.val (.int p1), .val (.int p2), .val (.int (0 : Int32)), .val (.int (1 : Int32)), .val (.ref f), .unset, .unset] [])) _
    refine XS.iloadN X_1.here hx rfl (hb hby at_20) rfl ?_
    show Steps pP.tables eE below (T_1.setTop (mkF mM 21 #[.val (.int p1), .val (.int p2), .val (.int (0 : Int32)), .val (.int (1 : Int32)), .val (.ref f), .unset, .unset] [(.int (1 : Int32))])) _
    refine st_2 _ ?_
    show Steps pP.tables eE below (T_2.setTop (mkF mM 24 #[.val (.int p1), .val (.int p2), .val (.int (0 : Int32)), .val (.int (1 : Int32)), .val (.ref f), .unset, .unset] [(.ref u)])) _
    refine XS.astore X_2.here hx rfl (hb hby at_24) rfl rfl (l' := #[.val (.int p1), .val (.int p2), .val (.int (0 : Int32)), .val (.int (1 : Int32)), .val (.ref f), .val (.ref u), .unset]) rfl ?_
    show Steps pP.tables eE below (T_2.setTop (mkF mM 26 #[.val (.int p1), .val (.int p2), .val (.int (0 : Int32)), .val (.int (1 : Int32)), .val (.ref f), .val (.ref u), .unset] [])) _
    refine XS.aload X_2.here hx rfl (hb hby at_26) rfl rfl ?_
    show Steps pP.tables eE below (T_2.setTop (mkF mM 28 #[.val (.int p1), .val (.int p2), .val (.int (0 : Int32)), .val (.int (1 : Int32)), .val (.ref f), .val (.ref u), .unset] [(.ref f)])) _
    refine XS.aload X_2.here hx rfl (hb hby at_28) rfl rfl ?_
    show Steps pP.tables eE below (T_2.setTop (mkF mM 30 #[.val (.int p1), .val (.int p2), .val (.int (0 : Int32)), .val (.int (1 : Int32)), .val (.ref f), .val (.ref u), .unset] [(.ref u), (.ref f)])) _
    refine st_3.trans ?_
    show Steps pP.tables eE below (T_3.setTop (mkF mM 33 #[.val (.int p1), .val (.int p2), .val (.int (0 : Int32)), .val (.int (1 : Int32)), .val (.ref f), .val (.ref u), .unset] [(.ref f)])) _
    refine XS.astore X_3.here hx rfl (hb hby at_33) rfl rfl (l' := #[.val (.int p1), .val (.int p2), .val (.int (0 : Int32)), .val (.int (1 : Int32)), .val (.ref f), .val (.ref u), .val (.ref f)]) rfl ?_
    show Steps pP.tables eE below (T_3.setTop (mkF mM 35 #[.val (.int p1), .val (.int p2), .val (.int (0 : Int32)), .val (.int (1 : Int32)), .val (.ref f), .val (.ref u), .val (.ref f)] [])) _
    refine XS.aload X_3.here hx rfl (hb hby at_35) rfl rfl ?_
    show Steps pP.tables eE below (T_3.setTop (mkF mM 37 #[.val (.int p1), .val (.int p2), .val (.int (0 : Int32)), .val (.int (1 : Int32)), .val (.ref f), .val (.ref u), .val (.ref f)] [(.ref f)])) _
    refine st_4 _ ?_
    show Steps pP.tables eE below (T_4.setTop (mkF mM 40 #[.val (.int p1), .val (.int p2), .val (.int (0 : Int32)), .val (.int (1 : Int32)), .val (.ref f), .val (.ref u), .val (.ref f)] [(.int (0 : Int32))])) _
    refine XS.iloadN X_4.here hx rfl (hb hby at_40) rfl ?_
    show Steps pP.tables eE below (T_4.setTop (mkF mM 41 #[.val (.int p1), .val (.int p2), .val (.int (0 : Int32)), .val (.int (1 : Int32)), .val (.ref f), .val (.ref u), .val (.ref f)] [(.int (0 : Int32)), (.int (0 : Int32))])) _
    refine XS.iloadN X_4.here hx rfl (hb hby at_41) rfl ?_
    show Steps pP.tables eE below (T_4.setTop (mkF mM 42 #[.val (.int p1), .val (.int p2), .val (.int (0 : Int32)), .val (.int (1 : Int32)), .val (.ref f), .val (.ref u), .val (.ref f)] [(.int (1 : Int32)), (.int (0 : Int32)), (.int (0 : Int32))])) _
    refine st_5 _ ?_
    show Steps pP.tables eE below (T_5.setTop (mkF mM 45 #[.val (.int p1), .val (.int p2), .val (.int (0 : Int32)), .val (.int (1 : Int32)), .val (.ref f), .val (.ref u), .val (.ref f)] [(.int (0 : Int32)), (.int (0 : Int32))])) _
    refine XS.icmpNo X_5.here hx rfl (hb hby at_45) rfl (by decide) ?_
    show Steps pP.tables eE below (T_5.setTop (mkF mM 48 #[.val (.int p1), .val (.int p2), .val (.int (0 : Int32)), .val (.int (1 : Int32)), .val (.ref f), .val (.ref u), .val (.ref f)] [])) _
    refine XS.iconst X_5.here hx rfl (hb hby at_48) ?_
    show Steps pP.tables eE below (T_5.setTop (mkF mM 49 #[.val (.int p1), .val (.int p2), .val (.int (0 : Int32)), .val (.int (1 : Int32)), .val (.ref f), .val (.ref u), .val (.ref f)] [(.int (1 : Int32))])) _
    refine XS.goto X_5.here hx rfl (pc0 := 49) (pc' := 53) rfl (hb hby at_49) (by decide) (by decide) ?_
    show Steps pP.tables eE below (T_5.setTop (mkF mM 53 #[.val (.int p1), .val (.int p2), .val (.int (0 : Int32)), .val (.int (1 : Int32)), .val (.ref f), .val (.ref u), .val (.ref f)] [(.int (1 : Int32))])) _
    exact retN X_5 hx (t := .boolean) Bd.returns (by simp) (hb hby at_53) hr
  · show Q_law01 Z p1 p2 f u t h0 n0 _ T_5.heap _
    exact ⟨rfl, N_5⟩
theorem ef_law02 (mM : MethodId) (x0 : Int32) (x1 : Int32) : entryFrame mM #[(.int x0), (.int x1)] maxLocals = mkF mM 0 #[.val (.int x0), .val (.int x1), .unset, .unset, .unset, .unset, .unset] [] := by first | (simp [entryFrame, mkF, argsToLocals, Value.category, maxLocals]; done) | rfl
def Q_law02 (Z : State) (p1 : Int32) (p2 : Int32) (f : Addr) (u : Addr) (t : Addr) (h0 : Heap) (n0 : Nat) (v_ : Option Value) (h_ : Heap) (L_ : List Loc) : Prop := v_ = some (.int (1 : Int32)) ∧ Fr n0 L_
set_option maxRecDepth 65536 in
set_option maxHeartbeats 40000000 in
theorem rm_law02 (l : Launch) (Z : State) (a0 : Array Value) (hw : ∀ d ∈ tables_1, d.before a0 Z = true) (ws : List Jvm.Cond) (p1 : Int32) (p2 : Int32) (f : Addr) (u : Addr) (t : Addr) (h0 : Heap) (n0 : Nat) (Z0 : n0 ≤ h0.size) (hi : ((p1 &&& (2147483647 : Int32)) % (3 : Int32)) = (0 : Int32)) (hj : ((p2 &&& (2147483647 : Int32)) % (3 : Int32)) = (2 : Int32)) (S_Truth_FALSE : Sta Z h0 "com/example/querent/querent/engine/Truth" "FALSE" "Lcom/example/querent/querent/engine/Truth;" (.ref f)) (S_Truth_UNKNOWN : Sta Z h0 "com/example/querent/querent/engine/Truth" "UNKNOWN" "Lcom/example/querent/querent/engine/Truth;" (.ref u)) (S_Truth_TRUE : Sta Z h0 "com/example/querent/querent/engine/Truth" "TRUE" "Lcom/example/querent/querent/engine/Truth;" (.ref t)) (nfu : f ≠ u) (nft : f ≠ t) (nut : u ≠ t) (E_f : Exa Z h0 f "com/example/querent/querent/engine/Truth") (E_u : Exa Z h0 u "com/example/querent/querent/engine/Truth") (E_t : Exa Z h0 t "com/example/querent/querent/engine/Truth") :
    MetFree l x (head1 (Jvm.Cond.code x code maxLocals ret :: ws) room_1) (fun aa_ U_ => aa_ = #[(.int p1), (.int p2)] ∧ Z.Warmed39 U_.vm ∧ U_.heap = h0) (fun _ _ _ _ _ => True) (fun _ U_ o_ U'_ => ∃ v_ L_, o_ = .returned v_ ∧ Q_law02 Z p1 p2 f u t h0 n0 v_ U'_.heap L_ ∧ FrameEnd U_ o_ U'_ L_ 0 0) := by
  refine MetFree.of_bodySF (plainFor_of_name pn_0) hisR ?_
  intro pP eE sS mM argsA below meth cC s₁ Bd hml0 hP hK
  obtain ⟨rfl, hZ, hh⟩ := hP
  have hx := Bd.exec
  have hby := Bd.bytes
  have hml : cC.maxLocals = 7 := hml0
  have hown : sS.vm.findClass "com/example/querent/querent/engine/TruthAndPinLaw" = some mM.cls := findClass_of_methodNamed Bd.named
  have hnm := (name_of_methodNamed Bd.named Bd.method).1
  have X0 : Stand pP l eE room_1 sS mM #[(.int p1), (.int p2)] below meth cC s₁ [] 0 0 := Stand.of_body Bd
  have e0 : s₁.heap = h0 := by rw [← hh, Bd.state]; rfl
  have N0 := Fr.nil n0
  have pre0 : ∀ t_, Steps pP.tables eE below (s₁.setTop (mkF mM 0 #[.val (.int p1), .val (.int p2), .unset, .unset, .unset, .unset, .unset] [])) t_ → Steps pP.tables eE below (s₁.setTop (entryFrame mM #[(.int p1), (.int p2)] maxLocals)) t_ := fun t_ k_ => castTop (ef_law02 mM p1 p2) k_
  obtain ⟨_, _, ⟨T_1, L_1, k_1, n_1⟩, -, X_1, ⟨Lc_1, hQ_1, l_1, y_1, z_1⟩, st_1⟩ := Jvm.LawKit.callS X0 hx (y := (⟨"com/example/querent/querent/engine/TruthAndPinLaw", "pick", "(I)Lcom/example/querent/querent/engine/Truth;"⟩ : MethodName)) hown (mvT hZ (hw _ (List.mem_of_getElem? (i := 1) rfl))) (mvT hZ (hw _ (List.mem_of_getElem? (i := 2) rfl))) (mvT hZ (hw _ (List.mem_of_getElem? (i := 3) rfl))) (mvT hZ (hw _ (List.mem_of_getElem? (i := 4) rfl))) (by decide) (backOf (W := 0) (rm_pick0 l Z a0 hw [] f h0 n0 Z0 S_Truth_FALSE) hZ (hw _ (List.mem_of_getElem? (i := 4) rfl)) (hw _ (List.mem_of_getElem? (i := 3) rfl)) (by decide) (by decide)) (g := (mkF mM 15 #[.val (.int p1), .val (.int p2), .val (.int (0 : Int32)), .val (.int (2 : Int32)), .unset, .unset, .unset] [(.int (0 : Int32))])) rfl (by rw [hml]; rfl) (argsL := [(.int (0 : Int32))]) (rest := []) (lenOf pd_0 rfl) rfl (by show 2 * 0 + _ ≤ _; exact Nat.le_of_eq rfl) (hb hby at_15) (fun _ _ => ⟨rfl, e0, (by decide : 0 + 0 ≤ _), (by decide : 0 + 0 ≤ _)⟩)
  dsimp only [Pt.U, Pt.locs, Pt.cells, Pt.slots] at X_1 l_1 y_1 z_1 st_1 hQ_1
  subst l_1 y_1 z_1
  obtain ⟨rfl, N_1q, eh_1⟩ := hQ_1
  have N_1 := Fr.app N0 N_1q
  obtain ⟨_, _, ⟨T_2, L_2, k_2, n_2⟩, -, X_2, ⟨Lc_2, hQ_2, l_2, y_2, z_2⟩, st_2⟩ := Jvm.LawKit.callS X_1 hx (y := (⟨"com/example/querent/querent/engine/TruthAndPinLaw", "pick", "(I)Lcom/example/querent/querent/engine/Truth;"⟩ : MethodName)) hown (mvT hZ (hw _ (List.mem_of_getElem? (i := 1) rfl))) (mvT hZ (hw _ (List.mem_of_getElem? (i := 2) rfl))) (mvT hZ (hw _ (List.mem_of_getElem? (i := 3) rfl))) (mvT hZ (hw _ (List.mem_of_getElem? (i := 4) rfl))) (by decide) (backOf (W := 0) (rm_pick2 l Z a0 hw [] t h0 n0 Z0 S_Truth_TRUE) hZ (hw _ (List.mem_of_getElem? (i := 4) rfl)) (hw _ (List.mem_of_getElem? (i := 3) rfl)) (by decide) (by decide)) (g := (mkF mM 21 #[.val (.int p1), .val (.int p2), .val (.int (0 : Int32)), .val (.int (2 : Int32)), .val (.ref f), .unset, .unset] [(.int (2 : Int32))])) rfl (by rw [hml]; rfl) (argsL := [(.int (2 : Int32))]) (rest := []) (lenOf pd_0 rfl) rfl (by show 2 * 0 + _ ≤ _; exact Nat.le_of_eq rfl) (hb hby at_21) (fun _ _ => ⟨rfl, eh_1, (by decide : 0 + 0 ≤ _), (by decide : 0 + 0 ≤ _)⟩)
  dsimp only [Pt.U, Pt.locs, Pt.cells, Pt.slots] at X_2 l_2 y_2 z_2 st_2 hQ_2
  subst l_2 y_2 z_2
  obtain ⟨rfl, N_2q, eh_2⟩ := hQ_2
  have N_2 := Fr.app N_1 N_2q
  obtain ⟨cq_3, kq_3, q_3a, q_3b, q_3c⟩ := isOf hZ eh_2 E_f
  obtain ⟨_, _, ⟨T_3, L_3, k_3, n_3⟩, -, X_3, ⟨Lc_3, hQ_3, l_3, y_3, z_3⟩, st_3⟩ := X_2.virtualBack hx (y := (⟨"com/example/querent/querent/engine/Truth", "and", "(Lcom/example/querent/querent/engine/Truth;)Lcom/example/querent/querent/engine/Truth;"⟩ : MethodName)) (z := (⟨"com/example/querent/querent/engine/Truth", "and", "(Lcom/example/querent/querent/engine/Truth;)Lcom/example/querent/querent/engine/Truth;"⟩ : MethodName)) hown (mvT hZ (hw _ (List.mem_of_getElem? (i := 8) rfl))) (mvT hZ (hw _ (List.mem_of_getElem? (i := 9) rfl))) (notFace_of_selects (args := #[]) (mvT hZ (hw _ (List.mem_of_getElem? (i := 11) rfl)))) (mvT hZ (hw _ (List.mem_of_getElem? (i := 11) rfl))) (mvT hZ (hw _ (List.mem_of_getElem? (i := 10) rfl))) (by decide) (backOf (W := 0) (rm_op02 l Z a0 hw [] f u t h0 n0 Z0 S_Truth_FALSE S_Truth_UNKNOWN S_Truth_TRUE nfu nft nut) hZ (hw _ (List.mem_of_getElem? (i := 12) rfl)) (hw _ (List.mem_of_getElem? (i := 6) rfl)) (by decide) (by decide)) q_3a q_3c (g := (mkF mM 30 #[.val (.int p1), .val (.int p2), .val (.int (0 : Int32)), .val (.int (2 : Int32)), .val (.ref f), .val (.ref t), .unset] [(.ref t), (.ref f)])) rfl (by rw [hml]; rfl) (Steps.refl _) (argsL := [(.ref t)]) (rest := []) (lenOf pd_1 rfl) rfl (by show 2 * 0 + _ ≤ _; exact Nat.le_of_eq rfl) (hb hby at_30) (fun _ _ => ⟨rfl, eh_2, (by decide : 0 + 0 ≤ _), (by decide : 0 + 0 ≤ _)⟩)
  dsimp only [Pt.U, Pt.locs, Pt.cells, Pt.slots] at X_3 l_3 y_3 z_3 st_3 hQ_3
  subst l_3 y_3 z_3
  obtain ⟨rfl, N_3q, eh_3⟩ := hQ_3
  have N_3 := Fr.app N_2 N_3q
  obtain ⟨_, _, ⟨T_4, L_4, k_4, n_4⟩, -, X_4, ⟨Lc_4, hQ_4, l_4, y_4, z_4⟩, st_4⟩ := Jvm.LawKit.callS X_3 hx (y := (⟨"com/example/querent/querent/engine/TruthAndPinLaw", "rank", "(Lcom/example/querent/querent/engine/Truth;)I"⟩ : MethodName)) hown (mvT hZ (hw _ (List.mem_of_getElem? (i := 14) rfl))) (mvT hZ (hw _ (List.mem_of_getElem? (i := 15) rfl))) (mvT hZ (hw _ (List.mem_of_getElem? (i := 3) rfl))) (mvT hZ (hw _ (List.mem_of_getElem? (i := 16) rfl))) (by decide) (backOf (W := 0) (rm_rank0 l Z a0 hw [] f u t h0 n0 Z0 S_Truth_FALSE S_Truth_UNKNOWN S_Truth_TRUE nfu nft nut) hZ (hw _ (List.mem_of_getElem? (i := 16) rfl)) (hw _ (List.mem_of_getElem? (i := 3) rfl)) (by decide) (by decide)) (g := (mkF mM 37 #[.val (.int p1), .val (.int p2), .val (.int (0 : Int32)), .val (.int (2 : Int32)), .val (.ref f), .val (.ref t), .val (.ref f)] [(.ref f)])) rfl (by rw [hml]; rfl) (argsL := [(.ref f)]) (rest := []) (lenOf pd_2 rfl) rfl (by show 2 * 0 + _ ≤ _; exact Nat.le_of_eq rfl) (hb hby at_37) (fun _ _ => ⟨rfl, eh_3, (by decide : 0 + 0 ≤ _), (by decide : 0 + 0 ≤ _)⟩)
  dsimp only [Pt.U, Pt.locs, Pt.cells, Pt.slots] at X_4 l_4 y_4 z_4 st_4 hQ_4
  subst l_4 y_4 z_4
  obtain ⟨rfl, N_4q, eh_4⟩ := hQ_4
  have N_4 := Fr.app N_3 N_4q
  obtain ⟨_, _, ⟨T_5, L_5, k_5, n_5⟩, -, X_5, ⟨Lc_5, hQ_5, l_5, y_5, z_5⟩, st_5⟩ := Jvm.LawKit.callS X_4 hx (y := (⟨"java/lang/Math", "min", "(II)I"⟩ : MethodName)) hown (mvT hZ (hw _ (List.mem_of_getElem? (i := 17) rfl))) (mvT hZ (hw _ (List.mem_of_getElem? (i := 18) rfl))) (mvT hZ (hw _ (List.mem_of_getElem? (i := 19) rfl))) (mvT hZ (hw _ (List.mem_of_getElem? (i := 20) rfl))) (by decide) (backOf (W := 1) (rm_m1 l Z a0 hw [] (0 : Int32) (2 : Int32) h0 n0 Z0 (by decide)) hZ (hw _ (List.mem_of_getElem? (i := 20) rfl)) (hw _ (List.mem_of_getElem? (i := 19) rfl)) (by decide) (by decide)) (g := (mkF mM 42 #[.val (.int p1), .val (.int p2), .val (.int (0 : Int32)), .val (.int (2 : Int32)), .val (.ref f), .val (.ref t), .val (.ref f)] [(.int (2 : Int32)), (.int (0 : Int32)), (.int (0 : Int32))])) rfl (by rw [hml]; rfl) (argsL := [(.int (0 : Int32)), (.int (2 : Int32))]) (rest := [(.int (0 : Int32))]) (lenOf pd_3 rfl) rfl (by show 2 * 0 + _ ≤ _; exact Nat.le_of_eq rfl) (hb hby at_42) (fun _ _ => ⟨rfl, eh_4, (by decide : 0 + 0 ≤ _), (by decide : 0 + 0 ≤ _)⟩)
  dsimp only [Pt.U, Pt.locs, Pt.cells, Pt.slots] at X_5 l_5 y_5 z_5 st_5 hQ_5
  subst l_5 y_5 z_5
  obtain ⟨rfl, N_5q, eh_5⟩ := hQ_5
  have N_5 := Fr.app N_4 N_5q
  obtain ⟨fs, hr, hrun, hended, hW, hsame⟩ := X_5.leave (v := some (.int (1 : Int32))) (fun h => by rw [Bd.returns] at h; cases h)
  refine ⟨_, _, pre0 _ ?_, hrun, hended, _, _, rfl, ?_, ⟨_, rfl⟩, hW, hsame.mono (by decide) (by decide)⟩
  · show Steps pP.tables eE below (s₁.setTop (mkF mM 0 #[.val (.int p1), .val (.int p2), .unset, .unset, .unset, .unset, .unset] [])) _
    refine XS.iloadN X0.here hx rfl (hb hby at_0) rfl ?_
    show Steps pP.tables eE below (s₁.setTop (mkF mM 1 #[.val (.int p1), .val (.int p2), .unset, .unset, .unset, .unset, .unset] [(.int p1)])) _
    refine X0.ldcI hx hown (mvT hZ (hw _ (List.mem_of_getElem? (i := 0) rfl))) (g := (mkF mM 1 #[.val (.int p1), .val (.int p2), .unset, .unset, .unset, .unset, .unset] [(.int p1)])) rfl (hb hby at_1) ?_
    show Steps pP.tables eE below (s₁.setTop (mkF mM 3 #[.val (.int p1), .val (.int p2), .unset, .unset, .unset, .unset, .unset] [(.int (2147483647 : Int32)), (.int p1)])) _
    refine XS.iand X0.here hx rfl (hb hby at_3) rfl ?_
    show Steps pP.tables eE below (s₁.setTop (mkF mM 4 #[.val (.int p1), .val (.int p2), .unset, .unset, .unset, .unset, .unset] [(.int (p1 &&& (2147483647 : Int32)))])) _
    refine XS.iconst X0.here hx rfl (hb hby at_4) ?_
    show Steps pP.tables eE below (s₁.setTop (mkF mM 5 #[.val (.int p1), .val (.int p2), .unset, .unset, .unset, .unset, .unset] [(.int (3 : Int32)), (.int (p1 &&& (2147483647 : Int32)))])) _
    refine iremM X0 hx rfl (hb hby at_5) rfl (by decide) ?_
    show Steps pP.tables eE below (s₁.setTop (mkF mM 6 #[.val (.int p1), .val (.int p2), .unset, .unset, .unset, .unset, .unset] [(.int ((p1 &&& (2147483647 : Int32)) % (3 : Int32)))])) _
    rw [hi]
    show Steps pP.tables eE below (s₁.setTop (mkF mM 6 #[.val (.int p1), .val (.int p2), .unset, .unset, .unset, .unset, .unset] [(.int (0 : Int32))])) _
    refine XS.istoreN X0.here hx rfl (hb hby at_6) rfl (l' := #[.val (.int p1), .val (.int p2), .val (.int (0 : Int32)), .unset, .unset, .unset, .unset]) rfl ?_
    show Steps pP.tables eE below (s₁.setTop (mkF mM 7 #[.val (.int p1), .val (.int p2), .val (.int (0 : Int32)), .unset, .unset, .unset, .unset] [])) _
    refine XS.iloadN X0.here hx rfl (hb hby at_7) rfl ?_
    show Steps pP.tables eE below (s₁.setTop (mkF mM 8 #[.val (.int p1), .val (.int p2), .val (.int (0 : Int32)), .unset, .unset, .unset, .unset] [(.int p2)])) _
    refine X0.ldcI hx hown (mvT hZ (hw _ (List.mem_of_getElem? (i := 0) rfl))) (g := (mkF mM 8 #[.val (.int p1), .val (.int p2), .val (.int (0 : Int32)), .unset, .unset, .unset, .unset] [(.int p2)])) rfl (hb hby at_8) ?_
    show Steps pP.tables eE below (s₁.setTop (mkF mM 10 #[.val (.int p1), .val (.int p2), .val (.int (0 : Int32)), .unset, .unset, .unset, .unset] [(.int (2147483647 : Int32)), (.int p2)])) _
    refine XS.iand X0.here hx rfl (hb hby at_10) rfl ?_
    show Steps pP.tables eE below (s₁.setTop (mkF mM 11 #[.val (.int p1), .val (.int p2), .val (.int (0 : Int32)), .unset, .unset, .unset, .unset] [(.int (p2 &&& (2147483647 : Int32)))])) _
    refine XS.iconst X0.here hx rfl (hb hby at_11) ?_
    show Steps pP.tables eE below (s₁.setTop (mkF mM 12 #[.val (.int p1), .val (.int p2), .val (.int (0 : Int32)), .unset, .unset, .unset, .unset] [(.int (3 : Int32)), (.int (p2 &&& (2147483647 : Int32)))])) _
    refine iremM X0 hx rfl (hb hby at_12) rfl (by decide) ?_
    show Steps pP.tables eE below (s₁.setTop (mkF mM 13 #[.val (.int p1), .val (.int p2), .val (.int (0 : Int32)), .unset, .unset, .unset, .unset] [(.int ((p2 &&& (2147483647 : Int32)) % (3 : Int32)))])) _
    rw [hj]
    show Steps pP.tables eE below (s₁.setTop (mkF mM 13 #[.val (.int p1), .val (.int p2), .val (.int (0 : Int32)), .unset, .unset, .unset, .unset] [(.int (2 : Int32))])) _
    refine XS.istoreN X0.here hx rfl (hb hby at_13) rfl (l' := #[.val (.int p1), .val (.int p2), .val (.int (0 : Int32)), .val (.int (2 : Int32)), .unset, .unset, .unset]) rfl ?_
    show Steps pP.tables eE below (s₁.setTop (mkF mM 14 #[.val (.int p1), .val (.int p2), .val (.int (0 : Int32)), .val (.int (2 : Int32)), .unset, .unset, .unset] [])) _
    refine XS.iloadN X0.here hx rfl (hb hby at_14) rfl ?_
    show Steps pP.tables eE below (s₁.setTop (mkF mM 15 #[.val (.int p1), .val (.int p2), .val (.int (0 : Int32)), .val (.int (2 : Int32)), .unset, .unset, .unset] [(.int (0 : Int32))])) _
    refine st_1 _ ?_
    show Steps pP.tables eE below (T_1.setTop (mkF mM 18 #[.val (.int p1), .val (.int p2), .val (.int (0 : Int32)), .val (.int (2 : Int32)), .unset, .unset, .unset] [(.ref f)])) _
    refine XS.astore X_1.here hx rfl (hb hby at_18) rfl rfl (l' := #[.val (.int p1), .val (.int p2), .val (.int (0 : Int32)), .val (.int (2 : Int32)), .val (.ref f), .unset, .unset]) rfl ?_
    show Steps pP.tables eE below (T_1.setTop (mkF mM 20 #[.val (.int p1), .val (.int p2), .val (.int (0 : Int32)), .val (.int (2 : Int32)), .val (.ref f), .unset, .unset] [])) _
    refine XS.iloadN X_1.here hx rfl (hb hby at_20) rfl ?_
    show Steps pP.tables eE below (T_1.setTop (mkF mM 21 #[.val (.int p1), .val (.int p2), .val (.int (0 : Int32)), .val (.int (2 : Int32)), .val (.ref f), .unset, .unset] [(.int (2 : Int32))])) _
    refine st_2 _ ?_
    show Steps pP.tables eE below (T_2.setTop (mkF mM 24 #[.val (.int p1), .val (.int p2), .val (.int (0 : Int32)), .val (.int (2 : Int32)), .val (.ref f), .unset, .unset] [(.ref t)])) _
    refine XS.astore X_2.here hx rfl (hb hby at_24) rfl rfl (l' := #[.val (.int p1), .val (.int p2), .val (.int (0 : Int32)), .val (.int (2 : Int32)), .val (.ref f), .val (.ref t), .unset]) rfl ?_
    show Steps pP.tables eE below (T_2.setTop (mkF mM 26 #[.val (.int p1), .val (.int p2), .val (.int (0 : Int32)), .val (.int (2 : Int32)), .val (.ref f), .val (.ref t), .unset] [])) _
    refine XS.aload X_2.here hx rfl (hb hby at_26) rfl rfl ?_
    show Steps pP.tables eE below (T_2.setTop (mkF mM 28 #[.val (.int p1), .val (.int p2), .val (.int (0 : Int32)), .val (.int (2 : Int32)), .val (.ref f), .val (.ref t), .unset] [(.ref f)])) _
    refine XS.aload X_2.here hx rfl (hb hby at_28) rfl rfl ?_
    show Steps pP.tables eE below (T_2.setTop (mkF mM 30 #[.val (.int p1), .val (.int p2), .val (.int (0 : Int32)), .val (.int (2 : Int32)), .val (.ref f), .val (.ref t), .unset] [(.ref t), (.ref f)])) _
    refine st_3.trans ?_
    show Steps pP.tables eE below (T_3.setTop (mkF mM 33 #[.val (.int p1), .val (.int p2), .val (.int (0 : Int32)), .val (.int (2 : Int32)), .val (.ref f), .val (.ref t), .unset] [(.ref f)])) _
    refine XS.astore X_3.here hx rfl (hb hby at_33) rfl rfl (l' := #[.val (.int p1), .val (.int p2), .val (.int (0 : Int32)), .val (.int (2 : Int32)), .val (.ref f), .val (.ref t), .val (.ref f)]) rfl ?_
    show Steps pP.tables eE below (T_3.setTop (mkF mM 35 #[.val (.int p1), .val (.int p2), .val (.int (0 : Int32)), .val (.int (2 : Int32)), .val (.ref f), .val (.ref t), .val (.ref f)] [])) _
    refine XS.aload X_3.here hx rfl (hb hby at_35) rfl rfl ?_
    show Steps pP.tables eE below (T_3.setTop (mkF mM 37 #[.val (.int p1), .val (.int p2), .val (.int (0 : Int32)), .val (.int (2 : Int32)), .val (.ref f), .val (.ref t), .val (.ref f)] [(.ref f)])) _
    refine st_4 _ ?_
    show Steps pP.tables eE below (T_4.setTop (mkF mM 40 #[.val (.int p1), .val (.int p2), .val (.int (0 : Int32)), .val (.int (2 : Int32)), .val (.ref f), .val (.ref t), .val (.ref f)] [(.int (0 : Int32))])) _
    refine XS.iloadN X_4.here hx rfl (hb hby at_40) rfl ?_
    show Steps pP.tables eE below (T_4.setTop (mkF mM 41 #[.val (.int p1), .val (.int p2), .val (.int (0 : Int32)), .val (.int (2 : Int32)), .val (.ref f), .val (.ref t), .val (.ref f)] [(.int (0 : Int32)), (.int (0 : Int32))])) _
    refine XS.iloadN X_4.here hx rfl (hb hby at_41) rfl ?_
    show Steps pP.tables eE below (T_4.setTop (mkF mM 42 #[.val (.int p1), .val (.int p2), .val (.int (0 : Int32)), .val (.int (2 : Int32)), .val (.ref f), .val (.ref t), .val (.ref f)] [(.int (2 : Int32)), (.int (0 : Int32)), (.int (0 : Int32))])) _
    refine st_5 _ ?_
    show Steps pP.tables eE below (T_5.setTop (mkF mM 45 #[.val (.int p1), .val (.int p2), .val (.int (0 : Int32)), .val (.int (2 : Int32)), .val (.ref f), .val (.ref t), .val (.ref f)] [(.int (0 : Int32)), (.int (0 : Int32))])) _
    refine XS.icmpNo X_5.here hx rfl (hb hby at_45) rfl (by decide) ?_
    show Steps pP.tables eE below (T_5.setTop (mkF mM 48 #[.val (.int p1), .val (.int p2), .val (.int (0 : Int32)), .val (.int (2 : Int32)), .val (.ref f), .val (.ref t), .val (.ref f)] [])) _
    refine XS.iconst X_5.here hx rfl (hb hby at_48) ?_
    show Steps pP.tables eE below (T_5.setTop (mkF mM 49 #[.val (.int p1), .val (.int p2), .val (.int (0 : Int32)), .val (.int (2 : Int32)), .val (.ref f), .val (.ref t), .val (.ref f)] [(.int (1 : Int32))])) _
    refine XS.goto X_5.here hx rfl (pc0 := 49) (pc' := 53) rfl (hb hby at_49) (by decide) (by decide) ?_
    show Steps pP.tables eE below (T_5.setTop (mkF mM 53 #[.val (.int p1), .val (.int p2), .val (.int (0 : Int32)), .val (.int (2 : Int32)), .val (.ref f), .val (.ref t), .val (.ref f)] [(.int (1 : Int32))])) _
    exact retN X_5 hx (t := .boolean) Bd.returns (by simp) (hb hby at_53) hr
  · show Q_law02 Z p1 p2 f u t h0 n0 _ T_5.heap _
    exact ⟨rfl, N_5⟩
theorem ef_law10 (mM : MethodId) (x0 : Int32) (x1 : Int32) : entryFrame mM #[(.int x0), (.int x1)] maxLocals = mkF mM 0 #[.val (.int x0), .val (.int x1), .unset, .unset, .unset, .unset, .unset] [] := by first | (simp [entryFrame, mkF, argsToLocals, Value.category, maxLocals]; done) | rfl
def Q_law10 (Z : State) (p1 : Int32) (p2 : Int32) (f : Addr) (u : Addr) (t : Addr) (h0 : Heap) (n0 : Nat) (v_ : Option Value) (h_ : Heap) (L_ : List Loc) : Prop := v_ = some (.int (1 : Int32)) ∧ Fr n0 L_
set_option maxRecDepth 65536 in
set_option maxHeartbeats 40000000 in
theorem rm_law10 (l : Launch) (Z : State) (a0 : Array Value) (hw : ∀ d ∈ tables_1, d.before a0 Z = true) (ws : List Jvm.Cond) (p1 : Int32) (p2 : Int32) (f : Addr) (u : Addr) (t : Addr) (h0 : Heap) (n0 : Nat) (Z0 : n0 ≤ h0.size) (hi : ((p1 &&& (2147483647 : Int32)) % (3 : Int32)) = (1 : Int32)) (hj : ((p2 &&& (2147483647 : Int32)) % (3 : Int32)) = (0 : Int32)) (S_Truth_FALSE : Sta Z h0 "com/example/querent/querent/engine/Truth" "FALSE" "Lcom/example/querent/querent/engine/Truth;" (.ref f)) (S_Truth_UNKNOWN : Sta Z h0 "com/example/querent/querent/engine/Truth" "UNKNOWN" "Lcom/example/querent/querent/engine/Truth;" (.ref u)) (S_Truth_TRUE : Sta Z h0 "com/example/querent/querent/engine/Truth" "TRUE" "Lcom/example/querent/querent/engine/Truth;" (.ref t)) (nfu : f ≠ u) (nft : f ≠ t) (nut : u ≠ t) (E_f : Exa Z h0 f "com/example/querent/querent/engine/Truth") (E_u : Exa Z h0 u "com/example/querent/querent/engine/Truth") (E_t : Exa Z h0 t "com/example/querent/querent/engine/Truth") :
    MetFree l x (head1 (Jvm.Cond.code x code maxLocals ret :: ws) room_1) (fun aa_ U_ => aa_ = #[(.int p1), (.int p2)] ∧ Z.Warmed39 U_.vm ∧ U_.heap = h0) (fun _ _ _ _ _ => True) (fun _ U_ o_ U'_ => ∃ v_ L_, o_ = .returned v_ ∧ Q_law10 Z p1 p2 f u t h0 n0 v_ U'_.heap L_ ∧ FrameEnd U_ o_ U'_ L_ 0 0) := by
  refine MetFree.of_bodySF (plainFor_of_name pn_0) hisR ?_
  intro pP eE sS mM argsA below meth cC s₁ Bd hml0 hP hK
  obtain ⟨rfl, hZ, hh⟩ := hP
  have hx := Bd.exec
  have hby := Bd.bytes
  have hml : cC.maxLocals = 7 := hml0
  have hown : sS.vm.findClass "com/example/querent/querent/engine/TruthAndPinLaw" = some mM.cls := findClass_of_methodNamed Bd.named
  have hnm := (name_of_methodNamed Bd.named Bd.method).1
  have X0 : Stand pP l eE room_1 sS mM #[(.int p1), (.int p2)] below meth cC s₁ [] 0 0 := Stand.of_body Bd
  have e0 : s₁.heap = h0 := by rw [← hh, Bd.state]; rfl
  have N0 := Fr.nil n0
  have pre0 : ∀ t_, Steps pP.tables eE below (s₁.setTop (mkF mM 0 #[.val (.int p1), .val (.int p2), .unset, .unset, .unset, .unset, .unset] [])) t_ → Steps pP.tables eE below (s₁.setTop (entryFrame mM #[(.int p1), (.int p2)] maxLocals)) t_ := fun t_ k_ => castTop (ef_law10 mM p1 p2) k_
  obtain ⟨_, _, ⟨T_1, L_1, k_1, n_1⟩, -, X_1, ⟨Lc_1, hQ_1, l_1, y_1, z_1⟩, st_1⟩ := Jvm.LawKit.callS X0 hx (y := (⟨"com/example/querent/querent/engine/TruthAndPinLaw", "pick", "(I)Lcom/example/querent/querent/engine/Truth;"⟩ : MethodName)) hown (mvT hZ (hw _ (List.mem_of_getElem? (i := 1) rfl))) (mvT hZ (hw _ (List.mem_of_getElem? (i := 2) rfl))) (mvT hZ (hw _ (List.mem_of_getElem? (i := 3) rfl))) (mvT hZ (hw _ (List.mem_of_getElem? (i := 4) rfl))) (by decide) (backOf (W := 0) (rm_pick1 l Z a0 hw [] u h0 n0 Z0 S_Truth_UNKNOWN) hZ (hw _ (List.mem_of_getElem? (i := 4) rfl)) (hw _ (List.mem_of_getElem? (i := 3) rfl)) (by decide) (by decide)) (g := (mkF mM 15 #[.val (.int p1), .val (.int p2), .val (.int (1 : Int32)), .val (.int (0 : Int32)), .unset, .unset, .unset] [(.int (1 : Int32))])) rfl (by rw [hml]; rfl) (argsL := [(.int (1 : Int32))]) (rest := []) (lenOf pd_0 rfl) rfl (by show 2 * 0 + _ ≤ _; exact Nat.le_of_eq rfl) (hb hby at_15) (fun _ _ => ⟨rfl, e0, (by decide : 0 + 0 ≤ _), (by decide : 0 + 0 ≤ _)⟩)
  dsimp only [Pt.U, Pt.locs, Pt.cells, Pt.slots] at X_1 l_1 y_1 z_1 st_1 hQ_1
  subst l_1 y_1 z_1
  obtain ⟨rfl, N_1q, eh_1⟩ := hQ_1
  have N_1 := Fr.app N0 N_1q
  obtain ⟨_, _, ⟨T_2, L_2, k_2, n_2⟩, -, X_2, ⟨Lc_2, hQ_2, l_2, y_2, z_2⟩, st_2⟩ := Jvm.LawKit.callS X_1 hx (y := (⟨"com/example/querent/querent/engine/TruthAndPinLaw", "pick", "(I)Lcom/example/querent/querent/engine/Truth;"⟩ : MethodName)) hown (mvT hZ (hw _ (List.mem_of_getElem? (i := 1) rfl))) (mvT hZ (hw _ (List.mem_of_getElem? (i := 2) rfl))) (mvT hZ (hw _ (List.mem_of_getElem? (i := 3) rfl))) (mvT hZ (hw _ (List.mem_of_getElem? (i := 4) rfl))) (by decide) (backOf (W := 0) (rm_pick0 l Z a0 hw [] f h0 n0 Z0 S_Truth_FALSE) hZ (hw _ (List.mem_of_getElem? (i := 4) rfl)) (hw _ (List.mem_of_getElem? (i := 3) rfl)) (by decide) (by decide)) (g := (mkF mM 21 #[.val (.int p1), .val (.int p2), .val (.int (1 : Int32)), .val (.int (0 : Int32)), .val (.ref u), .unset, .unset] [(.int (0 : Int32))])) rfl (by rw [hml]; rfl) (argsL := [(.int (0 : Int32))]) (rest := []) (lenOf pd_0 rfl) rfl (by show 2 * 0 + _ ≤ _; exact Nat.le_of_eq rfl) (hb hby at_21) (fun _ _ => ⟨rfl, eh_1, (by decide : 0 + 0 ≤ _), (by decide : 0 + 0 ≤ _)⟩)
  dsimp only [Pt.U, Pt.locs, Pt.cells, Pt.slots] at X_2 l_2 y_2 z_2 st_2 hQ_2
  subst l_2 y_2 z_2
  obtain ⟨rfl, N_2q, eh_2⟩ := hQ_2
  have N_2 := Fr.app N_1 N_2q
  obtain ⟨cq_3, kq_3, q_3a, q_3b, q_3c⟩ := isOf hZ eh_2 E_u
  obtain ⟨_, _, ⟨T_3, L_3, k_3, n_3⟩, -, X_3, ⟨Lc_3, hQ_3, l_3, y_3, z_3⟩, st_3⟩ := X_2.virtualBack hx (y := (⟨"com/example/querent/querent/engine/Truth", "and", "(Lcom/example/querent/querent/engine/Truth;)Lcom/example/querent/querent/engine/Truth;"⟩ : MethodName)) (z := (⟨"com/example/querent/querent/engine/Truth", "and", "(Lcom/example/querent/querent/engine/Truth;)Lcom/example/querent/querent/engine/Truth;"⟩ : MethodName)) hown (mvT hZ (hw _ (List.mem_of_getElem? (i := 8) rfl))) (mvT hZ (hw _ (List.mem_of_getElem? (i := 9) rfl))) (notFace_of_selects (args := #[]) (mvT hZ (hw _ (List.mem_of_getElem? (i := 11) rfl)))) (mvT hZ (hw _ (List.mem_of_getElem? (i := 11) rfl))) (mvT hZ (hw _ (List.mem_of_getElem? (i := 10) rfl))) (by decide) (backOf (W := 0) (rm_op10 l Z a0 hw [] f u t h0 n0 Z0 S_Truth_FALSE S_Truth_UNKNOWN S_Truth_TRUE nfu nft nut) hZ (hw _ (List.mem_of_getElem? (i := 12) rfl)) (hw _ (List.mem_of_getElem? (i := 6) rfl)) (by decide) (by decide)) q_3a q_3c (g := (mkF mM 30 #[.val (.int p1), .val (.int p2), .val (.int (1 : Int32)), .val (.int (0 : Int32)), .val (.ref u), .val (.ref f), .unset] [(.ref f), (.ref u)])) rfl (by rw [hml]; rfl) (Steps.refl _) (argsL := [(.ref f)]) (rest := []) (lenOf pd_1 rfl) rfl (by show 2 * 0 + _ ≤ _; exact Nat.le_of_eq rfl) (hb hby at_30) (fun _ _ => ⟨rfl, eh_2, (by decide : 0 + 0 ≤ _), (by decide : 0 + 0 ≤ _)⟩)
  dsimp only [Pt.U, Pt.locs, Pt.cells, Pt.slots] at X_3 l_3 y_3 z_3 st_3 hQ_3
  subst l_3 y_3 z_3
  obtain ⟨rfl, N_3q, eh_3⟩ := hQ_3
  have N_3 := Fr.app N_2 N_3q
  obtain ⟨_, _, ⟨T_4, L_4, k_4, n_4⟩, -, X_4, ⟨Lc_4, hQ_4, l_4, y_4, z_4⟩, st_4⟩ := Jvm.LawKit.callS X_3 hx (y := (⟨"com/example/querent/querent/engine/TruthAndPinLaw", "rank", "(Lcom/example/querent/querent/engine/Truth;)I"⟩ : MethodName)) hown (mvT hZ (hw _ (List.mem_of_getElem? (i := 14) rfl))) (mvT hZ (hw _ (List.mem_of_getElem? (i := 15) rfl))) (mvT hZ (hw _ (List.mem_of_getElem? (i := 3) rfl))) (mvT hZ (hw _ (List.mem_of_getElem? (i := 16) rfl))) (by decide) (backOf (W := 0) (rm_rank0 l Z a0 hw [] f u t h0 n0 Z0 S_Truth_FALSE S_Truth_UNKNOWN S_Truth_TRUE nfu nft nut) hZ (hw _ (List.mem_of_getElem? (i := 16) rfl)) (hw _ (List.mem_of_getElem? (i := 3) rfl)) (by decide) (by decide)) (g := (mkF mM 37 #[.val (.int p1), .val (.int p2), .val (.int (1 : Int32)), .val (.int (0 : Int32)), .val (.ref u), .val (.ref f), .val (.ref f)] [(.ref f)])) rfl (by rw [hml]; rfl) (argsL := [(.ref f)]) (rest := []) (lenOf pd_2 rfl) rfl (by show 2 * 0 + _ ≤ _; exact Nat.le_of_eq rfl) (hb hby at_37) (fun _ _ => ⟨rfl, eh_3, (by decide : 0 + 0 ≤ _), (by decide : 0 + 0 ≤ _)⟩)
  dsimp only [Pt.U, Pt.locs, Pt.cells, Pt.slots] at X_4 l_4 y_4 z_4 st_4 hQ_4
  subst l_4 y_4 z_4
  obtain ⟨rfl, N_4q, eh_4⟩ := hQ_4
  have N_4 := Fr.app N_3 N_4q
  obtain ⟨_, _, ⟨T_5, L_5, k_5, n_5⟩, -, X_5, ⟨Lc_5, hQ_5, l_5, y_5, z_5⟩, st_5⟩ := Jvm.LawKit.callS X_4 hx (y := (⟨"java/lang/Math", "min", "(II)I"⟩ : MethodName)) hown (mvT hZ (hw _ (List.mem_of_getElem? (i := 17) rfl))) (mvT hZ (hw _ (List.mem_of_getElem? (i := 18) rfl))) (mvT hZ (hw _ (List.mem_of_getElem? (i := 19) rfl))) (mvT hZ (hw _ (List.mem_of_getElem? (i := 20) rfl))) (by decide) (backOf (W := 1) (rm_m0 l Z a0 hw [] (1 : Int32) (0 : Int32) h0 n0 Z0 (by decide)) hZ (hw _ (List.mem_of_getElem? (i := 20) rfl)) (hw _ (List.mem_of_getElem? (i := 19) rfl)) (by decide) (by decide)) (g := (mkF mM 42 #[.val (.int p1), .val (.int p2), .val (.int (1 : Int32)), .val (.int (0 : Int32)), .val (.ref u), .val (.ref f), .val (.ref f)] [(.int (0 : Int32)), (.int (1 : Int32)), (.int (0 : Int32))])) rfl (by rw [hml]; rfl) (argsL := [(.int (1 : Int32)), (.int (0 : Int32))]) (rest := [(.int (0 : Int32))]) (lenOf pd_3 rfl) rfl (by show 2 * 0 + _ ≤ _; exact Nat.le_of_eq rfl) (hb hby at_42) (fun _ _ => ⟨rfl, eh_4, (by decide : 0 + 0 ≤ _), (by decide : 0 + 0 ≤ _)⟩)
  dsimp only [Pt.U, Pt.locs, Pt.cells, Pt.slots] at X_5 l_5 y_5 z_5 st_5 hQ_5
  subst l_5 y_5 z_5
  obtain ⟨rfl, N_5q, eh_5⟩ := hQ_5
  have N_5 := Fr.app N_4 N_5q
  obtain ⟨fs, hr, hrun, hended, hW, hsame⟩ := X_5.leave (v := some (.int (1 : Int32))) (fun h => by rw [Bd.returns] at h; cases h)
  refine ⟨_, _, pre0 _ ?_, hrun, hended, _, _, rfl, ?_, ⟨_, rfl⟩, hW, hsame.mono (by decide) (by decide)⟩
  · show Steps pP.tables eE below (s₁.setTop (mkF mM 0 #[.val (.int p1), .val (.int p2), .unset, .unset, .unset, .unset, .unset] [])) _
    refine XS.iloadN X0.here hx rfl (hb hby at_0) rfl ?_
    show Steps pP.tables eE below (s₁.setTop (mkF mM 1 #[.val (.int p1), .val (.int p2), .unset, .unset, .unset, .unset, .unset] [(.int p1)])) _
    refine X0.ldcI hx hown (mvT hZ (hw _ (List.mem_of_getElem? (i := 0) rfl))) (g := (mkF mM 1 #[.val (.int p1), .val (.int p2), .unset, .unset, .unset, .unset, .unset] [(.int p1)])) rfl (hb hby at_1) ?_
    show Steps pP.tables eE below (s₁.setTop (mkF mM 3 #[.val (.int p1), .val (.int p2), .unset, .unset, .unset, .unset, .unset] [(.int (2147483647 : Int32)), (.int p1)])) _
    refine XS.iand X0.here hx rfl (hb hby at_3) rfl ?_
    show Steps pP.tables eE below (s₁.setTop (mkF mM 4 #[.val (.int p1), .val (.int p2), .unset, .unset, .unset, .unset, .unset] [(.int (p1 &&& (2147483647 : Int32)))])) _
    refine XS.iconst X0.here hx rfl (hb hby at_4) ?_
    show Steps pP.tables eE below (s₁.setTop (mkF mM 5 #[.val (.int p1), .val (.int p2), .unset, .unset, .unset, .unset, .unset] [(.int (3 : Int32)), (.int (p1 &&& (2147483647 : Int32)))])) _
    refine iremM X0 hx rfl (hb hby at_5) rfl (by decide) ?_
    show Steps pP.tables eE below (s₁.setTop (mkF mM 6 #[.val (.int p1), .val (.int p2), .unset, .unset, .unset, .unset, .unset] [(.int ((p1 &&& (2147483647 : Int32)) % (3 : Int32)))])) _
    rw [hi]
    show Steps pP.tables eE below (s₁.setTop (mkF mM 6 #[.val (.int p1), .val (.int p2), .unset, .unset, .unset, .unset, .unset] [(.int (1 : Int32))])) _
    refine XS.istoreN X0.here hx rfl (hb hby at_6) rfl (l' := #[.val (.int p1), .val (.int p2), .val (.int (1 : Int32)), .unset, .unset, .unset, .unset]) rfl ?_
    show Steps pP.tables eE below (s₁.setTop (mkF mM 7 #[.val (.int p1), .val (.int p2), .val (.int (1 : Int32)), .unset, .unset, .unset, .unset] [])) _
    refine XS.iloadN X0.here hx rfl (hb hby at_7) rfl ?_
    show Steps pP.tables eE below (s₁.setTop (mkF mM 8 #[.val (.int p1), .val (.int p2), .val (.int (1 : Int32)), .unset, .unset, .unset, .unset] [(.int p2)])) _
    refine X0.ldcI hx hown (mvT hZ (hw _ (List.mem_of_getElem? (i := 0) rfl))) (g := (mkF mM 8 #[.val (.int p1), .val (.int p2), .val (.int (1 : Int32)), .unset, .unset, .unset, .unset] [(.int p2)])) rfl (hb hby at_8) ?_
    show Steps pP.tables eE below (s₁.setTop (mkF mM 10 #[.val (.int p1), .val (.int p2), .val (.int (1 : Int32)), .unset, .unset, .unset, .unset] [(.int (2147483647 : Int32)), (.int p2)])) _
    refine XS.iand X0.here hx rfl (hb hby at_10) rfl ?_
    show Steps pP.tables eE below (s₁.setTop (mkF mM 11 #[.val (.int p1), .val (.int p2), .val (.int (1 : Int32)), .unset, .unset, .unset, .unset] [(.int (p2 &&& (2147483647 : Int32)))])) _
    refine XS.iconst X0.here hx rfl (hb hby at_11) ?_
    show Steps pP.tables eE below (s₁.setTop (mkF mM 12 #[.val (.int p1), .val (.int p2), .val (.int (1 : Int32)), .unset, .unset, .unset, .unset] [(.int (3 : Int32)), (.int (p2 &&& (2147483647 : Int32)))])) _
    refine iremM X0 hx rfl (hb hby at_12) rfl (by decide) ?_
    show Steps pP.tables eE below (s₁.setTop (mkF mM 13 #[.val (.int p1), .val (.int p2), .val (.int (1 : Int32)), .unset, .unset, .unset, .unset] [(.int ((p2 &&& (2147483647 : Int32)) % (3 : Int32)))])) _
    rw [hj]
    show Steps pP.tables eE below (s₁.setTop (mkF mM 13 #[.val (.int p1), .val (.int p2), .val (.int (1 : Int32)), .unset, .unset, .unset, .unset] [(.int (0 : Int32))])) _
    refine XS.istoreN X0.here hx rfl (hb hby at_13) rfl (l' := #[.val (.int p1), .val (.int p2), .val (.int (1 : Int32)), .val (.int (0 : Int32)), .unset, .unset, .unset]) rfl ?_
    show Steps pP.tables eE below (s₁.setTop (mkF mM 14 #[.val (.int p1), .val (.int p2), .val (.int (1 : Int32)), .val (.int (0 : Int32)), .unset, .unset, .unset] [])) _
    refine XS.iloadN X0.here hx rfl (hb hby at_14) rfl ?_
    show Steps pP.tables eE below (s₁.setTop (mkF mM 15 #[.val (.int p1), .val (.int p2), .val (.int (1 : Int32)), .val (.int (0 : Int32)), .unset, .unset, .unset] [(.int (1 : Int32))])) _
    refine st_1 _ ?_
    show Steps pP.tables eE below (T_1.setTop (mkF mM 18 #[.val (.int p1), .val (.int p2), .val (.int (1 : Int32)), .val (.int (0 : Int32)), .unset, .unset, .unset] [(.ref u)])) _
    refine XS.astore X_1.here hx rfl (hb hby at_18) rfl rfl (l' := #[.val (.int p1), .val (.int p2), .val (.int (1 : Int32)), .val (.int (0 : Int32)), .val (.ref u), .unset, .unset]) rfl ?_
    show Steps pP.tables eE below (T_1.setTop (mkF mM 20 #[.val (.int p1), .val (.int p2), .val (.int (1 : Int32)), .val (.int (0 : Int32)), .val (.ref u), .unset, .unset] [])) _
    refine XS.iloadN X_1.here hx rfl (hb hby at_20) rfl ?_
    show Steps pP.tables eE below (T_1.setTop (mkF mM 21 #[.val (.int p1), .val (.int p2), .val (.int (1 : Int32)), .val (.int (0 : Int32)), .val (.ref u), .unset, .unset] [(.int (0 : Int32))])) _
    refine st_2 _ ?_
    show Steps pP.tables eE below (T_2.setTop (mkF mM 24 #[.val (.int p1), .val (.int p2), .val (.int (1 : Int32)), .val (.int (0 : Int32)), .val (.ref u), .unset, .unset] [(.ref f)])) _
    refine XS.astore X_2.here hx rfl (hb hby at_24) rfl rfl (l' := #[.val (.int p1), .val (.int p2), .val (.int (1 : Int32)), .val (.int (0 : Int32)), .val (.ref u), .val (.ref f), .unset]) rfl ?_
    show Steps pP.tables eE below (T_2.setTop (mkF mM 26 #[.val (.int p1), .val (.int p2), .val (.int (1 : Int32)), .val (.int (0 : Int32)), .val (.ref u), .val (.ref f), .unset] [])) _
    refine XS.aload X_2.here hx rfl (hb hby at_26) rfl rfl ?_
    show Steps pP.tables eE below (T_2.setTop (mkF mM 28 #[.val (.int p1), .val (.int p2), .val (.int (1 : Int32)), .val (.int (0 : Int32)), .val (.ref u), .val (.ref f), .unset] [(.ref u)])) _
    refine XS.aload X_2.here hx rfl (hb hby at_28) rfl rfl ?_
    show Steps pP.tables eE below (T_2.setTop (mkF mM 30 #[.val (.int p1), .val (.int p2), .val (.int (1 : Int32)), .val (.int (0 : Int32)), .val (.ref u), .val (.ref f), .unset] [(.ref f), (.ref u)])) _
    refine st_3.trans ?_
    show Steps pP.tables eE below (T_3.setTop (mkF mM 33 #[.val (.int p1), .val (.int p2), .val (.int (1 : Int32)), .val (.int (0 : Int32)), .val (.ref u), .val (.ref f), .unset] [(.ref f)])) _
    refine XS.astore X_3.here hx rfl (hb hby at_33) rfl rfl (l' := #[.val (.int p1), .val (.int p2), .val (.int (1 : Int32)), .val (.int (0 : Int32)), .val (.ref u), .val (.ref f), .val (.ref f)]) rfl ?_
    show Steps pP.tables eE below (T_3.setTop (mkF mM 35 #[.val (.int p1), .val (.int p2), .val (.int (1 : Int32)), .val (.int (0 : Int32)), .val (.ref u), .val (.ref f), .val (.ref f)] [])) _
    refine XS.aload X_3.here hx rfl (hb hby at_35) rfl rfl ?_
    show Steps pP.tables eE below (T_3.setTop (mkF mM 37 #[.val (.int p1), .val (.int p2), .val (.int (1 : Int32)), .val (.int (0 : Int32)), .val (.ref u), .val (.ref f), .val (.ref f)] [(.ref f)])) _
    refine st_4 _ ?_
    show Steps pP.tables eE below (T_4.setTop (mkF mM 40 #[.val (.int p1), .val (.int p2), .val (.int (1 : Int32)), .val (.int (0 : Int32)), .val (.ref u), .val (.ref f), .val (.ref f)] [(.int (0 : Int32))])) _
    refine XS.iloadN X_4.here hx rfl (hb hby at_40) rfl ?_
    show Steps pP.tables eE below (T_4.setTop (mkF mM 41 #[.val (.int p1), .val (.int p2), .val (.int (1 : Int32)), .val (.int (0 : Int32)), .val (.ref u), .val (.ref f), .val (.ref f)] [(.int (1 : Int32)), (.int (0 : Int32))])) _
    refine XS.iloadN X_4.here hx rfl (hb hby at_41) rfl ?_
    show Steps pP.tables eE below (T_4.setTop (mkF mM 42 #[.val (.int p1), .val (.int p2), .val (.int (1 : Int32)), .val (.int (0 : Int32)), .val (.ref u), .val (.ref f), .val (.ref f)] [(.int (0 : Int32)), (.int (1 : Int32)), (.int (0 : Int32))])) _
    refine st_5 _ ?_
    show Steps pP.tables eE below (T_5.setTop (mkF mM 45 #[.val (.int p1), .val (.int p2), .val (.int (1 : Int32)), .val (.int (0 : Int32)), .val (.ref u), .val (.ref f), .val (.ref f)] [(.int (0 : Int32)), (.int (0 : Int32))])) _
    refine XS.icmpNo X_5.here hx rfl (hb hby at_45) rfl (by decide) ?_
    show Steps pP.tables eE below (T_5.setTop (mkF mM 48 #[.val (.int p1), .val (.int p2), .val (.int (1 : Int32)), .val (.int (0 : Int32)), .val (.ref u), .val (.ref f), .val (.ref f)] [])) _
    refine XS.iconst X_5.here hx rfl (hb hby at_48) ?_
    show Steps pP.tables eE below (T_5.setTop (mkF mM 49 #[.val (.int p1), .val (.int p2), .val (.int (1 : Int32)), .val (.int (0 : Int32)), .val (.ref u), .val (.ref f), .val (.ref f)] [(.int (1 : Int32))])) _
    refine XS.goto X_5.here hx rfl (pc0 := 49) (pc' := 53) rfl (hb hby at_49) (by decide) (by decide) ?_
    show Steps pP.tables eE below (T_5.setTop (mkF mM 53 #[.val (.int p1), .val (.int p2), .val (.int (1 : Int32)), .val (.int (0 : Int32)), .val (.ref u), .val (.ref f), .val (.ref f)] [(.int (1 : Int32))])) _
    exact retN X_5 hx (t := .boolean) Bd.returns (by simp) (hb hby at_53) hr
  · show Q_law10 Z p1 p2 f u t h0 n0 _ T_5.heap _
    exact ⟨rfl, N_5⟩
theorem ef_law11 (mM : MethodId) (x0 : Int32) (x1 : Int32) : entryFrame mM #[(.int x0), (.int x1)] maxLocals = mkF mM 0 #[.val (.int x0), .val (.int x1), .unset, .unset, .unset, .unset, .unset] [] := by first | (simp [entryFrame, mkF, argsToLocals, Value.category, maxLocals]; done) | rfl
def Q_law11 (Z : State) (p1 : Int32) (p2 : Int32) (f : Addr) (u : Addr) (t : Addr) (h0 : Heap) (n0 : Nat) (v_ : Option Value) (h_ : Heap) (L_ : List Loc) : Prop := v_ = some (.int (1 : Int32)) ∧ Fr n0 L_
set_option maxRecDepth 65536 in
set_option maxHeartbeats 40000000 in
theorem rm_law11 (l : Launch) (Z : State) (a0 : Array Value) (hw : ∀ d ∈ tables_1, d.before a0 Z = true) (ws : List Jvm.Cond) (p1 : Int32) (p2 : Int32) (f : Addr) (u : Addr) (t : Addr) (h0 : Heap) (n0 : Nat) (Z0 : n0 ≤ h0.size) (hi : ((p1 &&& (2147483647 : Int32)) % (3 : Int32)) = (1 : Int32)) (hj : ((p2 &&& (2147483647 : Int32)) % (3 : Int32)) = (1 : Int32)) (S_Truth_FALSE : Sta Z h0 "com/example/querent/querent/engine/Truth" "FALSE" "Lcom/example/querent/querent/engine/Truth;" (.ref f)) (S_Truth_UNKNOWN : Sta Z h0 "com/example/querent/querent/engine/Truth" "UNKNOWN" "Lcom/example/querent/querent/engine/Truth;" (.ref u)) (S_Truth_TRUE : Sta Z h0 "com/example/querent/querent/engine/Truth" "TRUE" "Lcom/example/querent/querent/engine/Truth;" (.ref t)) (nfu : f ≠ u) (nft : f ≠ t) (nut : u ≠ t) (E_f : Exa Z h0 f "com/example/querent/querent/engine/Truth") (E_u : Exa Z h0 u "com/example/querent/querent/engine/Truth") (E_t : Exa Z h0 t "com/example/querent/querent/engine/Truth") :
    MetFree l x (head1 (Jvm.Cond.code x code maxLocals ret :: ws) room_1) (fun aa_ U_ => aa_ = #[(.int p1), (.int p2)] ∧ Z.Warmed39 U_.vm ∧ U_.heap = h0) (fun _ _ _ _ _ => True) (fun _ U_ o_ U'_ => ∃ v_ L_, o_ = .returned v_ ∧ Q_law11 Z p1 p2 f u t h0 n0 v_ U'_.heap L_ ∧ FrameEnd U_ o_ U'_ L_ 0 0) := by
  refine MetFree.of_bodySF (plainFor_of_name pn_0) hisR ?_
  intro pP eE sS mM argsA below meth cC s₁ Bd hml0 hP hK
  obtain ⟨rfl, hZ, hh⟩ := hP
  have hx := Bd.exec
  have hby := Bd.bytes
  have hml : cC.maxLocals = 7 := hml0
  have hown : sS.vm.findClass "com/example/querent/querent/engine/TruthAndPinLaw" = some mM.cls := findClass_of_methodNamed Bd.named
  have hnm := (name_of_methodNamed Bd.named Bd.method).1
  have X0 : Stand pP l eE room_1 sS mM #[(.int p1), (.int p2)] below meth cC s₁ [] 0 0 := Stand.of_body Bd
  have e0 : s₁.heap = h0 := by rw [← hh, Bd.state]; rfl
  have N0 := Fr.nil n0
  have pre0 : ∀ t_, Steps pP.tables eE below (s₁.setTop (mkF mM 0 #[.val (.int p1), .val (.int p2), .unset, .unset, .unset, .unset, .unset] [])) t_ → Steps pP.tables eE below (s₁.setTop (entryFrame mM #[(.int p1), (.int p2)] maxLocals)) t_ := fun t_ k_ => castTop (ef_law11 mM p1 p2) k_
  obtain ⟨_, _, ⟨T_1, L_1, k_1, n_1⟩, -, X_1, ⟨Lc_1, hQ_1, l_1, y_1, z_1⟩, st_1⟩ := Jvm.LawKit.callS X0 hx (y := (⟨"com/example/querent/querent/engine/TruthAndPinLaw", "pick", "(I)Lcom/example/querent/querent/engine/Truth;"⟩ : MethodName)) hown (mvT hZ (hw _ (List.mem_of_getElem? (i := 1) rfl))) (mvT hZ (hw _ (List.mem_of_getElem? (i := 2) rfl))) (mvT hZ (hw _ (List.mem_of_getElem? (i := 3) rfl))) (mvT hZ (hw _ (List.mem_of_getElem? (i := 4) rfl))) (by decide) (backOf (W := 0) (rm_pick1 l Z a0 hw [] u h0 n0 Z0 S_Truth_UNKNOWN) hZ (hw _ (List.mem_of_getElem? (i := 4) rfl)) (hw _ (List.mem_of_getElem? (i := 3) rfl)) (by decide) (by decide)) (g := (mkF mM 15 #[.val (.int p1), .val (.int p2), .val (.int (1 : Int32)), .val (.int (1 : Int32)), .unset, .unset, .unset] [(.int (1 : Int32))])) rfl (by rw [hml]; rfl) (argsL := [(.int (1 : Int32))]) (rest := []) (lenOf pd_0 rfl) rfl (by show 2 * 0 + _ ≤ _; exact Nat.le_of_eq rfl) (hb hby at_15) (fun _ _ => ⟨rfl, e0, (by decide : 0 + 0 ≤ _), (by decide : 0 + 0 ≤ _)⟩)
  dsimp only [Pt.U, Pt.locs, Pt.cells, Pt.slots] at X_1 l_1 y_1 z_1 st_1 hQ_1
  subst l_1 y_1 z_1
  obtain ⟨rfl, N_1q, eh_1⟩ := hQ_1
  have N_1 := Fr.app N0 N_1q
  obtain ⟨_, _, ⟨T_2, L_2, k_2, n_2⟩, -, X_2, ⟨Lc_2, hQ_2, l_2, y_2, z_2⟩, st_2⟩ := Jvm.LawKit.callS X_1 hx (y := (⟨"com/example/querent/querent/engine/TruthAndPinLaw", "pick", "(I)Lcom/example/querent/querent/engine/Truth;"⟩ : MethodName)) hown (mvT hZ (hw _ (List.mem_of_getElem? (i := 1) rfl))) (mvT hZ (hw _ (List.mem_of_getElem? (i := 2) rfl))) (mvT hZ (hw _ (List.mem_of_getElem? (i := 3) rfl))) (mvT hZ (hw _ (List.mem_of_getElem? (i := 4) rfl))) (by decide) (backOf (W := 0) (rm_pick1 l Z a0 hw [] u h0 n0 Z0 S_Truth_UNKNOWN) hZ (hw _ (List.mem_of_getElem? (i := 4) rfl)) (hw _ (List.mem_of_getElem? (i := 3) rfl)) (by decide) (by decide)) (g := (mkF mM 21 #[.val (.int p1), .val (.int p2), .val (.int (1 : Int32)), .val (.int (1 : Int32)), .val (.ref u), .unset, .unset] [(.int (1 : Int32))])) rfl (by rw [hml]; rfl) (argsL := [(.int (1 : Int32))]) (rest := []) (lenOf pd_0 rfl) rfl (by show 2 * 0 + _ ≤ _; exact Nat.le_of_eq rfl) (hb hby at_21) (fun _ _ => ⟨rfl, eh_1, (by decide : 0 + 0 ≤ _), (by decide : 0 + 0 ≤ _)⟩)
  dsimp only [Pt.U, Pt.locs, Pt.cells, Pt.slots] at X_2 l_2 y_2 z_2 st_2 hQ_2
  subst l_2 y_2 z_2
  obtain ⟨rfl, N_2q, eh_2⟩ := hQ_2
  have N_2 := Fr.app N_1 N_2q
  obtain ⟨cq_3, kq_3, q_3a, q_3b, q_3c⟩ := isOf hZ eh_2 E_u
  obtain ⟨_, _, ⟨T_3, L_3, k_3, n_3⟩, -, X_3, ⟨Lc_3, hQ_3, l_3, y_3, z_3⟩, st_3⟩ := X_2.virtualBack hx (y := (⟨"com/example/querent/querent/engine/Truth", "and", "(Lcom/example/querent/querent/engine/Truth;)Lcom/example/querent/querent/engine/Truth;"⟩ : MethodName)) (z := (⟨"com/example/querent/querent/engine/Truth", "and", "(Lcom/example/querent/querent/engine/Truth;)Lcom/example/querent/querent/engine/Truth;"⟩ : MethodName)) hown (mvT hZ (hw _ (List.mem_of_getElem? (i := 8) rfl))) (mvT hZ (hw _ (List.mem_of_getElem? (i := 9) rfl))) (notFace_of_selects (args := #[]) (mvT hZ (hw _ (List.mem_of_getElem? (i := 11) rfl)))) (mvT hZ (hw _ (List.mem_of_getElem? (i := 11) rfl))) (mvT hZ (hw _ (List.mem_of_getElem? (i := 10) rfl))) (by decide) (backOf (W := 0) (rm_op11 l Z a0 hw [] f u t h0 n0 Z0 S_Truth_FALSE S_Truth_UNKNOWN S_Truth_TRUE nfu nft nut) hZ (hw _ (List.mem_of_getElem? (i := 12) rfl)) (hw _ (List.mem_of_getElem? (i := 6) rfl)) (by decide) (by decide)) q_3a q_3c (g := (mkF mM 30 #[.val (.int p1), .val (.int p2), .val (.int (1 : Int32)), .val (.int (1 : Int32)), .val (.ref u), .val (.ref u), .unset] [(.ref u), (.ref u)])) rfl (by rw [hml]; rfl) (Steps.refl _) (argsL := [(.ref u)]) (rest := []) (lenOf pd_1 rfl) rfl (by show 2 * 0 + _ ≤ _; exact Nat.le_of_eq rfl) (hb hby at_30) (fun _ _ => ⟨rfl, eh_2, (by decide : 0 + 0 ≤ _), (by decide : 0 + 0 ≤ _)⟩)
  dsimp only [Pt.U, Pt.locs, Pt.cells, Pt.slots] at X_3 l_3 y_3 z_3 st_3 hQ_3
  subst l_3 y_3 z_3
  obtain ⟨rfl, N_3q, eh_3⟩ := hQ_3
  have N_3 := Fr.app N_2 N_3q
  obtain ⟨_, _, ⟨T_4, L_4, k_4, n_4⟩, -, X_4, ⟨Lc_4, hQ_4, l_4, y_4, z_4⟩, st_4⟩ := Jvm.LawKit.callS X_3 hx (y := (⟨"com/example/querent/querent/engine/TruthAndPinLaw", "rank", "(Lcom/example/querent/querent/engine/Truth;)I"⟩ : MethodName)) hown (mvT hZ (hw _ (List.mem_of_getElem? (i := 14) rfl))) (mvT hZ (hw _ (List.mem_of_getElem? (i := 15) rfl))) (mvT hZ (hw _ (List.mem_of_getElem? (i := 3) rfl))) (mvT hZ (hw _ (List.mem_of_getElem? (i := 16) rfl))) (by decide) (backOf (W := 0) (rm_rank1 l Z a0 hw [] f u t h0 n0 Z0 S_Truth_FALSE S_Truth_UNKNOWN S_Truth_TRUE nfu nft nut) hZ (hw _ (List.mem_of_getElem? (i := 16) rfl)) (hw _ (List.mem_of_getElem? (i := 3) rfl)) (by decide) (by decide)) (g := (mkF mM 37 #[.val (.int p1), .val (.int p2), .val (.int (1 : Int32)), .val (.int (1 : Int32)), .val (.ref u), .val (.ref u), .val (.ref u)] [(.ref u)])) rfl (by rw [hml]; rfl) (argsL := [(.ref u)]) (rest := []) (lenOf pd_2 rfl) rfl (by show 2 * 0 + _ ≤ _; exact Nat.le_of_eq rfl) (hb hby at_37) (fun _ _ => ⟨rfl, eh_3, (by decide : 0 + 0 ≤ _), (by decide : 0 + 0 ≤ _)⟩)
  dsimp only [Pt.U, Pt.locs, Pt.cells, Pt.slots] at X_4 l_4 y_4 z_4 st_4 hQ_4
  subst l_4 y_4 z_4
  obtain ⟨rfl, N_4q, eh_4⟩ := hQ_4
  have N_4 := Fr.app N_3 N_4q
  obtain ⟨_, _, ⟨T_5, L_5, k_5, n_5⟩, -, X_5, ⟨Lc_5, hQ_5, l_5, y_5, z_5⟩, st_5⟩ := Jvm.LawKit.callS X_4 hx (y := (⟨"java/lang/Math", "min", "(II)I"⟩ : MethodName)) hown (mvT hZ (hw _ (List.mem_of_getElem? (i := 17) rfl))) (mvT hZ (hw _ (List.mem_of_getElem? (i := 18) rfl))) (mvT hZ (hw _ (List.mem_of_getElem? (i := 19) rfl))) (mvT hZ (hw _ (List.mem_of_getElem? (i := 20) rfl))) (by decide) (backOf (W := 1) (rm_m1 l Z a0 hw [] (1 : Int32) (1 : Int32) h0 n0 Z0 (by decide)) hZ (hw _ (List.mem_of_getElem? (i := 20) rfl)) (hw _ (List.mem_of_getElem? (i := 19) rfl)) (by decide) (by decide)) (g := (mkF mM 42 #[.val (.int p1), .val (.int p2), .val (.int (1 : Int32)), .val (.int (1 : Int32)), .val (.ref u), .val (.ref u), .val (.ref u)] [(.int (1 : Int32)), (.int (1 : Int32)), (.int (1 : Int32))])) rfl (by rw [hml]; rfl) (argsL := [(.int (1 : Int32)), (.int (1 : Int32))]) (rest := [(.int (1 : Int32))]) (lenOf pd_3 rfl) rfl (by show 2 * 0 + _ ≤ _; exact Nat.le_of_eq rfl) (hb hby at_42) (fun _ _ => ⟨rfl, eh_4, (by decide : 0 + 0 ≤ _), (by decide : 0 + 0 ≤ _)⟩)
  dsimp only [Pt.U, Pt.locs, Pt.cells, Pt.slots] at X_5 l_5 y_5 z_5 st_5 hQ_5
  subst l_5 y_5 z_5
  obtain ⟨rfl, N_5q, eh_5⟩ := hQ_5
  have N_5 := Fr.app N_4 N_5q
  obtain ⟨fs, hr, hrun, hended, hW, hsame⟩ := X_5.leave (v := some (.int (1 : Int32))) (fun h => by rw [Bd.returns] at h; cases h)
  refine ⟨_, _, pre0 _ ?_, hrun, hended, _, _, rfl, ?_, ⟨_, rfl⟩, hW, hsame.mono (by decide) (by decide)⟩
  · show Steps pP.tables eE below (s₁.setTop (mkF mM 0 #[.val (.int p1), .val (.int p2), .unset, .unset, .unset, .unset, .unset] [])) _
    refine XS.iloadN X0.here hx rfl (hb hby at_0) rfl ?_
    show Steps pP.tables eE below (s₁.setTop (mkF mM 1 #[.val (.int p1), .val (.int p2), .unset, .unset, .unset, .unset, .unset] [(.int p1)])) _
    refine X0.ldcI hx hown (mvT hZ (hw _ (List.mem_of_getElem? (i := 0) rfl))) (g := (mkF mM 1 #[.val (.int p1), .val (.int p2), .unset, .unset, .unset, .unset, .unset] [(.int p1)])) rfl (hb hby at_1) ?_
    show Steps pP.tables eE below (s₁.setTop (mkF mM 3 #[.val (.int p1), .val (.int p2), .unset, .unset, .unset, .unset, .unset] [(.int (2147483647 : Int32)), (.int p1)])) _
    refine XS.iand X0.here hx rfl (hb hby at_3) rfl ?_
    show Steps pP.tables eE below (s₁.setTop (mkF mM 4 #[.val (.int p1), .val (.int p2), .unset, .unset, .unset, .unset, .unset] [(.int (p1 &&& (2147483647 : Int32)))])) _
    refine XS.iconst X0.here hx rfl (hb hby at_4) ?_
    show Steps pP.tables eE below (s₁.setTop (mkF mM 5 #[.val (.int p1), .val (.int p2), .unset, .unset, .unset, .unset, .unset] [(.int (3 : Int32)), (.int (p1 &&& (2147483647 : Int32)))])) _
    refine iremM X0 hx rfl (hb hby at_5) rfl (by decide) ?_
    show Steps pP.tables eE below (s₁.setTop (mkF mM 6 #[.val (.int p1), .val (.int p2), .unset, .unset, .unset, .unset, .unset] [(.int ((p1 &&& (2147483647 : Int32)) % (3 : Int32)))])) _
    rw [hi]
    show Steps pP.tables eE below (s₁.setTop (mkF mM 6 #[.val (.int p1), .val (.int p2), .unset, .unset, .unset, .unset, .unset] [(.int (1 : Int32))])) _
    refine XS.istoreN X0.here hx rfl (hb hby at_6) rfl (l' := #[.val (.int p1), .val (.int p2), .val (.int (1 : Int32)), .unset, .unset, .unset, .unset]) rfl ?_
    show Steps pP.tables eE below (s₁.setTop (mkF mM 7 #[.val (.int p1), .val (.int p2), .val (.int (1 : Int32)), .unset, .unset, .unset, .unset] [])) _
    refine XS.iloadN X0.here hx rfl (hb hby at_7) rfl ?_
    show Steps pP.tables eE below (s₁.setTop (mkF mM 8 #[.val (.int p1), .val (.int p2), .val (.int (1 : Int32)), .unset, .unset, .unset, .unset] [(.int p2)])) _
    refine X0.ldcI hx hown (mvT hZ (hw _ (List.mem_of_getElem? (i := 0) rfl))) (g := (mkF mM 8 #[.val (.int p1), .val (.int p2), .val (.int (1 : Int32)), .unset, .unset, .unset, .unset] [(.int p2)])) rfl (hb hby at_8) ?_
    show Steps pP.tables eE below (s₁.setTop (mkF mM 10 #[.val (.int p1), .val (.int p2), .val (.int (1 : Int32)), .unset, .unset, .unset, .unset] [(.int (2147483647 : Int32)), (.int p2)])) _
    refine XS.iand X0.here hx rfl (hb hby at_10) rfl ?_
    show Steps pP.tables eE below (s₁.setTop (mkF mM 11 #[.val (.int p1), .val (.int p2), .val (.int (1 : Int32)), .unset, .unset, .unset, .unset] [(.int (p2 &&& (2147483647 : Int32)))])) _
    refine XS.iconst X0.here hx rfl (hb hby at_11) ?_
    show Steps pP.tables eE below (s₁.setTop (mkF mM 12 #[.val (.int p1), .val (.int p2), .val (.int (1 : Int32)), .unset, .unset, .unset, .unset] [(.int (3 : Int32)), (.int (p2 &&& (2147483647 : Int32)))])) _
    refine iremM X0 hx rfl (hb hby at_12) rfl (by decide) ?_
    show Steps pP.tables eE below (s₁.setTop (mkF mM 13 #[.val (.int p1), .val (.int p2), .val (.int (1 : Int32)), .unset, .unset, .unset, .unset] [(.int ((p2 &&& (2147483647 : Int32)) % (3 : Int32)))])) _
    rw [hj]
    show Steps pP.tables eE below (s₁.setTop (mkF mM 13 #[.val (.int p1), .val (.int p2), .val (.int (1 : Int32)), .unset, .unset, .unset, .unset] [(.int (1 : Int32))])) _
    refine XS.istoreN X0.here hx rfl (hb hby at_13) rfl (l' := #[.val (.int p1), .val (.int p2), .val (.int (1 : Int32)), .val (.int (1 : Int32)), .unset, .unset, .unset]) rfl ?_
    show Steps pP.tables eE below (s₁.setTop (mkF mM 14 #[.val (.int p1), .val (.int p2), .val (.int (1 : Int32)), .val (.int (1 : Int32)), .unset, .unset, .unset] [])) _
    refine XS.iloadN X0.here hx rfl (hb hby at_14) rfl ?_
    show Steps pP.tables eE below (s₁.setTop (mkF mM 15 #[.val (.int p1), .val (.int p2), .val (.int (1 : Int32)), .val (.int (1 : Int32)), .unset, .unset, .unset] [(.int (1 : Int32))])) _
    refine st_1 _ ?_
    show Steps pP.tables eE below (T_1.setTop (mkF mM 18 #[.val (.int p1), .val (.int p2), .val (.int (1 : Int32)), .val (.int (1 : Int32)), .unset, .unset, .unset] [(.ref u)])) _
    refine XS.astore X_1.here hx rfl (hb hby at_18) rfl rfl (l' := #[.val (.int p1), .val (.int p2), .val (.int (1 : Int32)), .val (.int (1 : Int32)), .val (.ref u), .unset, .unset]) rfl ?_
    show Steps pP.tables eE below (T_1.setTop (mkF mM 20 #[.val (.int p1), .val (.int p2), .val (.int (1 : Int32)), .val (.int (1 : Int32)), .val (.ref u), .unset, .unset] [])) _
    refine XS.iloadN X_1.here hx rfl (hb hby at_20) rfl ?_
    show Steps pP.tables eE below (T_1.setTop (mkF mM 21 #[.val (.int p1), .val (.int p2), .val (.int (1 : Int32)), .val (.int (1 : Int32)), .val (.ref u), .unset, .unset] [(.int (1 : Int32))])) _
    refine st_2 _ ?_
    show Steps pP.tables eE below (T_2.setTop (mkF mM 24 #[.val (.int p1), .val (.int p2), .val (.int (1 : Int32)), .val (.int (1 : Int32)), .val (.ref u), .unset, .unset] [(.ref u)])) _
    refine XS.astore X_2.here hx rfl (hb hby at_24) rfl rfl (l' := #[.val (.int p1), .val (.int p2), .val (.int (1 : Int32)), .val (.int (1 : Int32)), .val (.ref u), .val (.ref u), .unset]) rfl ?_
    show Steps pP.tables eE below (T_2.setTop (mkF mM 26 #[.val (.int p1), .val (.int p2), .val (.int (1 : Int32)), .val (.int (1 : Int32)), .val (.ref u), .val (.ref u), .unset] [])) _
    refine XS.aload X_2.here hx rfl (hb hby at_26) rfl rfl ?_
    show Steps pP.tables eE below (T_2.setTop (mkF mM 28 #[.val (.int p1), .val (.int p2), .val (.int (1 : Int32)), .val (.int (1 : Int32)), .val (.ref u), .val (.ref u), .unset] [(.ref u)])) _
    refine XS.aload X_2.here hx rfl (hb hby at_28) rfl rfl ?_
    show Steps pP.tables eE below (T_2.setTop (mkF mM 30 #[.val (.int p1), .val (.int p2), .val (.int (1 : Int32)), .val (.int (1 : Int32)), .val (.ref u), .val (.ref u), .unset] [(.ref u), (.ref u)])) _
    refine st_3.trans ?_
    show Steps pP.tables eE below (T_3.setTop (mkF mM 33 #[.val (.int p1), .val (.int p2), .val (.int (1 : Int32)), .val (.int (1 : Int32)), .val (.ref u), .val (.ref u), .unset] [(.ref u)])) _
    refine XS.astore X_3.here hx rfl (hb hby at_33) rfl rfl (l' := #[.val (.int p1), .val (.int p2), .val (.int (1 : Int32)), .val (.int (1 : Int32)), .val (.ref u), .val (.ref u), .val (.ref u)]) rfl ?_
    show Steps pP.tables eE below (T_3.setTop (mkF mM 35 #[.val (.int p1), .val (.int p2), .val (.int (1 : Int32)), .val (.int (1 : Int32)), .val (.ref u), .val (.ref u), .val (.ref u)] [])) _
    refine XS.aload X_3.here hx rfl (hb hby at_35) rfl rfl ?_
    show Steps pP.tables eE below (T_3.setTop (mkF mM 37 #[.val (.int p1), .val (.int p2), .val (.int (1 : Int32)), .val (.int (1 : Int32)), .val (.ref u), .val (.ref u), .val (.ref u)] [(.ref u)])) _
    refine st_4 _ ?_
    show Steps pP.tables eE below (T_4.setTop (mkF mM 40 #[.val (.int p1), .val (.int p2), .val (.int (1 : Int32)), .val (.int (1 : Int32)), .val (.ref u), .val (.ref u), .val (.ref u)] [(.int (1 : Int32))])) _
    refine XS.iloadN X_4.here hx rfl (hb hby at_40) rfl ?_
    show Steps pP.tables eE below (T_4.setTop (mkF mM 41 #[.val (.int p1), .val (.int p2), .val (.int (1 : Int32)), .val (.int (1 : Int32)), .val (.ref u), .val (.ref u), .val (.ref u)] [(.int (1 : Int32)), (.int (1 : Int32))])) _
    refine XS.iloadN X_4.here hx rfl (hb hby at_41) rfl ?_
    show Steps pP.tables eE below (T_4.setTop (mkF mM 42 #[.val (.int p1), .val (.int p2), .val (.int (1 : Int32)), .val (.int (1 : Int32)), .val (.ref u), .val (.ref u), .val (.ref u)] [(.int (1 : Int32)), (.int (1 : Int32)), (.int (1 : Int32))])) _
    refine st_5 _ ?_
    show Steps pP.tables eE below (T_5.setTop (mkF mM 45 #[.val (.int p1), .val (.int p2), .val (.int (1 : Int32)), .val (.int (1 : Int32)), .val (.ref u), .val (.ref u), .val (.ref u)] [(.int (1 : Int32)), (.int (1 : Int32))])) _
    refine XS.icmpNo X_5.here hx rfl (hb hby at_45) rfl (by decide) ?_
    show Steps pP.tables eE below (T_5.setTop (mkF mM 48 #[.val (.int p1), .val (.int p2), .val (.int (1 : Int32)), .val (.int (1 : Int32)), .val (.ref u), .val (.ref u), .val (.ref u)] [])) _
    refine XS.iconst X_5.here hx rfl (hb hby at_48) ?_
    show Steps pP.tables eE below (T_5.setTop (mkF mM 49 #[.val (.int p1), .val (.int p2), .val (.int (1 : Int32)), .val (.int (1 : Int32)), .val (.ref u), .val (.ref u), .val (.ref u)] [(.int (1 : Int32))])) _
    refine XS.goto X_5.here hx rfl (pc0 := 49) (pc' := 53) rfl (hb hby at_49) (by decide) (by decide) ?_
    show Steps pP.tables eE below (T_5.setTop (mkF mM 53 #[.val (.int p1), .val (.int p2), .val (.int (1 : Int32)), .val (.int (1 : Int32)), .val (.ref u), .val (.ref u), .val (.ref u)] [(.int (1 : Int32))])) _
    exact retN X_5 hx (t := .boolean) Bd.returns (by simp) (hb hby at_53) hr
  · show Q_law11 Z p1 p2 f u t h0 n0 _ T_5.heap _
    exact ⟨rfl, N_5⟩
theorem ef_law12 (mM : MethodId) (x0 : Int32) (x1 : Int32) : entryFrame mM #[(.int x0), (.int x1)] maxLocals = mkF mM 0 #[.val (.int x0), .val (.int x1), .unset, .unset, .unset, .unset, .unset] [] := by first | (simp [entryFrame, mkF, argsToLocals, Value.category, maxLocals]; done) | rfl
def Q_law12 (Z : State) (p1 : Int32) (p2 : Int32) (f : Addr) (u : Addr) (t : Addr) (h0 : Heap) (n0 : Nat) (v_ : Option Value) (h_ : Heap) (L_ : List Loc) : Prop := v_ = some (.int (1 : Int32)) ∧ Fr n0 L_
set_option maxRecDepth 65536 in
set_option maxHeartbeats 40000000 in
theorem rm_law12 (l : Launch) (Z : State) (a0 : Array Value) (hw : ∀ d ∈ tables_1, d.before a0 Z = true) (ws : List Jvm.Cond) (p1 : Int32) (p2 : Int32) (f : Addr) (u : Addr) (t : Addr) (h0 : Heap) (n0 : Nat) (Z0 : n0 ≤ h0.size) (hi : ((p1 &&& (2147483647 : Int32)) % (3 : Int32)) = (1 : Int32)) (hj : ((p2 &&& (2147483647 : Int32)) % (3 : Int32)) = (2 : Int32)) (S_Truth_FALSE : Sta Z h0 "com/example/querent/querent/engine/Truth" "FALSE" "Lcom/example/querent/querent/engine/Truth;" (.ref f)) (S_Truth_UNKNOWN : Sta Z h0 "com/example/querent/querent/engine/Truth" "UNKNOWN" "Lcom/example/querent/querent/engine/Truth;" (.ref u)) (S_Truth_TRUE : Sta Z h0 "com/example/querent/querent/engine/Truth" "TRUE" "Lcom/example/querent/querent/engine/Truth;" (.ref t)) (nfu : f ≠ u) (nft : f ≠ t) (nut : u ≠ t) (E_f : Exa Z h0 f "com/example/querent/querent/engine/Truth") (E_u : Exa Z h0 u "com/example/querent/querent/engine/Truth") (E_t : Exa Z h0 t "com/example/querent/querent/engine/Truth") :
    MetFree l x (head1 (Jvm.Cond.code x code maxLocals ret :: ws) room_1) (fun aa_ U_ => aa_ = #[(.int p1), (.int p2)] ∧ Z.Warmed39 U_.vm ∧ U_.heap = h0) (fun _ _ _ _ _ => True) (fun _ U_ o_ U'_ => ∃ v_ L_, o_ = .returned v_ ∧ Q_law12 Z p1 p2 f u t h0 n0 v_ U'_.heap L_ ∧ FrameEnd U_ o_ U'_ L_ 0 0) := by
  refine MetFree.of_bodySF (plainFor_of_name pn_0) hisR ?_
  intro pP eE sS mM argsA below meth cC s₁ Bd hml0 hP hK
  obtain ⟨rfl, hZ, hh⟩ := hP
  have hx := Bd.exec
  have hby := Bd.bytes
  have hml : cC.maxLocals = 7 := hml0
  have hown : sS.vm.findClass "com/example/querent/querent/engine/TruthAndPinLaw" = some mM.cls := findClass_of_methodNamed Bd.named
  have hnm := (name_of_methodNamed Bd.named Bd.method).1
  have X0 : Stand pP l eE room_1 sS mM #[(.int p1), (.int p2)] below meth cC s₁ [] 0 0 := Stand.of_body Bd
  have e0 : s₁.heap = h0 := by rw [← hh, Bd.state]; rfl
  have N0 := Fr.nil n0
  have pre0 : ∀ t_, Steps pP.tables eE below (s₁.setTop (mkF mM 0 #[.val (.int p1), .val (.int p2), .unset, .unset, .unset, .unset, .unset] [])) t_ → Steps pP.tables eE below (s₁.setTop (entryFrame mM #[(.int p1), (.int p2)] maxLocals)) t_ := fun t_ k_ => castTop (ef_law12 mM p1 p2) k_
  obtain ⟨_, _, ⟨T_1, L_1, k_1, n_1⟩, -, X_1, ⟨Lc_1, hQ_1, l_1, y_1, z_1⟩, st_1⟩ := Jvm.LawKit.callS X0 hx (y := (⟨"com/example/querent/querent/engine/TruthAndPinLaw", "pick", "(I)Lcom/example/querent/querent/engine/Truth;"⟩ : MethodName)) hown (mvT hZ (hw _ (List.mem_of_getElem? (i := 1) rfl))) (mvT hZ (hw _ (List.mem_of_getElem? (i := 2) rfl))) (mvT hZ (hw _ (List.mem_of_getElem? (i := 3) rfl))) (mvT hZ (hw _ (List.mem_of_getElem? (i := 4) rfl))) (by decide) (backOf (W := 0) (rm_pick1 l Z a0 hw [] u h0 n0 Z0 S_Truth_UNKNOWN) hZ (hw _ (List.mem_of_getElem? (i := 4) rfl)) (hw _ (List.mem_of_getElem? (i := 3) rfl)) (by decide) (by decide)) (g := (mkF mM 15 #[.val (.int p1), .val (.int p2), .val (.int (1 : Int32)), .val (.int (2 : Int32)), .unset, .unset, .unset] [(.int (1 : Int32))])) rfl (by rw [hml]; rfl) (argsL := [(.int (1 : Int32))]) (rest := []) (lenOf pd_0 rfl) rfl (by show 2 * 0 + _ ≤ _; exact Nat.le_of_eq rfl) (hb hby at_15) (fun _ _ => ⟨rfl, e0, (by decide : 0 + 0 ≤ _), (by decide : 0 + 0 ≤ _)⟩)
  dsimp only [Pt.U, Pt.locs, Pt.cells, Pt.slots] at X_1 l_1 y_1 z_1 st_1 hQ_1
  subst l_1 y_1 z_1
  obtain ⟨rfl, N_1q, eh_1⟩ := hQ_1
  have N_1 := Fr.app N0 N_1q
  obtain ⟨_, _, ⟨T_2, L_2, k_2, n_2⟩, -, X_2, ⟨Lc_2, hQ_2, l_2, y_2, z_2⟩, st_2⟩ := Jvm.LawKit.callS X_1 hx (y := (⟨"com/example/querent/querent/engine/TruthAndPinLaw", "pick", "(I)Lcom/example/querent/querent/engine/Truth;"⟩ : MethodName)) hown (mvT hZ (hw _ (List.mem_of_getElem? (i := 1) rfl))) (mvT hZ (hw _ (List.mem_of_getElem? (i := 2) rfl))) (mvT hZ (hw _ (List.mem_of_getElem? (i := 3) rfl))) (mvT hZ (hw _ (List.mem_of_getElem? (i := 4) rfl))) (by decide) (backOf (W := 0) (rm_pick2 l Z a0 hw [] t h0 n0 Z0 S_Truth_TRUE) hZ (hw _ (List.mem_of_getElem? (i := 4) rfl)) (hw _ (List.mem_of_getElem? (i := 3) rfl)) (by decide) (by decide)) (g := (mkF mM 21 #[.val (.int p1), .val (.int p2), .val (.int (1 : Int32)), .val (.int (2 : Int32)), .val (.ref u), .unset, .unset] [(.int (2 : Int32))])) rfl (by rw [hml]; rfl) (argsL := [(.int (2 : Int32))]) (rest := []) (lenOf pd_0 rfl) rfl (by show 2 * 0 + _ ≤ _; exact Nat.le_of_eq rfl) (hb hby at_21) (fun _ _ => ⟨rfl, eh_1, (by decide : 0 + 0 ≤ _), (by decide : 0 + 0 ≤ _)⟩)
  dsimp only [Pt.U, Pt.locs, Pt.cells, Pt.slots] at X_2 l_2 y_2 z_2 st_2 hQ_2
  subst l_2 y_2 z_2
  obtain ⟨rfl, N_2q, eh_2⟩ := hQ_2
  have N_2 := Fr.app N_1 N_2q
  obtain ⟨cq_3, kq_3, q_3a, q_3b, q_3c⟩ := isOf hZ eh_2 E_u
  obtain ⟨_, _, ⟨T_3, L_3, k_3, n_3⟩, -, X_3, ⟨Lc_3, hQ_3, l_3, y_3, z_3⟩, st_3⟩ := X_2.virtualBack hx (y := (⟨"com/example/querent/querent/engine/Truth", "and", "(Lcom/example/querent/querent/engine/Truth;)Lcom/example/querent/querent/engine/Truth;"⟩ : MethodName)) (z := (⟨"com/example/querent/querent/engine/Truth", "and", "(Lcom/example/querent/querent/engine/Truth;)Lcom/example/querent/querent/engine/Truth;"⟩ : MethodName)) hown (mvT hZ (hw _ (List.mem_of_getElem? (i := 8) rfl))) (mvT hZ (hw _ (List.mem_of_getElem? (i := 9) rfl))) (notFace_of_selects (args := #[]) (mvT hZ (hw _ (List.mem_of_getElem? (i := 11) rfl)))) (mvT hZ (hw _ (List.mem_of_getElem? (i := 11) rfl))) (mvT hZ (hw _ (List.mem_of_getElem? (i := 10) rfl))) (by decide) (backOf (W := 0) (rm_op12 l Z a0 hw [] f u t h0 n0 Z0 S_Truth_FALSE S_Truth_UNKNOWN S_Truth_TRUE nfu nft nut) hZ (hw _ (List.mem_of_getElem? (i := 12) rfl)) (hw _ (List.mem_of_getElem? (i := 6) rfl)) (by decide) (by decide)) q_3a q_3c (g := (mkF mM 30 #[.val (.int p1), .val (.int p2), .val (.int (1 : Int32)), .val (.int (2 : Int32)), .val (.ref u), .val (.ref t), .unset] [(.ref t), (.ref u)])) rfl (by rw [hml]; rfl) (Steps.refl _) (argsL := [(.ref t)]) (rest := []) (lenOf pd_1 rfl) rfl (by show 2 * 0 + _ ≤ _; exact Nat.le_of_eq rfl) (hb hby at_30) (fun _ _ => ⟨rfl, eh_2, (by decide : 0 + 0 ≤ _), (by decide : 0 + 0 ≤ _)⟩)
  dsimp only [Pt.U, Pt.locs, Pt.cells, Pt.slots] at X_3 l_3 y_3 z_3 st_3 hQ_3
  subst l_3 y_3 z_3
  obtain ⟨rfl, N_3q, eh_3⟩ := hQ_3
  have N_3 := Fr.app N_2 N_3q
  obtain ⟨_, _, ⟨T_4, L_4, k_4, n_4⟩, -, X_4, ⟨Lc_4, hQ_4, l_4, y_4, z_4⟩, st_4⟩ := Jvm.LawKit.callS X_3 hx (y := (⟨"com/example/querent/querent/engine/TruthAndPinLaw", "rank", "(Lcom/example/querent/querent/engine/Truth;)I"⟩ : MethodName)) hown (mvT hZ (hw _ (List.mem_of_getElem? (i := 14) rfl))) (mvT hZ (hw _ (List.mem_of_getElem? (i := 15) rfl))) (mvT hZ (hw _ (List.mem_of_getElem? (i := 3) rfl))) (mvT hZ (hw _ (List.mem_of_getElem? (i := 16) rfl))) (by decide) (backOf (W := 0) (rm_rank1 l Z a0 hw [] f u t h0 n0 Z0 S_Truth_FALSE S_Truth_UNKNOWN S_Truth_TRUE nfu nft nut) hZ (hw _ (List.mem_of_getElem? (i := 16) rfl)) (hw _ (List.mem_of_getElem? (i := 3) rfl)) (by decide) (by decide)) (g := (mkF mM 37 #[.val (.int p1), .val (.int p2), .val (.int (1 : Int32)), .val (.int (2 : Int32)), .val (.ref u), .val (.ref t), .val (.ref u)] [(.ref u)])) rfl (by rw [hml]; rfl) (argsL := [(.ref u)]) (rest := []) (lenOf pd_2 rfl) rfl (by show 2 * 0 + _ ≤ _; exact Nat.le_of_eq rfl) (hb hby at_37) (fun _ _ => ⟨rfl, eh_3, (by decide : 0 + 0 ≤ _), (by decide : 0 + 0 ≤ _)⟩)
  dsimp only [Pt.U, Pt.locs, Pt.cells, Pt.slots] at X_4 l_4 y_4 z_4 st_4 hQ_4
  subst l_4 y_4 z_4
  obtain ⟨rfl, N_4q, eh_4⟩ := hQ_4
  have N_4 := Fr.app N_3 N_4q
  obtain ⟨_, _, ⟨T_5, L_5, k_5, n_5⟩, -, X_5, ⟨Lc_5, hQ_5, l_5, y_5, z_5⟩, st_5⟩ := Jvm.LawKit.callS X_4 hx (y := (⟨"java/lang/Math", "min", "(II)I"⟩ : MethodName)) hown (mvT hZ (hw _ (List.mem_of_getElem? (i := 17) rfl))) (mvT hZ (hw _ (List.mem_of_getElem? (i := 18) rfl))) (mvT hZ (hw _ (List.mem_of_getElem? (i := 19) rfl))) (mvT hZ (hw _ (List.mem_of_getElem? (i := 20) rfl))) (by decide) (backOf (W := 1) (rm_m1 l Z a0 hw [] (1 : Int32) (2 : Int32) h0 n0 Z0 (by decide)) hZ (hw _ (List.mem_of_getElem? (i := 20) rfl)) (hw _ (List.mem_of_getElem? (i := 19) rfl)) (by decide) (by decide)) (g := (mkF mM 42 #[.val (.int p1), .val (.int p2), .val (.int (1 : Int32)), .val (.int (2 : Int32)), .val (.ref u), .val (.ref t), .val (.ref u)] [(.int (2 : Int32)), (.int (1 : Int32)), (.int (1 : Int32))])) rfl (by rw [hml]; rfl) (argsL := [(.int (1 : Int32)), (.int (2 : Int32))]) (rest := [(.int (1 : Int32))]) (lenOf pd_3 rfl) rfl (by show 2 * 0 + _ ≤ _; exact Nat.le_of_eq rfl) (hb hby at_42) (fun _ _ => ⟨rfl, eh_4, (by decide : 0 + 0 ≤ _), (by decide : 0 + 0 ≤ _)⟩)
  dsimp only [Pt.U, Pt.locs, Pt.cells, Pt.slots] at X_5 l_5 y_5 z_5 st_5 hQ_5
  subst l_5 y_5 z_5
  obtain ⟨rfl, N_5q, eh_5⟩ := hQ_5
  have N_5 := Fr.app N_4 N_5q
  obtain ⟨fs, hr, hrun, hended, hW, hsame⟩ := X_5.leave (v := some (.int (1 : Int32))) (fun h => by rw [Bd.returns] at h; cases h)
  refine ⟨_, _, pre0 _ ?_, hrun, hended, _, _, rfl, ?_, ⟨_, rfl⟩, hW, hsame.mono (by decide) (by decide)⟩
  · show Steps pP.tables eE below (s₁.setTop (mkF mM 0 #[.val (.int p1), .val (.int p2), .unset, .unset, .unset, .unset, .unset] [])) _
    refine XS.iloadN X0.here hx rfl (hb hby at_0) rfl ?_
    show Steps pP.tables eE below (s₁.setTop (mkF mM 1 #[.val (.int p1), .val (.int p2), .unset, .unset, .unset, .unset, .unset] [(.int p1)])) _
    refine X0.ldcI hx hown (mvT hZ (hw _ (List.mem_of_getElem? (i := 0) rfl))) (g := (mkF mM 1 #[.val (.int p1), .val (.int p2), .unset, .unset, .unset, .unset, .unset] [(.int p1)])) rfl (hb hby at_1) ?_
    show Steps pP.tables eE below (s₁.setTop (mkF mM 3 #[.val (.int p1), .val (.int p2), .unset, .unset, .unset, .unset, .unset] [(.int (2147483647 : Int32)), (.int p1)])) _
    refine XS.iand X0.here hx rfl (hb hby at_3) rfl ?_
    show Steps pP.tables eE below (s₁.setTop (mkF mM 4 #[.val (.int p1), .val (.int p2), .unset, .unset, .unset, .unset, .unset] [(.int (p1 &&& (2147483647 : Int32)))])) _
    refine XS.iconst X0.here hx rfl (hb hby at_4) ?_
    show Steps pP.tables eE below (s₁.setTop (mkF mM 5 #[.val (.int p1), .val (.int p2), .unset, .unset, .unset, .unset, .unset] [(.int (3 : Int32)), (.int (p1 &&& (2147483647 : Int32)))])) _
    refine iremM X0 hx rfl (hb hby at_5) rfl (by decide) ?_
    show Steps pP.tables eE below (s₁.setTop (mkF mM 6 #[.val (.int p1), .val (.int p2), .unset, .unset, .unset, .unset, .unset] [(.int ((p1 &&& (2147483647 : Int32)) % (3 : Int32)))])) _
    rw [hi]
    show Steps pP.tables eE below (s₁.setTop (mkF mM 6 #[.val (.int p1), .val (.int p2), .unset, .unset, .unset, .unset, .unset] [(.int (1 : Int32))])) _
    refine XS.istoreN X0.here hx rfl (hb hby at_6) rfl (l' := #[.val (.int p1), .val (.int p2), .val (.int (1 : Int32)), .unset, .unset, .unset, .unset]) rfl ?_
    show Steps pP.tables eE below (s₁.setTop (mkF mM 7 #[.val (.int p1), .val (.int p2), .val (.int (1 : Int32)), .unset, .unset, .unset, .unset] [])) _
    refine XS.iloadN X0.here hx rfl (hb hby at_7) rfl ?_
    show Steps pP.tables eE below (s₁.setTop (mkF mM 8 #[.val (.int p1), .val (.int p2), .val (.int (1 : Int32)), .unset, .unset, .unset, .unset] [(.int p2)])) _
    refine X0.ldcI hx hown (mvT hZ (hw _ (List.mem_of_getElem? (i := 0) rfl))) (g := (mkF mM 8 #[.val (.int p1), .val (.int p2), .val (.int (1 : Int32)), .unset, .unset, .unset, .unset] [(.int p2)])) rfl (hb hby at_8) ?_
    show Steps pP.tables eE below (s₁.setTop (mkF mM 10 #[.val (.int p1), .val (.int p2), .val (.int (1 : Int32)), .unset, .unset, .unset, .unset] [(.int (2147483647 : Int32)), (.int p2)])) _
    refine XS.iand X0.here hx rfl (hb hby at_10) rfl ?_
    show Steps pP.tables eE below (s₁.setTop (mkF mM 11 #[.val (.int p1), .val (.int p2), .val (.int (1 : Int32)), .unset, .unset, .unset, .unset] [(.int (p2 &&& (2147483647 : Int32)))])) _
    refine XS.iconst X0.here hx rfl (hb hby at_11) ?_
    show Steps pP.tables eE below (s₁.setTop (mkF mM 12 #[.val (.int p1), .val (.int p2), .val (.int (1 : Int32)), .unset, .unset, .unset, .unset] [(.int (3 : Int32)), (.int (p2 &&& (2147483647 : Int32)))])) _
    refine iremM X0 hx rfl (hb hby at_12) rfl (by decide) ?_
    show Steps pP.tables eE below (s₁.setTop (mkF mM 13 #[.val (.int p1), .val (.int p2), .val (.int (1 : Int32)), .unset, .unset, .unset, .unset] [(.int ((p2 &&& (2147483647 : Int32)) % (3 : Int32)))])) _
    rw [hj]
    show Steps pP.tables eE below (s₁.setTop (mkF mM 13 #[.val (.int p1), .val (.int p2), .val (.int (1 : Int32)), .unset, .unset, .unset, .unset] [(.int (2 : Int32))])) _
    refine XS.istoreN X0.here hx rfl (hb hby at_13) rfl (l' := #[.val (.int p1), .val (.int p2), .val (.int (1 : Int32)), .val (.int (2 : Int32)), .unset, .unset, .unset]) rfl ?_
    show Steps pP.tables eE below (s₁.setTop (mkF mM 14 #[.val (.int p1), .val (.int p2), .val (.int (1 : Int32)), .val (.int (2 : Int32)), .unset, .unset, .unset] [])) _
    refine XS.iloadN X0.here hx rfl (hb hby at_14) rfl ?_
    show Steps pP.tables eE below (s₁.setTop (mkF mM 15 #[.val (.int p1), .val (.int p2), .val (.int (1 : Int32)), .val (.int (2 : Int32)), .unset, .unset, .unset] [(.int (1 : Int32))])) _
    refine st_1 _ ?_
    show Steps pP.tables eE below (T_1.setTop (mkF mM 18 #[.val (.int p1), .val (.int p2), .val (.int (1 : Int32)), .val (.int (2 : Int32)), .unset, .unset, .unset] [(.ref u)])) _
    refine XS.astore X_1.here hx rfl (hb hby at_18) rfl rfl (l' := #[.val (.int p1), .val (.int p2), .val (.int (1 : Int32)), .val (.int (2 : Int32)), .val (.ref u), .unset, .unset]) rfl ?_
    show Steps pP.tables eE below (T_1.setTop (mkF mM 20 #[.val (.int p1), .val (.int p2), .val (.int (1 : Int32)), .val (.int (2 : Int32)), .val (.ref u), .unset, .unset] [])) _
    refine XS.iloadN X_1.here hx rfl (hb hby at_20) rfl ?_
    show Steps pP.tables eE below (T_1.setTop (mkF mM 21 #[.val (.int p1), .val (.int p2), .val (.int (1 : Int32)), .val (.int (2 : Int32)), .val (.ref u), .unset, .unset] [(.int (2 : Int32))])) _
    refine st_2 _ ?_
    show Steps pP.tables eE below (T_2.setTop (mkF mM 24 #[.val (.int p1), .val (.int p2), .val (.int (1 : Int32)), .val (.int (2 : Int32)), .val (.ref u), .unset, .unset] [(.ref t)])) _
    refine XS.astore X_2.here hx rfl (hb hby at_24) rfl rfl (l' := #[.val (.int p1), .val (.int p2), .val (.int (1 : Int32)), .val (.int (2 : Int32)), .val (.ref u), .val (.ref t), .unset]) rfl ?_
    show Steps pP.tables eE below (T_2.setTop (mkF mM 26 #[.val (.int p1), .val (.int p2), .val (.int (1 : Int32)), .val (.int (2 : Int32)), .val (.ref u), .val (.ref t), .unset] [])) _
    refine XS.aload X_2.here hx rfl (hb hby at_26) rfl rfl ?_
    show Steps pP.tables eE below (T_2.setTop (mkF mM 28 #[.val (.int p1), .val (.int p2), .val (.int (1 : Int32)), .val (.int (2 : Int32)), .val (.ref u), .val (.ref t), .unset] [(.ref u)])) _
    refine XS.aload X_2.here hx rfl (hb hby at_28) rfl rfl ?_
    show Steps pP.tables eE below (T_2.setTop (mkF mM 30 #[.val (.int p1), .val (.int p2), .val (.int (1 : Int32)), .val (.int (2 : Int32)), .val (.ref u), .val (.ref t), .unset] [(.ref t), (.ref u)])) _
    refine st_3.trans ?_
    show Steps pP.tables eE below (T_3.setTop (mkF mM 33 #[.val (.int p1), .val (.int p2), .val (.int (1 : Int32)), .val (.int (2 : Int32)), .val (.ref u), .val (.ref t), .unset] [(.ref u)])) _
    refine XS.astore X_3.here hx rfl (hb hby at_33) rfl rfl (l' := #[.val (.int p1), .val (.int p2), .val (.int (1 : Int32)), .val (.int (2 : Int32)), .val (.ref u), .val (.ref t), .val (.ref u)]) rfl ?_
    show Steps pP.tables eE below (T_3.setTop (mkF mM 35 #[.val (.int p1), .val (.int p2), .val (.int (1 : Int32)), .val (.int (2 : Int32)), .val (.ref u), .val (.ref t), .val (.ref u)] [])) _
    refine XS.aload X_3.here hx rfl (hb hby at_35) rfl rfl ?_
    show Steps pP.tables eE below (T_3.setTop (mkF mM 37 #[.val (.int p1), .val (.int p2), .val (.int (1 : Int32)), .val (.int (2 : Int32)), .val (.ref u), .val (.ref t), .val (.ref u)] [(.ref u)])) _
    refine st_4 _ ?_
    show Steps pP.tables eE below (T_4.setTop (mkF mM 40 #[.val (.int p1), .val (.int p2), .val (.int (1 : Int32)), .val (.int (2 : Int32)), .val (.ref u), .val (.ref t), .val (.ref u)] [(.int (1 : Int32))])) _
    refine XS.iloadN X_4.here hx rfl (hb hby at_40) rfl ?_
    show Steps pP.tables eE below (T_4.setTop (mkF mM 41 #[.val (.int p1), .val (.int p2), .val (.int (1 : Int32)), .val (.int (2 : Int32)), .val (.ref u), .val (.ref t), .val (.ref u)] [(.int (1 : Int32)), (.int (1 : Int32))])) _
    refine XS.iloadN X_4.here hx rfl (hb hby at_41) rfl ?_
    show Steps pP.tables eE below (T_4.setTop (mkF mM 42 #[.val (.int p1), .val (.int p2), .val (.int (1 : Int32)), .val (.int (2 : Int32)), .val (.ref u), .val (.ref t), .val (.ref u)] [(.int (2 : Int32)), (.int (1 : Int32)), (.int (1 : Int32))])) _
    refine st_5 _ ?_
    show Steps pP.tables eE below (T_5.setTop (mkF mM 45 #[.val (.int p1), .val (.int p2), .val (.int (1 : Int32)), .val (.int (2 : Int32)), .val (.ref u), .val (.ref t), .val (.ref u)] [(.int (1 : Int32)), (.int (1 : Int32))])) _
    refine XS.icmpNo X_5.here hx rfl (hb hby at_45) rfl (by decide) ?_
    show Steps pP.tables eE below (T_5.setTop (mkF mM 48 #[.val (.int p1), .val (.int p2), .val (.int (1 : Int32)), .val (.int (2 : Int32)), .val (.ref u), .val (.ref t), .val (.ref u)] [])) _
    refine XS.iconst X_5.here hx rfl (hb hby at_48) ?_
    show Steps pP.tables eE below (T_5.setTop (mkF mM 49 #[.val (.int p1), .val (.int p2), .val (.int (1 : Int32)), .val (.int (2 : Int32)), .val (.ref u), .val (.ref t), .val (.ref u)] [(.int (1 : Int32))])) _
    refine XS.goto X_5.here hx rfl (pc0 := 49) (pc' := 53) rfl (hb hby at_49) (by decide) (by decide) ?_
    show Steps pP.tables eE below (T_5.setTop (mkF mM 53 #[.val (.int p1), .val (.int p2), .val (.int (1 : Int32)), .val (.int (2 : Int32)), .val (.ref u), .val (.ref t), .val (.ref u)] [(.int (1 : Int32))])) _
    exact retN X_5 hx (t := .boolean) Bd.returns (by simp) (hb hby at_53) hr
  · show Q_law12 Z p1 p2 f u t h0 n0 _ T_5.heap _
    exact ⟨rfl, N_5⟩
theorem ef_law20 (mM : MethodId) (x0 : Int32) (x1 : Int32) : entryFrame mM #[(.int x0), (.int x1)] maxLocals = mkF mM 0 #[.val (.int x0), .val (.int x1), .unset, .unset, .unset, .unset, .unset] [] := by first | (simp [entryFrame, mkF, argsToLocals, Value.category, maxLocals]; done) | rfl
def Q_law20 (Z : State) (p1 : Int32) (p2 : Int32) (f : Addr) (u : Addr) (t : Addr) (h0 : Heap) (n0 : Nat) (v_ : Option Value) (h_ : Heap) (L_ : List Loc) : Prop := v_ = some (.int (1 : Int32)) ∧ Fr n0 L_
set_option maxRecDepth 65536 in
set_option maxHeartbeats 40000000 in
theorem rm_law20 (l : Launch) (Z : State) (a0 : Array Value) (hw : ∀ d ∈ tables_1, d.before a0 Z = true) (ws : List Jvm.Cond) (p1 : Int32) (p2 : Int32) (f : Addr) (u : Addr) (t : Addr) (h0 : Heap) (n0 : Nat) (Z0 : n0 ≤ h0.size) (hi : ((p1 &&& (2147483647 : Int32)) % (3 : Int32)) = (2 : Int32)) (hj : ((p2 &&& (2147483647 : Int32)) % (3 : Int32)) = (0 : Int32)) (S_Truth_FALSE : Sta Z h0 "com/example/querent/querent/engine/Truth" "FALSE" "Lcom/example/querent/querent/engine/Truth;" (.ref f)) (S_Truth_UNKNOWN : Sta Z h0 "com/example/querent/querent/engine/Truth" "UNKNOWN" "Lcom/example/querent/querent/engine/Truth;" (.ref u)) (S_Truth_TRUE : Sta Z h0 "com/example/querent/querent/engine/Truth" "TRUE" "Lcom/example/querent/querent/engine/Truth;" (.ref t)) (nfu : f ≠ u) (nft : f ≠ t) (nut : u ≠ t) (E_f : Exa Z h0 f "com/example/querent/querent/engine/Truth") (E_u : Exa Z h0 u "com/example/querent/querent/engine/Truth") (E_t : Exa Z h0 t "com/example/querent/querent/engine/Truth") :
    MetFree l x (head1 (Jvm.Cond.code x code maxLocals ret :: ws) room_1) (fun aa_ U_ => aa_ = #[(.int p1), (.int p2)] ∧ Z.Warmed39 U_.vm ∧ U_.heap = h0) (fun _ _ _ _ _ => True) (fun _ U_ o_ U'_ => ∃ v_ L_, o_ = .returned v_ ∧ Q_law20 Z p1 p2 f u t h0 n0 v_ U'_.heap L_ ∧ FrameEnd U_ o_ U'_ L_ 0 0) := by
  refine MetFree.of_bodySF (plainFor_of_name pn_0) hisR ?_
  intro pP eE sS mM argsA below meth cC s₁ Bd hml0 hP hK
  obtain ⟨rfl, hZ, hh⟩ := hP
  have hx := Bd.exec
  have hby := Bd.bytes
  have hml : cC.maxLocals = 7 := hml0
  have hown : sS.vm.findClass "com/example/querent/querent/engine/TruthAndPinLaw" = some mM.cls := findClass_of_methodNamed Bd.named
  have hnm := (name_of_methodNamed Bd.named Bd.method).1
  have X0 : Stand pP l eE room_1 sS mM #[(.int p1), (.int p2)] below meth cC s₁ [] 0 0 := Stand.of_body Bd
  have e0 : s₁.heap = h0 := by rw [← hh, Bd.state]; rfl
  have N0 := Fr.nil n0
  have pre0 : ∀ t_, Steps pP.tables eE below (s₁.setTop (mkF mM 0 #[.val (.int p1), .val (.int p2), .unset, .unset, .unset, .unset, .unset] [])) t_ → Steps pP.tables eE below (s₁.setTop (entryFrame mM #[(.int p1), (.int p2)] maxLocals)) t_ := fun t_ k_ => castTop (ef_law20 mM p1 p2) k_
  obtain ⟨_, _, ⟨T_1, L_1, k_1, n_1⟩, -, X_1, ⟨Lc_1, hQ_1, l_1, y_1, z_1⟩, st_1⟩ := Jvm.LawKit.callS X0 hx (y := (⟨"com/example/querent/querent/engine/TruthAndPinLaw", "pick", "(I)Lcom/example/querent/querent/engine/Truth;"⟩ : MethodName)) hown (mvT hZ (hw _ (List.mem_of_getElem? (i := 1) rfl))) (mvT hZ (hw _ (List.mem_of_getElem? (i := 2) rfl))) (mvT hZ (hw _ (List.mem_of_getElem? (i := 3) rfl))) (mvT hZ (hw _ (List.mem_of_getElem? (i := 4) rfl))) (by decide) (backOf (W := 0) (rm_pick2 l Z a0 hw [] t h0 n0 Z0 S_Truth_TRUE) hZ (hw _ (List.mem_of_getElem? (i := 4) rfl)) (hw _ (List.mem_of_getElem? (i := 3) rfl)) (by decide) (by decide)) (g := (mkF mM 15 #[.val (.int p1), .val (.int p2), .val (.int (2 : Int32)), .val (.int (0 : Int32)), .unset, .unset, .unset] [(.int (2 : Int32))])) rfl (by rw [hml]; rfl) (argsL := [(.int (2 : Int32))]) (rest := []) (lenOf pd_0 rfl) rfl (by show 2 * 0 + _ ≤ _; exact Nat.le_of_eq rfl) (hb hby at_15) (fun _ _ => ⟨rfl, e0, (by decide : 0 + 0 ≤ _), (by decide : 0 + 0 ≤ _)⟩)
  dsimp only [Pt.U, Pt.locs, Pt.cells, Pt.slots] at X_1 l_1 y_1 z_1 st_1 hQ_1
  subst l_1 y_1 z_1
  obtain ⟨rfl, N_1q, eh_1⟩ := hQ_1
  have N_1 := Fr.app N0 N_1q
  obtain ⟨_, _, ⟨T_2, L_2, k_2, n_2⟩, -, X_2, ⟨Lc_2, hQ_2, l_2, y_2, z_2⟩, st_2⟩ := Jvm.LawKit.callS X_1 hx (y := (⟨"com/example/querent/querent/engine/TruthAndPinLaw", "pick", "(I)Lcom/example/querent/querent/engine/Truth;"⟩ : MethodName)) hown (mvT hZ (hw _ (List.mem_of_getElem? (i := 1) rfl))) (mvT hZ (hw _ (List.mem_of_getElem? (i := 2) rfl))) (mvT hZ (hw _ (List.mem_of_getElem? (i := 3) rfl))) (mvT hZ (hw _ (List.mem_of_getElem? (i := 4) rfl))) (by decide) (backOf (W := 0) (rm_pick0 l Z a0 hw [] f h0 n0 Z0 S_Truth_FALSE) hZ (hw _ (List.mem_of_getElem? (i := 4) rfl)) (hw _ (List.mem_of_getElem? (i := 3) rfl)) (by decide) (by decide)) (g := (mkF mM 21 #[.val (.int p1), .val (.int p2), .val (.int (2 : Int32)), .val (.int (0 : Int32)), .val (.ref t), .unset, .unset] [(.int (0 : Int32))])) rfl (by rw [hml]; rfl) (argsL := [(.int (0 : Int32))]) (rest := []) (lenOf pd_0 rfl) rfl (by show 2 * 0 + _ ≤ _; exact Nat.le_of_eq rfl) (hb hby at_21) (fun _ _ => ⟨rfl, eh_1, (by decide : 0 + 0 ≤ _), (by decide : 0 + 0 ≤ _)⟩)
  dsimp only [Pt.U, Pt.locs, Pt.cells, Pt.slots] at X_2 l_2 y_2 z_2 st_2 hQ_2
  subst l_2 y_2 z_2
  obtain ⟨rfl, N_2q, eh_2⟩ := hQ_2
  have N_2 := Fr.app N_1 N_2q
  obtain ⟨cq_3, kq_3, q_3a, q_3b, q_3c⟩ := isOf hZ eh_2 E_t
  obtain ⟨_, _, ⟨T_3, L_3, k_3, n_3⟩, -, X_3, ⟨Lc_3, hQ_3, l_3, y_3, z_3⟩, st_3⟩ := X_2.virtualBack hx (y := (⟨"com/example/querent/querent/engine/Truth", "and", "(Lcom/example/querent/querent/engine/Truth;)Lcom/example/querent/querent/engine/Truth;"⟩ : MethodName)) (z := (⟨"com/example/querent/querent/engine/Truth", "and", "(Lcom/example/querent/querent/engine/Truth;)Lcom/example/querent/querent/engine/Truth;"⟩ : MethodName)) hown (mvT hZ (hw _ (List.mem_of_getElem? (i := 8) rfl))) (mvT hZ (hw _ (List.mem_of_getElem? (i := 9) rfl))) (notFace_of_selects (args := #[]) (mvT hZ (hw _ (List.mem_of_getElem? (i := 11) rfl)))) (mvT hZ (hw _ (List.mem_of_getElem? (i := 11) rfl))) (mvT hZ (hw _ (List.mem_of_getElem? (i := 10) rfl))) (by decide) (backOf (W := 0) (rm_op20 l Z a0 hw [] f u t h0 n0 Z0 S_Truth_FALSE S_Truth_UNKNOWN S_Truth_TRUE nfu nft nut) hZ (hw _ (List.mem_of_getElem? (i := 12) rfl)) (hw _ (List.mem_of_getElem? (i := 6) rfl)) (by decide) (by decide)) q_3a q_3c (g := (mkF mM 30 #[.val (.int p1), .val (.int p2), .val (.int (2 : Int32)), .val (.int (0 : Int32)), .val (.ref t), .val (.ref f), .unset] [(.ref f), (.ref t)])) rfl (by rw [hml]; rfl) (Steps.refl _) (argsL := [(.ref f)]) (rest := []) (lenOf pd_1 rfl) rfl (by show 2 * 0 + _ ≤ _; exact Nat.le_of_eq rfl) (hb hby at_30) (fun _ _ => ⟨rfl, eh_2, (by decide : 0 + 0 ≤ _), (by decide : 0 + 0 ≤ _)⟩)
  dsimp only [Pt.U, Pt.locs, Pt.cells, Pt.slots] at X_3 l_3 y_3 z_3 st_3 hQ_3
  subst l_3 y_3 z_3
  obtain ⟨rfl, N_3q, eh_3⟩ := hQ_3
  have N_3 := Fr.app N_2 N_3q
  obtain ⟨_, _, ⟨T_4, L_4, k_4, n_4⟩, -, X_4, ⟨Lc_4, hQ_4, l_4, y_4, z_4⟩, st_4⟩ := Jvm.LawKit.callS X_3 hx (y := (⟨"com/example/querent/querent/engine/TruthAndPinLaw", "rank", "(Lcom/example/querent/querent/engine/Truth;)I"⟩ : MethodName)) hown (mvT hZ (hw _ (List.mem_of_getElem? (i := 14) rfl))) (mvT hZ (hw _ (List.mem_of_getElem? (i := 15) rfl))) (mvT hZ (hw _ (List.mem_of_getElem? (i := 3) rfl))) (mvT hZ (hw _ (List.mem_of_getElem? (i := 16) rfl))) (by decide) (backOf (W := 0) (rm_rank0 l Z a0 hw [] f u t h0 n0 Z0 S_Truth_FALSE S_Truth_UNKNOWN S_Truth_TRUE nfu nft nut) hZ (hw _ (List.mem_of_getElem? (i := 16) rfl)) (hw _ (List.mem_of_getElem? (i := 3) rfl)) (by decide) (by decide)) (g := (mkF mM 37 #[.val (.int p1), .val (.int p2), .val (.int (2 : Int32)), .val (.int (0 : Int32)), .val (.ref t), .val (.ref f), .val (.ref f)] [(.ref f)])) rfl (by rw [hml]; rfl) (argsL := [(.ref f)]) (rest := []) (lenOf pd_2 rfl) rfl (by show 2 * 0 + _ ≤ _; exact Nat.le_of_eq rfl) (hb hby at_37) (fun _ _ => ⟨rfl, eh_3, (by decide : 0 + 0 ≤ _), (by decide : 0 + 0 ≤ _)⟩)
  dsimp only [Pt.U, Pt.locs, Pt.cells, Pt.slots] at X_4 l_4 y_4 z_4 st_4 hQ_4
  subst l_4 y_4 z_4
  obtain ⟨rfl, N_4q, eh_4⟩ := hQ_4
  have N_4 := Fr.app N_3 N_4q
  obtain ⟨_, _, ⟨T_5, L_5, k_5, n_5⟩, -, X_5, ⟨Lc_5, hQ_5, l_5, y_5, z_5⟩, st_5⟩ := Jvm.LawKit.callS X_4 hx (y := (⟨"java/lang/Math", "min", "(II)I"⟩ : MethodName)) hown (mvT hZ (hw _ (List.mem_of_getElem? (i := 17) rfl))) (mvT hZ (hw _ (List.mem_of_getElem? (i := 18) rfl))) (mvT hZ (hw _ (List.mem_of_getElem? (i := 19) rfl))) (mvT hZ (hw _ (List.mem_of_getElem? (i := 20) rfl))) (by decide) (backOf (W := 1) (rm_m0 l Z a0 hw [] (2 : Int32) (0 : Int32) h0 n0 Z0 (by decide)) hZ (hw _ (List.mem_of_getElem? (i := 20) rfl)) (hw _ (List.mem_of_getElem? (i := 19) rfl)) (by decide) (by decide)) (g := (mkF mM 42 #[.val (.int p1), .val (.int p2), .val (.int (2 : Int32)), .val (.int (0 : Int32)), .val (.ref t), .val (.ref f), .val (.ref f)] [(.int (0 : Int32)), (.int (2 : Int32)), (.int (0 : Int32))])) rfl (by rw [hml]; rfl) (argsL := [(.int (2 : Int32)), (.int (0 : Int32))]) (rest := [(.int (0 : Int32))]) (lenOf pd_3 rfl) rfl (by show 2 * 0 + _ ≤ _; exact Nat.le_of_eq rfl) (hb hby at_42) (fun _ _ => ⟨rfl, eh_4, (by decide : 0 + 0 ≤ _), (by decide : 0 + 0 ≤ _)⟩)
  dsimp only [Pt.U, Pt.locs, Pt.cells, Pt.slots] at X_5 l_5 y_5 z_5 st_5 hQ_5
  subst l_5 y_5 z_5
  obtain ⟨rfl, N_5q, eh_5⟩ := hQ_5
  have N_5 := Fr.app N_4 N_5q
  obtain ⟨fs, hr, hrun, hended, hW, hsame⟩ := X_5.leave (v := some (.int (1 : Int32))) (fun h => by rw [Bd.returns] at h; cases h)
  refine ⟨_, _, pre0 _ ?_, hrun, hended, _, _, rfl, ?_, ⟨_, rfl⟩, hW, hsame.mono (by decide) (by decide)⟩
  · show Steps pP.tables eE below (s₁.setTop (mkF mM 0 #[.val (.int p1), .val (.int p2), .unset, .unset, .unset, .unset, .unset] [])) _
    refine XS.iloadN X0.here hx rfl (hb hby at_0) rfl ?_
    show Steps pP.tables eE below (s₁.setTop (mkF mM 1 #[.val (.int p1), .val (.int p2), .unset, .unset, .unset, .unset, .unset] [(.int p1)])) _
    refine X0.ldcI hx hown (mvT hZ (hw _ (List.mem_of_getElem? (i := 0) rfl))) (g := (mkF mM 1 #[.val (.int p1), .val (.int p2), .unset, .unset, .unset, .unset, .unset] [(.int p1)])) rfl (hb hby at_1) ?_
    show Steps pP.tables eE below (s₁.setTop (mkF mM 3 #[.val (.int p1), .val (.int p2), .unset, .unset, .unset, .unset, .unset] [(.int (2147483647 : Int32)), (.int p1)])) _
    refine XS.iand X0.here hx rfl (hb hby at_3) rfl ?_
    show Steps pP.tables eE below (s₁.setTop (mkF mM 4 #[.val (.int p1), .val (.int p2), .unset, .unset, .unset, .unset, .unset] [(.int (p1 &&& (2147483647 : Int32)))])) _
    refine XS.iconst X0.here hx rfl (hb hby at_4) ?_
    show Steps pP.tables eE below (s₁.setTop (mkF mM 5 #[.val (.int p1), .val (.int p2), .unset, .unset, .unset, .unset, .unset] [(.int (3 : Int32)), (.int (p1 &&& (2147483647 : Int32)))])) _
    refine iremM X0 hx rfl (hb hby at_5) rfl (by decide) ?_
    show Steps pP.tables eE below (s₁.setTop (mkF mM 6 #[.val (.int p1), .val (.int p2), .unset, .unset, .unset, .unset, .unset] [(.int ((p1 &&& (2147483647 : Int32)) % (3 : Int32)))])) _
    rw [hi]
    show Steps pP.tables eE below (s₁.setTop (mkF mM 6 #[.val (.int p1), .val (.int p2), .unset, .unset, .unset, .unset, .unset] [(.int (2 : Int32))])) _
    refine XS.istoreN X0.here hx rfl (hb hby at_6) rfl (l' := #[.val (.int p1), .val (.int p2), .val (.int (2 : Int32)), .unset, .unset, .unset, .unset]) rfl ?_
    show Steps pP.tables eE below (s₁.setTop (mkF mM 7 #[.val (.int p1), .val (.int p2), .val (.int (2 : Int32)), .unset, .unset, .unset, .unset] [])) _
    refine XS.iloadN X0.here hx rfl (hb hby at_7) rfl ?_
    show Steps pP.tables eE below (s₁.setTop (mkF mM 8 #[.val (.int p1), .val (.int p2), .val (.int (2 : Int32)), .unset, .unset, .unset, .unset] [(.int p2)])) _
    refine X0.ldcI hx hown (mvT hZ (hw _ (List.mem_of_getElem? (i := 0) rfl))) (g := (mkF mM 8 #[.val (.int p1), .val (.int p2), .val (.int (2 : Int32)), .unset, .unset, .unset, .unset] [(.int p2)])) rfl (hb hby at_8) ?_
    show Steps pP.tables eE below (s₁.setTop (mkF mM 10 #[.val (.int p1), .val (.int p2), .val (.int (2 : Int32)), .unset, .unset, .unset, .unset] [(.int (2147483647 : Int32)), (.int p2)])) _
    refine XS.iand X0.here hx rfl (hb hby at_10) rfl ?_
    show Steps pP.tables eE below (s₁.setTop (mkF mM 11 #[.val (.int p1), .val (.int p2), .val (.int (2 : Int32)), .unset, .unset, .unset, .unset] [(.int (p2 &&& (2147483647 : Int32)))])) _
    refine XS.iconst X0.here hx rfl (hb hby at_11) ?_
    show Steps pP.tables eE below (s₁.setTop (mkF mM 12 #[.val (.int p1), .val (.int p2), .val (.int (2 : Int32)), .unset, .unset, .unset, .unset] [(.int (3 : Int32)), (.int (p2 &&& (2147483647 : Int32)))])) _
    refine iremM X0 hx rfl (hb hby at_12) rfl (by decide) ?_
    show Steps pP.tables eE below (s₁.setTop (mkF mM 13 #[.val (.int p1), .val (.int p2), .val (.int (2 : Int32)), .unset, .unset, .unset, .unset] [(.int ((p2 &&& (2147483647 : Int32)) % (3 : Int32)))])) _
    rw [hj]
    show Steps pP.tables eE below (s₁.setTop (mkF mM 13 #[.val (.int p1), .val (.int p2), .val (.int (2 : Int32)), .unset, .unset, .unset, .unset] [(.int (0 : Int32))])) _
    refine XS.istoreN X0.here hx rfl (hb hby at_13) rfl (l' := #[.val (.int p1), .val (.int p2), .val (.int (2 : Int32)), .val (.int (0 : Int32)), .unset, .unset, .unset]) rfl ?_
    show Steps pP.tables eE below (s₁.setTop (mkF mM 14 #[.val (.int p1), .val (.int p2), .val (.int (2 : Int32)), .val (.int (0 : Int32)), .unset, .unset, .unset] [])) _
    refine XS.iloadN X0.here hx rfl (hb hby at_14) rfl ?_
    show Steps pP.tables eE below (s₁.setTop (mkF mM 15 #[.val (.int p1), .val (.int p2), .val (.int (2 : Int32)), .val (.int (0 : Int32)), .unset, .unset, .unset] [(.int (2 : Int32))])) _
    refine st_1 _ ?_
    show Steps pP.tables eE below (T_1.setTop (mkF mM 18 #[.val (.int p1), .val (.int p2), .val (.int (2 : Int32)), .val (.int (0 : Int32)), .unset, .unset, .unset] [(.ref t)])) _
    refine XS.astore X_1.here hx rfl (hb hby at_18) rfl rfl (l' := #[.val (.int p1), .val (.int p2), .val (.int (2 : Int32)), .val (.int (0 : Int32)), .val (.ref t), .unset, .unset]) rfl ?_
    show Steps pP.tables eE below (T_1.setTop (mkF mM 20 #[.val (.int p1), .val (.int p2), .val (.int (2 : Int32)), .val (.int (0 : Int32)), .val (.ref t), .unset, .unset] [])) _
    refine XS.iloadN X_1.here hx rfl (hb hby at_20) rfl ?_
    show Steps pP.tables eE below (T_1.setTop (mkF mM 21 #[.val (.int p1), .val (.int p2), .val (.int (2 : Int32)), .val (.int (0 : Int32)), .val (.ref t), .unset, .unset] [(.int (0 : Int32))])) _
    refine st_2 _ ?_
    show Steps pP.tables eE below (T_2.setTop (mkF mM 24 #[.val (.int p1), .val (.int p2), .val (.int (2 : Int32)), .val (.int (0 : Int32)), .val (.ref t), .unset, .unset] [(.ref f)])) _
    refine XS.astore X_2.here hx rfl (hb hby at_24) rfl rfl (l' := #[.val (.int p1), .val (.int p2), .val (.int (2 : Int32)), .val (.int (0 : Int32)), .val (.ref t), .val (.ref f), .unset]) rfl ?_
    show Steps pP.tables eE below (T_2.setTop (mkF mM 26 #[.val (.int p1), .val (.int p2), .val (.int (2 : Int32)), .val (.int (0 : Int32)), .val (.ref t), .val (.ref f), .unset] [])) _
    refine XS.aload X_2.here hx rfl (hb hby at_26) rfl rfl ?_
    show Steps pP.tables eE below (T_2.setTop (mkF mM 28 #[.val (.int p1), .val (.int p2), .val (.int (2 : Int32)), .val (.int (0 : Int32)), .val (.ref t), .val (.ref f), .unset] [(.ref t)])) _
    refine XS.aload X_2.here hx rfl (hb hby at_28) rfl rfl ?_
    show Steps pP.tables eE below (T_2.setTop (mkF mM 30 #[.val (.int p1), .val (.int p2), .val (.int (2 : Int32)), .val (.int (0 : Int32)), .val (.ref t), .val (.ref f), .unset] [(.ref f), (.ref t)])) _
    refine st_3.trans ?_
    show Steps pP.tables eE below (T_3.setTop (mkF mM 33 #[.val (.int p1), .val (.int p2), .val (.int (2 : Int32)), .val (.int (0 : Int32)), .val (.ref t), .val (.ref f), .unset] [(.ref f)])) _
    refine XS.astore X_3.here hx rfl (hb hby at_33) rfl rfl (l' := #[.val (.int p1), .val (.int p2), .val (.int (2 : Int32)), .val (.int (0 : Int32)), .val (.ref t), .val (.ref f), .val (.ref f)]) rfl ?_
    show Steps pP.tables eE below (T_3.setTop (mkF mM 35 #[.val (.int p1), .val (.int p2), .val (.int (2 : Int32)), .val (.int (0 : Int32)), .val (.ref t), .val (.ref f), .val (.ref f)] [])) _
    refine XS.aload X_3.here hx rfl (hb hby at_35) rfl rfl ?_
    show Steps pP.tables eE below (T_3.setTop (mkF mM 37 #[.val (.int p1), .val (.int p2), .val (.int (2 : Int32)), .val (.int (0 : Int32)), .val (.ref t), .val (.ref f), .val (.ref f)] [(.ref f)])) _
    refine st_4 _ ?_
    show Steps pP.tables eE below (T_4.setTop (mkF mM 40 #[.val (.int p1), .val (.int p2), .val (.int (2 : Int32)), .val (.int (0 : Int32)), .val (.ref t), .val (.ref f), .val (.ref f)] [(.int (0 : Int32))])) _
    refine XS.iloadN X_4.here hx rfl (hb hby at_40) rfl ?_
    show Steps pP.tables eE below (T_4.setTop (mkF mM 41 #[.val (.int p1), .val (.int p2), .val (.int (2 : Int32)), .val (.int (0 : Int32)), .val (.ref t), .val (.ref f), .val (.ref f)] [(.int (2 : Int32)), (.int (0 : Int32))])) _
    refine XS.iloadN X_4.here hx rfl (hb hby at_41) rfl ?_
    show Steps pP.tables eE below (T_4.setTop (mkF mM 42 #[.val (.int p1), .val (.int p2), .val (.int (2 : Int32)), .val (.int (0 : Int32)), .val (.ref t), .val (.ref f), .val (.ref f)] [(.int (0 : Int32)), (.int (2 : Int32)), (.int (0 : Int32))])) _
    refine st_5 _ ?_
    show Steps pP.tables eE below (T_5.setTop (mkF mM 45 #[.val (.int p1), .val (.int p2), .val (.int (2 : Int32)), .val (.int (0 : Int32)), .val (.ref t), .val (.ref f), .val (.ref f)] [(.int (0 : Int32)), (.int (0 : Int32))])) _
    refine XS.icmpNo X_5.here hx rfl (hb hby at_45) rfl (by decide) ?_
    show Steps pP.tables eE below (T_5.setTop (mkF mM 48 #[.val (.int p1), .val (.int p2), .val (.int (2 : Int32)), .val (.int (0 : Int32)), .val (.ref t), .val (.ref f), .val (.ref f)] [])) _
    refine XS.iconst X_5.here hx rfl (hb hby at_48) ?_
    show Steps pP.tables eE below (T_5.setTop (mkF mM 49 #[.val (.int p1), .val (.int p2), .val (.int (2 : Int32)), .val (.int (0 : Int32)), .val (.ref t), .val (.ref f), .val (.ref f)] [(.int (1 : Int32))])) _
    refine XS.goto X_5.here hx rfl (pc0 := 49) (pc' := 53) rfl (hb hby at_49) (by decide) (by decide) ?_
    show Steps pP.tables eE below (T_5.setTop (mkF mM 53 #[.val (.int p1), .val (.int p2), .val (.int (2 : Int32)), .val (.int (0 : Int32)), .val (.ref t), .val (.ref f), .val (.ref f)] [(.int (1 : Int32))])) _
    exact retN X_5 hx (t := .boolean) Bd.returns (by simp) (hb hby at_53) hr
  · show Q_law20 Z p1 p2 f u t h0 n0 _ T_5.heap _
    exact ⟨rfl, N_5⟩
theorem ef_law21 (mM : MethodId) (x0 : Int32) (x1 : Int32) : entryFrame mM #[(.int x0), (.int x1)] maxLocals = mkF mM 0 #[.val (.int x0), .val (.int x1), .unset, .unset, .unset, .unset, .unset] [] := by first | (simp [entryFrame, mkF, argsToLocals, Value.category, maxLocals]; done) | rfl
def Q_law21 (Z : State) (p1 : Int32) (p2 : Int32) (f : Addr) (u : Addr) (t : Addr) (h0 : Heap) (n0 : Nat) (v_ : Option Value) (h_ : Heap) (L_ : List Loc) : Prop := v_ = some (.int (1 : Int32)) ∧ Fr n0 L_
set_option maxRecDepth 65536 in
set_option maxHeartbeats 40000000 in
theorem rm_law21 (l : Launch) (Z : State) (a0 : Array Value) (hw : ∀ d ∈ tables_1, d.before a0 Z = true) (ws : List Jvm.Cond) (p1 : Int32) (p2 : Int32) (f : Addr) (u : Addr) (t : Addr) (h0 : Heap) (n0 : Nat) (Z0 : n0 ≤ h0.size) (hi : ((p1 &&& (2147483647 : Int32)) % (3 : Int32)) = (2 : Int32)) (hj : ((p2 &&& (2147483647 : Int32)) % (3 : Int32)) = (1 : Int32)) (S_Truth_FALSE : Sta Z h0 "com/example/querent/querent/engine/Truth" "FALSE" "Lcom/example/querent/querent/engine/Truth;" (.ref f)) (S_Truth_UNKNOWN : Sta Z h0 "com/example/querent/querent/engine/Truth" "UNKNOWN" "Lcom/example/querent/querent/engine/Truth;" (.ref u)) (S_Truth_TRUE : Sta Z h0 "com/example/querent/querent/engine/Truth" "TRUE" "Lcom/example/querent/querent/engine/Truth;" (.ref t)) (nfu : f ≠ u) (nft : f ≠ t) (nut : u ≠ t) (E_f : Exa Z h0 f "com/example/querent/querent/engine/Truth") (E_u : Exa Z h0 u "com/example/querent/querent/engine/Truth") (E_t : Exa Z h0 t "com/example/querent/querent/engine/Truth") :
    MetFree l x (head1 (Jvm.Cond.code x code maxLocals ret :: ws) room_1) (fun aa_ U_ => aa_ = #[(.int p1), (.int p2)] ∧ Z.Warmed39 U_.vm ∧ U_.heap = h0) (fun _ _ _ _ _ => True) (fun _ U_ o_ U'_ => ∃ v_ L_, o_ = .returned v_ ∧ Q_law21 Z p1 p2 f u t h0 n0 v_ U'_.heap L_ ∧ FrameEnd U_ o_ U'_ L_ 0 0) := by
  refine MetFree.of_bodySF (plainFor_of_name pn_0) hisR ?_
  intro pP eE sS mM argsA below meth cC s₁ Bd hml0 hP hK
  obtain ⟨rfl, hZ, hh⟩ := hP
  have hx := Bd.exec
  have hby := Bd.bytes
  have hml : cC.maxLocals = 7 := hml0
  have hown : sS.vm.findClass "com/example/querent/querent/engine/TruthAndPinLaw" = some mM.cls := findClass_of_methodNamed Bd.named
  have hnm := (name_of_methodNamed Bd.named Bd.method).1
  have X0 : Stand pP l eE room_1 sS mM #[(.int p1), (.int p2)] below meth cC s₁ [] 0 0 := Stand.of_body Bd
  have e0 : s₁.heap = h0 := by rw [← hh, Bd.state]; rfl
  have N0 := Fr.nil n0
  have pre0 : ∀ t_, Steps pP.tables eE below (s₁.setTop (mkF mM 0 #[.val (.int p1), .val (.int p2), .unset, .unset, .unset, .unset, .unset] [])) t_ → Steps pP.tables eE below (s₁.setTop (entryFrame mM #[(.int p1), (.int p2)] maxLocals)) t_ := fun t_ k_ => castTop (ef_law21 mM p1 p2) k_
  obtain ⟨_, _, ⟨T_1, L_1, k_1, n_1⟩, -, X_1, ⟨Lc_1, hQ_1, l_1, y_1, z_1⟩, st_1⟩ := Jvm.LawKit.callS X0 hx (y := (⟨"com/example/querent/querent/engine/TruthAndPinLaw", "pick", "(I)Lcom/example/querent/querent/engine/Truth;"⟩ : MethodName)) hown (mvT hZ (hw _ (List.mem_of_getElem? (i := 1) rfl))) (mvT hZ (hw _ (List.mem_of_getElem? (i := 2) rfl))) (mvT hZ (hw _ (List.mem_of_getElem? (i := 3) rfl))) (mvT hZ (hw _ (List.mem_of_getElem? (i := 4) rfl))) (by decide) (backOf (W := 0) (rm_pick2 l Z a0 hw [] t h0 n0 Z0 S_Truth_TRUE) hZ (hw _ (List.mem_of_getElem? (i := 4) rfl)) (hw _ (List.mem_of_getElem? (i := 3) rfl)) (by decide) (by decide)) (g := (mkF mM 15 #[.val (.int p1), .val (.int p2), .val (.int (2 : Int32)), .val (.int (1 : Int32)), .unset, .unset, .unset] [(.int (2 : Int32))])) rfl (by rw [hml]; rfl) (argsL := [(.int (2 : Int32))]) (rest := []) (lenOf pd_0 rfl) rfl (by show 2 * 0 + _ ≤ _; exact Nat.le_of_eq rfl) (hb hby at_15) (fun _ _ => ⟨rfl, e0, (by decide : 0 + 0 ≤ _), (by decide : 0 + 0 ≤ _)⟩)
  dsimp only [Pt.U, Pt.locs, Pt.cells, Pt.slots] at X_1 l_1 y_1 z_1 st_1 hQ_1
  subst l_1 y_1 z_1
  obtain ⟨rfl, N_1q, eh_1⟩ := hQ_1
  have N_1 := Fr.app N0 N_1q
  obtain ⟨_, _, ⟨T_2, L_2, k_2, n_2⟩, -, X_2, ⟨Lc_2, hQ_2, l_2, y_2, z_2⟩, st_2⟩ := Jvm.LawKit.callS X_1 hx (y := (⟨"com/example/querent/querent/engine/TruthAndPinLaw", "pick", "(I)Lcom/example/querent/querent/engine/Truth;"⟩ : MethodName)) hown (mvT hZ (hw _ (List.mem_of_getElem? (i := 1) rfl))) (mvT hZ (hw _ (List.mem_of_getElem? (i := 2) rfl))) (mvT hZ (hw _ (List.mem_of_getElem? (i := 3) rfl))) (mvT hZ (hw _ (List.mem_of_getElem? (i := 4) rfl))) (by decide) (backOf (W := 0) (rm_pick1 l Z a0 hw [] u h0 n0 Z0 S_Truth_UNKNOWN) hZ (hw _ (List.mem_of_getElem? (i := 4) rfl)) (hw _ (List.mem_of_getElem? (i := 3) rfl)) (by decide) (by decide)) (g := (mkF mM 21 #[.val (.int p1), .val (.int p2), .val (.int (2 : Int32)), .val (.int (1 : Int32)), .val (.ref t), .unset, .unset] [(.int (1 : Int32))])) rfl (by rw [hml]; rfl) (argsL := [(.int (1 : Int32))]) (rest := []) (lenOf pd_0 rfl) rfl (by show 2 * 0 + _ ≤ _; exact Nat.le_of_eq rfl) (hb hby at_21) (fun _ _ => ⟨rfl, eh_1, (by decide : 0 + 0 ≤ _), (by decide : 0 + 0 ≤ _)⟩)
  dsimp only [Pt.U, Pt.locs, Pt.cells, Pt.slots] at X_2 l_2 y_2 z_2 st_2 hQ_2
  subst l_2 y_2 z_2
  obtain ⟨rfl, N_2q, eh_2⟩ := hQ_2
  have N_2 := Fr.app N_1 N_2q
  obtain ⟨cq_3, kq_3, q_3a, q_3b, q_3c⟩ := isOf hZ eh_2 E_t
  obtain ⟨_, _, ⟨T_3, L_3, k_3, n_3⟩, -, X_3, ⟨Lc_3, hQ_3, l_3, y_3, z_3⟩, st_3⟩ := X_2.virtualBack hx (y := (⟨"com/example/querent/querent/engine/Truth", "and", "(Lcom/example/querent/querent/engine/Truth;)Lcom/example/querent/querent/engine/Truth;"⟩ : MethodName)) (z := (⟨"com/example/querent/querent/engine/Truth", "and", "(Lcom/example/querent/querent/engine/Truth;)Lcom/example/querent/querent/engine/Truth;"⟩ : MethodName)) hown (mvT hZ (hw _ (List.mem_of_getElem? (i := 8) rfl))) (mvT hZ (hw _ (List.mem_of_getElem? (i := 9) rfl))) (notFace_of_selects (args := #[]) (mvT hZ (hw _ (List.mem_of_getElem? (i := 11) rfl)))) (mvT hZ (hw _ (List.mem_of_getElem? (i := 11) rfl))) (mvT hZ (hw _ (List.mem_of_getElem? (i := 10) rfl))) (by decide) (backOf (W := 0) (rm_op21 l Z a0 hw [] f u t h0 n0 Z0 S_Truth_FALSE S_Truth_UNKNOWN S_Truth_TRUE nfu nft nut) hZ (hw _ (List.mem_of_getElem? (i := 12) rfl)) (hw _ (List.mem_of_getElem? (i := 6) rfl)) (by decide) (by decide)) q_3a q_3c (g := (mkF mM 30 #[.val (.int p1), .val (.int p2), .val (.int (2 : Int32)), .val (.int (1 : Int32)), .val (.ref t), .val (.ref u), .unset] [(.ref u), (.ref t)])) rfl (by rw [hml]; rfl) (Steps.refl _) (argsL := [(.ref u)]) (rest := []) (lenOf pd_1 rfl) rfl (by show 2 * 0 + _ ≤ _; exact Nat.le_of_eq rfl) (hb hby at_30) (fun _ _ => ⟨rfl, eh_2, (by decide : 0 + 0 ≤ _), (by decide : 0 + 0 ≤ _)⟩)
  dsimp only [Pt.U, Pt.locs, Pt.cells, Pt.slots] at X_3 l_3 y_3 z_3 st_3 hQ_3
  subst l_3 y_3 z_3
  obtain ⟨rfl, N_3q, eh_3⟩ := hQ_3
  have N_3 := Fr.app N_2 N_3q
  obtain ⟨_, _, ⟨T_4, L_4, k_4, n_4⟩, -, X_4, ⟨Lc_4, hQ_4, l_4, y_4, z_4⟩, st_4⟩ := Jvm.LawKit.callS X_3 hx (y := (⟨"com/example/querent/querent/engine/TruthAndPinLaw", "rank", "(Lcom/example/querent/querent/engine/Truth;)I"⟩ : MethodName)) hown (mvT hZ (hw _ (List.mem_of_getElem? (i := 14) rfl))) (mvT hZ (hw _ (List.mem_of_getElem? (i := 15) rfl))) (mvT hZ (hw _ (List.mem_of_getElem? (i := 3) rfl))) (mvT hZ (hw _ (List.mem_of_getElem? (i := 16) rfl))) (by decide) (backOf (W := 0) (rm_rank1 l Z a0 hw [] f u t h0 n0 Z0 S_Truth_FALSE S_Truth_UNKNOWN S_Truth_TRUE nfu nft nut) hZ (hw _ (List.mem_of_getElem? (i := 16) rfl)) (hw _ (List.mem_of_getElem? (i := 3) rfl)) (by decide) (by decide)) (g := (mkF mM 37 #[.val (.int p1), .val (.int p2), .val (.int (2 : Int32)), .val (.int (1 : Int32)), .val (.ref t), .val (.ref u), .val (.ref u)] [(.ref u)])) rfl (by rw [hml]; rfl) (argsL := [(.ref u)]) (rest := []) (lenOf pd_2 rfl) rfl (by show 2 * 0 + _ ≤ _; exact Nat.le_of_eq rfl) (hb hby at_37) (fun _ _ => ⟨rfl, eh_3, (by decide : 0 + 0 ≤ _), (by decide : 0 + 0 ≤ _)⟩)
  dsimp only [Pt.U, Pt.locs, Pt.cells, Pt.slots] at X_4 l_4 y_4 z_4 st_4 hQ_4
  subst l_4 y_4 z_4
  obtain ⟨rfl, N_4q, eh_4⟩ := hQ_4
  have N_4 := Fr.app N_3 N_4q
  obtain ⟨_, _, ⟨T_5, L_5, k_5, n_5⟩, -, X_5, ⟨Lc_5, hQ_5, l_5, y_5, z_5⟩, st_5⟩ := Jvm.LawKit.callS X_4 hx (y := (⟨"java/lang/Math", "min", "(II)I"⟩ : MethodName)) hown (mvT hZ (hw _ (List.mem_of_getElem? (i := 17) rfl))) (mvT hZ (hw _ (List.mem_of_getElem? (i := 18) rfl))) (mvT hZ (hw _ (List.mem_of_getElem? (i := 19) rfl))) (mvT hZ (hw _ (List.mem_of_getElem? (i := 20) rfl))) (by decide) (backOf (W := 1) (rm_m0 l Z a0 hw [] (2 : Int32) (1 : Int32) h0 n0 Z0 (by decide)) hZ (hw _ (List.mem_of_getElem? (i := 20) rfl)) (hw _ (List.mem_of_getElem? (i := 19) rfl)) (by decide) (by decide)) (g := (mkF mM 42 #[.val (.int p1), .val (.int p2), .val (.int (2 : Int32)), .val (.int (1 : Int32)), .val (.ref t), .val (.ref u), .val (.ref u)] [(.int (1 : Int32)), (.int (2 : Int32)), (.int (1 : Int32))])) rfl (by rw [hml]; rfl) (argsL := [(.int (2 : Int32)), (.int (1 : Int32))]) (rest := [(.int (1 : Int32))]) (lenOf pd_3 rfl) rfl (by show 2 * 0 + _ ≤ _; exact Nat.le_of_eq rfl) (hb hby at_42) (fun _ _ => ⟨rfl, eh_4, (by decide : 0 + 0 ≤ _), (by decide : 0 + 0 ≤ _)⟩)
  dsimp only [Pt.U, Pt.locs, Pt.cells, Pt.slots] at X_5 l_5 y_5 z_5 st_5 hQ_5
  subst l_5 y_5 z_5
  obtain ⟨rfl, N_5q, eh_5⟩ := hQ_5
  have N_5 := Fr.app N_4 N_5q
  obtain ⟨fs, hr, hrun, hended, hW, hsame⟩ := X_5.leave (v := some (.int (1 : Int32))) (fun h => by rw [Bd.returns] at h; cases h)
  refine ⟨_, _, pre0 _ ?_, hrun, hended, _, _, rfl, ?_, ⟨_, rfl⟩, hW, hsame.mono (by decide) (by decide)⟩
  · show Steps pP.tables eE below (s₁.setTop (mkF mM 0 #[.val (.int p1), .val (.int p2), .unset, .unset, .unset, .unset, .unset] [])) _
    refine XS.iloadN X0.here hx rfl (hb hby at_0) rfl ?_
    show Steps pP.tables eE below (s₁.setTop (mkF mM 1 #[.val (.int p1), .val (.int p2), .unset, .unset, .unset, .unset, .unset] [(.int p1)])) _
    refine X0.ldcI hx hown (mvT hZ (hw _ (List.mem_of_getElem? (i := 0) rfl))) (g := (mkF mM 1 #[.val (.int p1), .val (.int p2), .unset, .unset, .unset, .unset, .unset] [(.int p1)])) rfl (hb hby at_1) ?_
    show Steps pP.tables eE below (s₁.setTop (mkF mM 3 #[.val (.int p1), .val (.int p2), .unset, .unset, .unset, .unset, .unset] [(.int (2147483647 : Int32)), (.int p1)])) _
    refine XS.iand X0.here hx rfl (hb hby at_3) rfl ?_
    show Steps pP.tables eE below (s₁.setTop (mkF mM 4 #[.val (.int p1), .val (.int p2), .unset, .unset, .unset, .unset, .unset] [(.int (p1 &&& (2147483647 : Int32)))])) _
    refine XS.iconst X0.here hx rfl (hb hby at_4) ?_
    show Steps pP.tables eE below (s₁.setTop (mkF mM 5 #[.val (.int p1), .val (.int p2), .unset, .unset, .unset, .unset, .unset] [(.int (3 : Int32)), (.int (p1 &&& (2147483647 : Int32)))])) _
    refine iremM X0 hx rfl (hb hby at_5) rfl (by decide) ?_
    show Steps pP.tables eE below (s₁.setTop (mkF mM 6 #[.val (.int p1), .val (.int p2), .unset, .unset, .unset, .unset, .unset] [(.int ((p1 &&& (2147483647 : Int32)) % (3 : Int32)))])) _
    rw [hi]
    show Steps pP.tables eE below (s₁.setTop (mkF mM 6 #[.val (.int p1), .val (.int p2), .unset, .unset, .unset, .unset, .unset] [(.int (2 : Int32))])) _
    refine XS.istoreN X0.here hx rfl (hb hby at_6) rfl (l' := #[.val (.int p1), .val (.int p2), .val (.int (2 : Int32)), .unset, .unset, .unset, .unset]) rfl ?_
    show Steps pP.tables eE below (s₁.setTop (mkF mM 7 #[.val (.int p1), .val (.int p2), .val (.int (2 : Int32)), .unset, .unset, .unset, .unset] [])) _
    refine XS.iloadN X0.here hx rfl (hb hby at_7) rfl ?_
    show Steps pP.tables eE below (s₁.setTop (mkF mM 8 #[.val (.int p1), .val (.int p2), .val (.int (2 : Int32)), .unset, .unset, .unset, .unset] [(.int p2)])) _
    refine X0.ldcI hx hown (mvT hZ (hw _ (List.mem_of_getElem? (i := 0) rfl))) (g := (mkF mM 8 #[.val (.int p1), .val (.int p2), .val (.int (2 : Int32)), .unset, .unset, .unset, .unset] [(.int p2)])) rfl (hb hby at_8) ?_
    show Steps pP.tables eE below (s₁.setTop (mkF mM 10 #[.val (.int p1), .val (.int p2), .val (.int (2 : Int32)), .unset, .unset, .unset, .unset] [(.int (2147483647 : Int32)), (.int p2)])) _
    refine XS.iand X0.here hx rfl (hb hby at_10) rfl ?_
    show Steps pP.tables eE below (s₁.setTop (mkF mM 11 #[.val (.int p1), .val (.int p2), .val (.int (2 : Int32)), .unset, .unset, .unset, .unset] [(.int (p2 &&& (2147483647 : Int32)))])) _
    refine XS.iconst X0.here hx rfl (hb hby at_11) ?_
    show Steps pP.tables eE below (s₁.setTop (mkF mM 12 #[.val (.int p1), .val (.int p2), .val (.int (2 : Int32)), .unset, .unset, .unset, .unset] [(.int (3 : Int32)), (.int (p2 &&& (2147483647 : Int32)))])) _
    refine iremM X0 hx rfl (hb hby at_12) rfl (by decide) ?_
    show Steps pP.tables eE below (s₁.setTop (mkF mM 13 #[.val (.int p1), .val (.int p2), .val (.int (2 : Int32)), .unset, .unset, .unset, .unset] [(.int ((p2 &&& (2147483647 : Int32)) % (3 : Int32)))])) _
    rw [hj]
    show Steps pP.tables eE below (s₁.setTop (mkF mM 13 #[.val (.int p1), .val (.int p2), .val (.int (2 : Int32)), .unset, .unset, .unset, .unset] [(.int (1 : Int32))])) _
    refine XS.istoreN X0.here hx rfl (hb hby at_13) rfl (l' := #[.val (.int p1), .val (.int p2), .val (.int (2 : Int32)), .val (.int (1 : Int32)), .unset, .unset, .unset]) rfl ?_
    show Steps pP.tables eE below (s₁.setTop (mkF mM 14 #[.val (.int p1), .val (.int p2), .val (.int (2 : Int32)), .val (.int (1 : Int32)), .unset, .unset, .unset] [])) _
    refine XS.iloadN X0.here hx rfl (hb hby at_14) rfl ?_
    show Steps pP.tables eE below (s₁.setTop (mkF mM 15 #[.val (.int p1), .val (.int p2), .val (.int (2 : Int32)), .val (.int (1 : Int32)), .unset, .unset, .unset] [(.int (2 : Int32))])) _
    refine st_1 _ ?_
    show Steps pP.tables eE below (T_1.setTop (mkF mM 18 #[.val (.int p1), .val (.int p2), .val (.int (2 : Int32)), .val (.int (1 : Int32)), .unset, .unset, .unset] [(.ref t)])) _
    refine XS.astore X_1.here hx rfl (hb hby at_18) rfl rfl (l' := #[.val (.int p1), .val (.int p2), .val (.int (2 : Int32)), .val (.int (1 : Int32)), .val (.ref t), .unset, .unset]) rfl ?_
    show Steps pP.tables eE below (T_1.setTop (mkF mM 20 #[.val (.int p1), .val (.int p2), .val (.int (2 : Int32)), .val (.int (1 : Int32)), .val (.ref t), .unset, .unset] [])) _
    refine XS.iloadN X_1.here hx rfl (hb hby at_20) rfl ?_
    show Steps pP.tables eE below (T_1.setTop (mkF mM 21 #[.val (.int p1), .val (.int p2), .val (.int (2 : Int32)), .val (.int (1 : Int32)), .val (.ref t), .unset, .unset] [(.int (1 : Int32))])) _
    refine st_2 _ ?_
    show Steps pP.tables eE below (T_2.setTop (mkF mM 24 #[.val (.int p1), .val (.int p2), .val (.int (2 : Int32)), .val (.int (1 : Int32)), .val (.ref t), .unset, .unset] [(.ref u)])) _
    refine XS.astore X_2.here hx rfl (hb hby at_24) rfl rfl (l' := #[.val (.int p1), .val (.int p2), .val (.int (2 : Int32)), .val (.int (1 : Int32)), .val (.ref t), .val (.ref u), .unset]) rfl ?_
    show Steps pP.tables eE below (T_2.setTop (mkF mM 26 #[.val (.int p1), .val (.int p2), .val (.int (2 : Int32)), .val (.int (1 : Int32)), .val (.ref t), .val (.ref u), .unset] [])) _
    refine XS.aload X_2.here hx rfl (hb hby at_26) rfl rfl ?_
    show Steps pP.tables eE below (T_2.setTop (mkF mM 28 #[.val (.int p1), .val (.int p2), .val (.int (2 : Int32)), .val (.int (1 : Int32)), .val (.ref t), .val (.ref u), .unset] [(.ref t)])) _
    refine XS.aload X_2.here hx rfl (hb hby at_28) rfl rfl ?_
    show Steps pP.tables eE below (T_2.setTop (mkF mM 30 #[.val (.int p1), .val (.int p2), .val (.int (2 : Int32)), .val (.int (1 : Int32)), .val (.ref t), .val (.ref u), .unset] [(.ref u), (.ref t)])) _
    refine st_3.trans ?_
    show Steps pP.tables eE below (T_3.setTop (mkF mM 33 #[.val (.int p1), .val (.int p2), .val (.int (2 : Int32)), .val (.int (1 : Int32)), .val (.ref t), .val (.ref u), .unset] [(.ref u)])) _
    refine XS.astore X_3.here hx rfl (hb hby at_33) rfl rfl (l' := #[.val (.int p1), .val (.int p2), .val (.int (2 : Int32)), .val (.int (1 : Int32)), .val (.ref t), .val (.ref u), .val (.ref u)]) rfl ?_
    show Steps pP.tables eE below (T_3.setTop (mkF mM 35 #[.val (.int p1), .val (.int p2), .val (.int (2 : Int32)), .val (.int (1 : Int32)), .val (.ref t), .val (.ref u), .val (.ref u)] [])) _
    refine XS.aload X_3.here hx rfl (hb hby at_35) rfl rfl ?_
    show Steps pP.tables eE below (T_3.setTop (mkF mM 37 #[.val (.int p1), .val (.int p2), .val (.int (2 : Int32)), .val (.int (1 : Int32)), .val (.ref t), .val (.ref u), .val (.ref u)] [(.ref u)])) _
    refine st_4 _ ?_
    show Steps pP.tables eE below (T_4.setTop (mkF mM 40 #[.val (.int p1), .val (.int p2), .val (.int (2 : Int32)), .val (.int (1 : Int32)), .val (.ref t), .val (.ref u), .val (.ref u)] [(.int (1 : Int32))])) _
    refine XS.iloadN X_4.here hx rfl (hb hby at_40) rfl ?_
    show Steps pP.tables eE below (T_4.setTop (mkF mM 41 #[.val (.int p1), .val (.int p2), .val (.int (2 : Int32)), .val (.int (1 : Int32)), .val (.ref t), .val (.ref u), .val (.ref u)] [(.int (2 : Int32)), (.int (1 : Int32))])) _
    refine XS.iloadN X_4.here hx rfl (hb hby at_41) rfl ?_
    show Steps pP.tables eE below (T_4.setTop (mkF mM 42 #[.val (.int p1), .val (.int p2), .val (.int (2 : Int32)), .val (.int (1 : Int32)), .val (.ref t), .val (.ref u), .val (.ref u)] [(.int (1 : Int32)), (.int (2 : Int32)), (.int (1 : Int32))])) _
    refine st_5 _ ?_
    show Steps pP.tables eE below (T_5.setTop (mkF mM 45 #[.val (.int p1), .val (.int p2), .val (.int (2 : Int32)), .val (.int (1 : Int32)), .val (.ref t), .val (.ref u), .val (.ref u)] [(.int (1 : Int32)), (.int (1 : Int32))])) _
    refine XS.icmpNo X_5.here hx rfl (hb hby at_45) rfl (by decide) ?_
    show Steps pP.tables eE below (T_5.setTop (mkF mM 48 #[.val (.int p1), .val (.int p2), .val (.int (2 : Int32)), .val (.int (1 : Int32)), .val (.ref t), .val (.ref u), .val (.ref u)] [])) _
    refine XS.iconst X_5.here hx rfl (hb hby at_48) ?_
    show Steps pP.tables eE below (T_5.setTop (mkF mM 49 #[.val (.int p1), .val (.int p2), .val (.int (2 : Int32)), .val (.int (1 : Int32)), .val (.ref t), .val (.ref u), .val (.ref u)] [(.int (1 : Int32))])) _
    refine XS.goto X_5.here hx rfl (pc0 := 49) (pc' := 53) rfl (hb hby at_49) (by decide) (by decide) ?_
    show Steps pP.tables eE below (T_5.setTop (mkF mM 53 #[.val (.int p1), .val (.int p2), .val (.int (2 : Int32)), .val (.int (1 : Int32)), .val (.ref t), .val (.ref u), .val (.ref u)] [(.int (1 : Int32))])) _
    exact retN X_5 hx (t := .boolean) Bd.returns (by simp) (hb hby at_53) hr
  · show Q_law21 Z p1 p2 f u t h0 n0 _ T_5.heap _
    exact ⟨rfl, N_5⟩
theorem ef_law22 (mM : MethodId) (x0 : Int32) (x1 : Int32) : entryFrame mM #[(.int x0), (.int x1)] maxLocals = mkF mM 0 #[.val (.int x0), .val (.int x1), .unset, .unset, .unset, .unset, .unset] [] := by first | (simp [entryFrame, mkF, argsToLocals, Value.category, maxLocals]; done) | rfl
def Q_law22 (Z : State) (p1 : Int32) (p2 : Int32) (f : Addr) (u : Addr) (t : Addr) (h0 : Heap) (n0 : Nat) (v_ : Option Value) (h_ : Heap) (L_ : List Loc) : Prop := v_ = some (.int (1 : Int32)) ∧ Fr n0 L_
set_option maxRecDepth 65536 in
set_option maxHeartbeats 40000000 in
theorem rm_law22 (l : Launch) (Z : State) (a0 : Array Value) (hw : ∀ d ∈ tables_1, d.before a0 Z = true) (ws : List Jvm.Cond) (p1 : Int32) (p2 : Int32) (f : Addr) (u : Addr) (t : Addr) (h0 : Heap) (n0 : Nat) (Z0 : n0 ≤ h0.size) (hi : ((p1 &&& (2147483647 : Int32)) % (3 : Int32)) = (2 : Int32)) (hj : ((p2 &&& (2147483647 : Int32)) % (3 : Int32)) = (2 : Int32)) (S_Truth_FALSE : Sta Z h0 "com/example/querent/querent/engine/Truth" "FALSE" "Lcom/example/querent/querent/engine/Truth;" (.ref f)) (S_Truth_UNKNOWN : Sta Z h0 "com/example/querent/querent/engine/Truth" "UNKNOWN" "Lcom/example/querent/querent/engine/Truth;" (.ref u)) (S_Truth_TRUE : Sta Z h0 "com/example/querent/querent/engine/Truth" "TRUE" "Lcom/example/querent/querent/engine/Truth;" (.ref t)) (nfu : f ≠ u) (nft : f ≠ t) (nut : u ≠ t) (E_f : Exa Z h0 f "com/example/querent/querent/engine/Truth") (E_u : Exa Z h0 u "com/example/querent/querent/engine/Truth") (E_t : Exa Z h0 t "com/example/querent/querent/engine/Truth") :
    MetFree l x (head1 (Jvm.Cond.code x code maxLocals ret :: ws) room_1) (fun aa_ U_ => aa_ = #[(.int p1), (.int p2)] ∧ Z.Warmed39 U_.vm ∧ U_.heap = h0) (fun _ _ _ _ _ => True) (fun _ U_ o_ U'_ => ∃ v_ L_, o_ = .returned v_ ∧ Q_law22 Z p1 p2 f u t h0 n0 v_ U'_.heap L_ ∧ FrameEnd U_ o_ U'_ L_ 0 0) := by
  refine MetFree.of_bodySF (plainFor_of_name pn_0) hisR ?_
  intro pP eE sS mM argsA below meth cC s₁ Bd hml0 hP hK
  obtain ⟨rfl, hZ, hh⟩ := hP
  have hx := Bd.exec
  have hby := Bd.bytes
  have hml : cC.maxLocals = 7 := hml0
  have hown : sS.vm.findClass "com/example/querent/querent/engine/TruthAndPinLaw" = some mM.cls := findClass_of_methodNamed Bd.named
  have hnm := (name_of_methodNamed Bd.named Bd.method).1
  have X0 : Stand pP l eE room_1 sS mM #[(.int p1), (.int p2)] below meth cC s₁ [] 0 0 := Stand.of_body Bd
  have e0 : s₁.heap = h0 := by rw [← hh, Bd.state]; rfl
  have N0 := Fr.nil n0
  have pre0 : ∀ t_, Steps pP.tables eE below (s₁.setTop (mkF mM 0 #[.val (.int p1), .val (.int p2), .unset, .unset, .unset, .unset, .unset] [])) t_ → Steps pP.tables eE below (s₁.setTop (entryFrame mM #[(.int p1), (.int p2)] maxLocals)) t_ := fun t_ k_ => castTop (ef_law22 mM p1 p2) k_
  obtain ⟨_, _, ⟨T_1, L_1, k_1, n_1⟩, -, X_1, ⟨Lc_1, hQ_1, l_1, y_1, z_1⟩, st_1⟩ := Jvm.LawKit.callS X0 hx (y := (⟨"com/example/querent/querent/engine/TruthAndPinLaw", "pick", "(I)Lcom/example/querent/querent/engine/Truth;"⟩ : MethodName)) hown (mvT hZ (hw _ (List.mem_of_getElem? (i := 1) rfl))) (mvT hZ (hw _ (List.mem_of_getElem? (i := 2) rfl))) (mvT hZ (hw _ (List.mem_of_getElem? (i := 3) rfl))) (mvT hZ (hw _ (List.mem_of_getElem? (i := 4) rfl))) (by decide) (backOf (W := 0) (rm_pick2 l Z a0 hw [] t h0 n0 Z0 S_Truth_TRUE) hZ (hw _ (List.mem_of_getElem? (i := 4) rfl)) (hw _ (List.mem_of_getElem? (i := 3) rfl)) (by decide) (by decide)) (g := (mkF mM 15 #[.val (.int p1), .val (.int p2), .val (.int (2 : Int32)), .val (.int (2 : Int32)), .unset, .unset, .unset] [(.int (2 : Int32))])) rfl (by rw [hml]; rfl) (argsL := [(.int (2 : Int32))]) (rest := []) (lenOf pd_0 rfl) rfl (by show 2 * 0 + _ ≤ _; exact Nat.le_of_eq rfl) (hb hby at_15) (fun _ _ => ⟨rfl, e0, (by decide : 0 + 0 ≤ _), (by decide : 0 + 0 ≤ _)⟩)
  dsimp only [Pt.U, Pt.locs, Pt.cells, Pt.slots] at X_1 l_1 y_1 z_1 st_1 hQ_1
  subst l_1 y_1 z_1
  obtain ⟨rfl, N_1q, eh_1⟩ := hQ_1
  have N_1 := Fr.app N0 N_1q
  obtain ⟨_, _, ⟨T_2, L_2, k_2, n_2⟩, -, X_2, ⟨Lc_2, hQ_2, l_2, y_2, z_2⟩, st_2⟩ := Jvm.LawKit.callS X_1 hx (y := (⟨"com/example/querent/querent/engine/TruthAndPinLaw", "pick", "(I)Lcom/example/querent/querent/engine/Truth;"⟩ : MethodName)) hown (mvT hZ (hw _ (List.mem_of_getElem? (i := 1) rfl))) (mvT hZ (hw _ (List.mem_of_getElem? (i := 2) rfl))) (mvT hZ (hw _ (List.mem_of_getElem? (i := 3) rfl))) (mvT hZ (hw _ (List.mem_of_getElem? (i := 4) rfl))) (by decide) (backOf (W := 0) (rm_pick2 l Z a0 hw [] t h0 n0 Z0 S_Truth_TRUE) hZ (hw _ (List.mem_of_getElem? (i := 4) rfl)) (hw _ (List.mem_of_getElem? (i := 3) rfl)) (by decide) (by decide)) (g := (mkF mM 21 #[.val (.int p1), .val (.int p2), .val (.int (2 : Int32)), .val (.int (2 : Int32)), .val (.ref t), .unset, .unset] [(.int (2 : Int32))])) rfl (by rw [hml]; rfl) (argsL := [(.int (2 : Int32))]) (rest := []) (lenOf pd_0 rfl) rfl (by show 2 * 0 + _ ≤ _; exact Nat.le_of_eq rfl) (hb hby at_21) (fun _ _ => ⟨rfl, eh_1, (by decide : 0 + 0 ≤ _), (by decide : 0 + 0 ≤ _)⟩)
  dsimp only [Pt.U, Pt.locs, Pt.cells, Pt.slots] at X_2 l_2 y_2 z_2 st_2 hQ_2
  subst l_2 y_2 z_2
  obtain ⟨rfl, N_2q, eh_2⟩ := hQ_2
  have N_2 := Fr.app N_1 N_2q
  obtain ⟨cq_3, kq_3, q_3a, q_3b, q_3c⟩ := isOf hZ eh_2 E_t
  obtain ⟨_, _, ⟨T_3, L_3, k_3, n_3⟩, -, X_3, ⟨Lc_3, hQ_3, l_3, y_3, z_3⟩, st_3⟩ := X_2.virtualBack hx (y := (⟨"com/example/querent/querent/engine/Truth", "and", "(Lcom/example/querent/querent/engine/Truth;)Lcom/example/querent/querent/engine/Truth;"⟩ : MethodName)) (z := (⟨"com/example/querent/querent/engine/Truth", "and", "(Lcom/example/querent/querent/engine/Truth;)Lcom/example/querent/querent/engine/Truth;"⟩ : MethodName)) hown (mvT hZ (hw _ (List.mem_of_getElem? (i := 8) rfl))) (mvT hZ (hw _ (List.mem_of_getElem? (i := 9) rfl))) (notFace_of_selects (args := #[]) (mvT hZ (hw _ (List.mem_of_getElem? (i := 11) rfl)))) (mvT hZ (hw _ (List.mem_of_getElem? (i := 11) rfl))) (mvT hZ (hw _ (List.mem_of_getElem? (i := 10) rfl))) (by decide) (backOf (W := 0) (rm_op22 l Z a0 hw [] f u t h0 n0 Z0 S_Truth_FALSE S_Truth_UNKNOWN S_Truth_TRUE nfu nft nut) hZ (hw _ (List.mem_of_getElem? (i := 12) rfl)) (hw _ (List.mem_of_getElem? (i := 6) rfl)) (by decide) (by decide)) q_3a q_3c (g := (mkF mM 30 #[.val (.int p1), .val (.int p2), .val (.int (2 : Int32)), .val (.int (2 : Int32)), .val (.ref t), .val (.ref t), .unset] [(.ref t), (.ref t)])) rfl (by rw [hml]; rfl) (Steps.refl _) (argsL := [(.ref t)]) (rest := []) (lenOf pd_1 rfl) rfl (by show 2 * 0 + _ ≤ _; exact Nat.le_of_eq rfl) (hb hby at_30) (fun _ _ => ⟨rfl, eh_2, (by decide : 0 + 0 ≤ _), (by decide : 0 + 0 ≤ _)⟩)
  dsimp only [Pt.U, Pt.locs, Pt.cells, Pt.slots] at X_3 l_3 y_3 z_3 st_3 hQ_3
  subst l_3 y_3 z_3
  obtain ⟨rfl, N_3q, eh_3⟩ := hQ_3
  have N_3 := Fr.app N_2 N_3q
  obtain ⟨_, _, ⟨T_4, L_4, k_4, n_4⟩, -, X_4, ⟨Lc_4, hQ_4, l_4, y_4, z_4⟩, st_4⟩ := Jvm.LawKit.callS X_3 hx (y := (⟨"com/example/querent/querent/engine/TruthAndPinLaw", "rank", "(Lcom/example/querent/querent/engine/Truth;)I"⟩ : MethodName)) hown (mvT hZ (hw _ (List.mem_of_getElem? (i := 14) rfl))) (mvT hZ (hw _ (List.mem_of_getElem? (i := 15) rfl))) (mvT hZ (hw _ (List.mem_of_getElem? (i := 3) rfl))) (mvT hZ (hw _ (List.mem_of_getElem? (i := 16) rfl))) (by decide) (backOf (W := 0) (rm_rank2 l Z a0 hw [] f u t h0 n0 Z0 S_Truth_FALSE S_Truth_UNKNOWN S_Truth_TRUE nfu nft nut) hZ (hw _ (List.mem_of_getElem? (i := 16) rfl)) (hw _ (List.mem_of_getElem? (i := 3) rfl)) (by decide) (by decide)) (g := (mkF mM 37 #[.val (.int p1), .val (.int p2), .val (.int (2 : Int32)), .val (.int (2 : Int32)), .val (.ref t), .val (.ref t), .val (.ref t)] [(.ref t)])) rfl (by rw [hml]; rfl) (argsL := [(.ref t)]) (rest := []) (lenOf pd_2 rfl) rfl (by show 2 * 0 + _ ≤ _; exact Nat.le_of_eq rfl) (hb hby at_37) (fun _ _ => ⟨rfl, eh_3, (by decide : 0 + 0 ≤ _), (by decide : 0 + 0 ≤ _)⟩)
  dsimp only [Pt.U, Pt.locs, Pt.cells, Pt.slots] at X_4 l_4 y_4 z_4 st_4 hQ_4
  subst l_4 y_4 z_4
  obtain ⟨rfl, N_4q, eh_4⟩ := hQ_4
  have N_4 := Fr.app N_3 N_4q
  obtain ⟨_, _, ⟨T_5, L_5, k_5, n_5⟩, -, X_5, ⟨Lc_5, hQ_5, l_5, y_5, z_5⟩, st_5⟩ := Jvm.LawKit.callS X_4 hx (y := (⟨"java/lang/Math", "min", "(II)I"⟩ : MethodName)) hown (mvT hZ (hw _ (List.mem_of_getElem? (i := 17) rfl))) (mvT hZ (hw _ (List.mem_of_getElem? (i := 18) rfl))) (mvT hZ (hw _ (List.mem_of_getElem? (i := 19) rfl))) (mvT hZ (hw _ (List.mem_of_getElem? (i := 20) rfl))) (by decide) (backOf (W := 1) (rm_m1 l Z a0 hw [] (2 : Int32) (2 : Int32) h0 n0 Z0 (by decide)) hZ (hw _ (List.mem_of_getElem? (i := 20) rfl)) (hw _ (List.mem_of_getElem? (i := 19) rfl)) (by decide) (by decide)) (g := (mkF mM 42 #[.val (.int p1), .val (.int p2), .val (.int (2 : Int32)), .val (.int (2 : Int32)), .val (.ref t), .val (.ref t), .val (.ref t)] [(.int (2 : Int32)), (.int (2 : Int32)), (.int (2 : Int32))])) rfl (by rw [hml]; rfl) (argsL := [(.int (2 : Int32)), (.int (2 : Int32))]) (rest := [(.int (2 : Int32))]) (lenOf pd_3 rfl) rfl (by show 2 * 0 + _ ≤ _; exact Nat.le_of_eq rfl) (hb hby at_42) (fun _ _ => ⟨rfl, eh_4, (by decide : 0 + 0 ≤ _), (by decide : 0 + 0 ≤ _)⟩)
  dsimp only [Pt.U, Pt.locs, Pt.cells, Pt.slots] at X_5 l_5 y_5 z_5 st_5 hQ_5
  subst l_5 y_5 z_5
  obtain ⟨rfl, N_5q, eh_5⟩ := hQ_5
  have N_5 := Fr.app N_4 N_5q
  obtain ⟨fs, hr, hrun, hended, hW, hsame⟩ := X_5.leave (v := some (.int (1 : Int32))) (fun h => by rw [Bd.returns] at h; cases h)
  refine ⟨_, _, pre0 _ ?_, hrun, hended, _, _, rfl, ?_, ⟨_, rfl⟩, hW, hsame.mono (by decide) (by decide)⟩
  · show Steps pP.tables eE below (s₁.setTop (mkF mM 0 #[.val (.int p1), .val (.int p2), .unset, .unset, .unset, .unset, .unset] [])) _
    refine XS.iloadN X0.here hx rfl (hb hby at_0) rfl ?_
    show Steps pP.tables eE below (s₁.setTop (mkF mM 1 #[.val (.int p1), .val (.int p2), .unset, .unset, .unset, .unset, .unset] [(.int p1)])) _
    refine X0.ldcI hx hown (mvT hZ (hw _ (List.mem_of_getElem? (i := 0) rfl))) (g := (mkF mM 1 #[.val (.int p1), .val (.int p2), .unset, .unset, .unset, .unset, .unset] [(.int p1)])) rfl (hb hby at_1) ?_
    show Steps pP.tables eE below (s₁.setTop (mkF mM 3 #[.val (.int p1), .val (.int p2), .unset, .unset, .unset, .unset, .unset] [(.int (2147483647 : Int32)), (.int p1)])) _
    refine XS.iand X0.here hx rfl (hb hby at_3) rfl ?_
    show Steps pP.tables eE below (s₁.setTop (mkF mM 4 #[.val (.int p1), .val (.int p2), .unset, .unset, .unset, .unset, .unset] [(.int (p1 &&& (2147483647 : Int32)))])) _
    refine XS.iconst X0.here hx rfl (hb hby at_4) ?_
    show Steps pP.tables eE below (s₁.setTop (mkF mM 5 #[.val (.int p1), .val (.int p2), .unset, .unset, .unset, .unset, .unset] [(.int (3 : Int32)), (.int (p1 &&& (2147483647 : Int32)))])) _
    refine iremM X0 hx rfl (hb hby at_5) rfl (by decide) ?_
    show Steps pP.tables eE below (s₁.setTop (mkF mM 6 #[.val (.int p1), .val (.int p2), .unset, .unset, .unset, .unset, .unset] [(.int ((p1 &&& (2147483647 : Int32)) % (3 : Int32)))])) _
    rw [hi]
    show Steps pP.tables eE below (s₁.setTop (mkF mM 6 #[.val (.int p1), .val (.int p2), .unset, .unset, .unset, .unset, .unset] [(.int (2 : Int32))])) _
    refine XS.istoreN X0.here hx rfl (hb hby at_6) rfl (l' := #[.val (.int p1), .val (.int p2), .val (.int (2 : Int32)), .unset, .unset, .unset, .unset]) rfl ?_
    show Steps pP.tables eE below (s₁.setTop (mkF mM 7 #[.val (.int p1), .val (.int p2), .val (.int (2 : Int32)), .unset, .unset, .unset, .unset] [])) _
    refine XS.iloadN X0.here hx rfl (hb hby at_7) rfl ?_
    show Steps pP.tables eE below (s₁.setTop (mkF mM 8 #[.val (.int p1), .val (.int p2), .val (.int (2 : Int32)), .unset, .unset, .unset, .unset] [(.int p2)])) _
    refine X0.ldcI hx hown (mvT hZ (hw _ (List.mem_of_getElem? (i := 0) rfl))) (g := (mkF mM 8 #[.val (.int p1), .val (.int p2), .val (.int (2 : Int32)), .unset, .unset, .unset, .unset] [(.int p2)])) rfl (hb hby at_8) ?_
    show Steps pP.tables eE below (s₁.setTop (mkF mM 10 #[.val (.int p1), .val (.int p2), .val (.int (2 : Int32)), .unset, .unset, .unset, .unset] [(.int (2147483647 : Int32)), (.int p2)])) _
    refine XS.iand X0.here hx rfl (hb hby at_10) rfl ?_
    show Steps pP.tables eE below (s₁.setTop (mkF mM 11 #[.val (.int p1), .val (.int p2), .val (.int (2 : Int32)), .unset, .unset, .unset, .unset] [(.int (p2 &&& (2147483647 : Int32)))])) _
    refine XS.iconst X0.here hx rfl (hb hby at_11) ?_
    show Steps pP.tables eE below (s₁.setTop (mkF mM 12 #[.val (.int p1), .val (.int p2), .val (.int (2 : Int32)), .unset, .unset, .unset, .unset] [(.int (3 : Int32)), (.int (p2 &&& (2147483647 : Int32)))])) _
    refine iremM X0 hx rfl (hb hby at_12) rfl (by decide) ?_
    show Steps pP.tables eE below (s₁.setTop (mkF mM 13 #[.val (.int p1), .val (.int p2), .val (.int (2 : Int32)), .unset, .unset, .unset, .unset] [(.int ((p2 &&& (2147483647 : Int32)) % (3 : Int32)))])) _
    rw [hj]
    show Steps pP.tables eE below (s₁.setTop (mkF mM 13 #[.val (.int p1), .val (.int p2), .val (.int (2 : Int32)), .unset, .unset, .unset, .unset] [(.int (2 : Int32))])) _
    refine XS.istoreN X0.here hx rfl (hb hby at_13) rfl (l' := #[.val (.int p1), .val (.int p2), .val (.int (2 : Int32)), .val (.int (2 : Int32)), .unset, .unset, .unset]) rfl ?_
    show Steps pP.tables eE below (s₁.setTop (mkF mM 14 #[.val (.int p1), .val (.int p2), .val (.int (2 : Int32)), .val (.int (2 : Int32)), .unset, .unset, .unset] [])) _
    refine XS.iloadN X0.here hx rfl (hb hby at_14) rfl ?_
    show Steps pP.tables eE below (s₁.setTop (mkF mM 15 #[.val (.int p1), .val (.int p2), .val (.int (2 : Int32)), .val (.int (2 : Int32)), .unset, .unset, .unset] [(.int (2 : Int32))])) _
    refine st_1 _ ?_
    show Steps pP.tables eE below (T_1.setTop (mkF mM 18 #[.val (.int p1), .val (.int p2), .val (.int (2 : Int32)), .val (.int (2 : Int32)), .unset, .unset, .unset] [(.ref t)])) _
    refine XS.astore X_1.here hx rfl (hb hby at_18) rfl rfl (l' := #[.val (.int p1), .val (.int p2), .val (.int (2 : Int32)), .val (.int (2 : Int32)), .val (.ref t), .unset, .unset]) rfl ?_
    show Steps pP.tables eE below (T_1.setTop (mkF mM 20 #[.val (.int p1), .val (.int p2), .val (.int (2 : Int32)), .val (.int (2 : Int32)), .val (.ref t), .unset, .unset] [])) _
    refine XS.iloadN X_1.here hx rfl (hb hby at_20) rfl ?_
    show Steps pP.tables eE below (T_1.setTop (mkF mM 21 #[.val (.int p1), .val (.int p2), .val (.int (2 : Int32)), .val (.int (2 : Int32)), .val (.ref t), .unset, .unset] [(.int (2 : Int32))])) _
    refine st_2 _ ?_
    show Steps pP.tables eE below (T_2.setTop (mkF mM 24 #[.val (.int p1), .val (.int p2), .val (.int (2 : Int32)), .val (.int (2 : Int32)), .val (.ref t), .unset, .unset] [(.ref t)])) _
    refine XS.astore X_2.here hx rfl (hb hby at_24) rfl rfl (l' := #[.val (.int p1), .val (.int p2), .val (.int (2 : Int32)), .val (.int (2 : Int32)), .val (.ref t), .val (.ref t), .unset]) rfl ?_
    show Steps pP.tables eE below (T_2.setTop (mkF mM 26 #[.val (.int p1), .val (.int p2), .val (.int (2 : Int32)), .val (.int (2 : Int32)), .val (.ref t), .val (.ref t), .unset] [])) _
    refine XS.aload X_2.here hx rfl (hb hby at_26) rfl rfl ?_
    show Steps pP.tables eE below (T_2.setTop (mkF mM 28 #[.val (.int p1), .val (.int p2), .val (.int (2 : Int32)), .val (.int (2 : Int32)), .val (.ref t), .val (.ref t), .unset] [(.ref t)])) _
    refine XS.aload X_2.here hx rfl (hb hby at_28) rfl rfl ?_
    show Steps pP.tables eE below (T_2.setTop (mkF mM 30 #[.val (.int p1), .val (.int p2), .val (.int (2 : Int32)), .val (.int (2 : Int32)), .val (.ref t), .val (.ref t), .unset] [(.ref t), (.ref t)])) _
    refine st_3.trans ?_
    show Steps pP.tables eE below (T_3.setTop (mkF mM 33 #[.val (.int p1), .val (.int p2), .val (.int (2 : Int32)), .val (.int (2 : Int32)), .val (.ref t), .val (.ref t), .unset] [(.ref t)])) _
    refine XS.astore X_3.here hx rfl (hb hby at_33) rfl rfl (l' := #[.val (.int p1), .val (.int p2), .val (.int (2 : Int32)), .val (.int (2 : Int32)), .val (.ref t), .val (.ref t), .val (.ref t)]) rfl ?_
    show Steps pP.tables eE below (T_3.setTop (mkF mM 35 #[.val (.int p1), .val (.int p2), .val (.int (2 : Int32)), .val (.int (2 : Int32)), .val (.ref t), .val (.ref t), .val (.ref t)] [])) _
    refine XS.aload X_3.here hx rfl (hb hby at_35) rfl rfl ?_
    show Steps pP.tables eE below (T_3.setTop (mkF mM 37 #[.val (.int p1), .val (.int p2), .val (.int (2 : Int32)), .val (.int (2 : Int32)), .val (.ref t), .val (.ref t), .val (.ref t)] [(.ref t)])) _
    refine st_4 _ ?_
    show Steps pP.tables eE below (T_4.setTop (mkF mM 40 #[.val (.int p1), .val (.int p2), .val (.int (2 : Int32)), .val (.int (2 : Int32)), .val (.ref t), .val (.ref t), .val (.ref t)] [(.int (2 : Int32))])) _
    refine XS.iloadN X_4.here hx rfl (hb hby at_40) rfl ?_
    show Steps pP.tables eE below (T_4.setTop (mkF mM 41 #[.val (.int p1), .val (.int p2), .val (.int (2 : Int32)), .val (.int (2 : Int32)), .val (.ref t), .val (.ref t), .val (.ref t)] [(.int (2 : Int32)), (.int (2 : Int32))])) _
    refine XS.iloadN X_4.here hx rfl (hb hby at_41) rfl ?_
    show Steps pP.tables eE below (T_4.setTop (mkF mM 42 #[.val (.int p1), .val (.int p2), .val (.int (2 : Int32)), .val (.int (2 : Int32)), .val (.ref t), .val (.ref t), .val (.ref t)] [(.int (2 : Int32)), (.int (2 : Int32)), (.int (2 : Int32))])) _
    refine st_5 _ ?_
    show Steps pP.tables eE below (T_5.setTop (mkF mM 45 #[.val (.int p1), .val (.int p2), .val (.int (2 : Int32)), .val (.int (2 : Int32)), .val (.ref t), .val (.ref t), .val (.ref t)] [(.int (2 : Int32)), (.int (2 : Int32))])) _
    refine XS.icmpNo X_5.here hx rfl (hb hby at_45) rfl (by decide) ?_
    show Steps pP.tables eE below (T_5.setTop (mkF mM 48 #[.val (.int p1), .val (.int p2), .val (.int (2 : Int32)), .val (.int (2 : Int32)), .val (.ref t), .val (.ref t), .val (.ref t)] [])) _
    refine XS.iconst X_5.here hx rfl (hb hby at_48) ?_
    show Steps pP.tables eE below (T_5.setTop (mkF mM 49 #[.val (.int p1), .val (.int p2), .val (.int (2 : Int32)), .val (.int (2 : Int32)), .val (.ref t), .val (.ref t), .val (.ref t)] [(.int (1 : Int32))])) _
    refine XS.goto X_5.here hx rfl (pc0 := 49) (pc' := 53) rfl (hb hby at_49) (by decide) (by decide) ?_
    show Steps pP.tables eE below (T_5.setTop (mkF mM 53 #[.val (.int p1), .val (.int p2), .val (.int (2 : Int32)), .val (.int (2 : Int32)), .val (.ref t), .val (.ref t), .val (.ref t)] [(.int (1 : Int32))])) _
    exact retN X_5 hx (t := .boolean) Bd.returns (by simp) (hb hby at_53) hr
  · show Q_law22 Z p1 p2 f u t h0 n0 _ T_5.heap _
    exact ⟨rfl, N_5⟩
theorem own_rem3 (x : Int32) : (x &&& (2147483647 : Int32)) % (3 : Int32) = 0 ∨ (x &&& (2147483647 : Int32)) % (3 : Int32) = 1 ∨ (x &&& (2147483647 : Int32)) % (3 : Int32) = 2 := by
  have e : (x &&& (2147483647 : Int32)).toInt = x.toInt % 2 ^ 31 := Jvm.Kit.i32_mask x 2147483647 (k := 31) (by decide) (by decide)
  have r : ((x &&& (2147483647 : Int32)) % (3 : Int32)).toInt = (x &&& (2147483647 : Int32)).toInt.tmod 3 := by rw [Int32.toInt_mod]; rfl
  have h0 : 0 ≤ (x &&& (2147483647 : Int32)).toInt := by rw [e]; omega
  rw [Int.tmod_eq_emod_of_nonneg h0] at r
  simp only [← Int32.toInt_inj]
  generalize ((x &&& (2147483647 : Int32)) % (3 : Int32)).toInt = z at *
  have q : z = 0 ∨ z = 1 ∨ z = 2 := by omega
  rcases q with rfl | rfl | rfl <;> decide
set_option maxRecDepth 65536 in
set_option maxHeartbeats 40000000 in
theorem comes_1 {Post : Tables → Env → Array Value → State → Outcome → State → Prop} (hpost : ∀ tb e args s v u, (limb_1_1.after args s (.returned v) u = true ∧ limb_1_2.after args s (.returned v) u = true ∧ True) → FrameEnd s (.returned v) u (Jvm.fieldLocs frame_1_writes args s ++ Jvm.arrayLocs frame_1_arrays args s ++ Jvm.staticLocs frame_1_statics s) 0 0 → Post tb e args s (.returned v) u) :
    ArmFor flags0 classFile x code maxLocals ret World_1 tables_1 room_1 Calls_1 rest_1 Pre_1 Post := by
  intro l hfl _ _ p e ha hc hk s m args below hf hA hF happ hP
  obtain ⟨hcalls, hrest, hpre⟩ := hP
  obtain ⟨-, -, -, hnamed, -, -, -, hat⟩ := (Spec.applies_iff hf).mp happ
  obtain ⟨hg, hn⟩ := and_e (Cond.before_iff.mp (show (Jvm.Cond.and given_1 narrow_1).before args s = true from hpre))
  obtain ⟨hg1, hg2⟩ := and_e hg
  obtain ⟨hg3, hg4⟩ := and_e hg2
  obtain ⟨w0, w1, rfl⟩ : ∃ w0 w1 : Value, args = #[w0, w1] := by
    have hs : args.size = 2 := by simpa [Cond.value, given_1] using hg1
    obtain ⟨L⟩ := args
    match L, hs with
    | [w0, w1], _ => exact ⟨w0, w1, rfl⟩
  obtain ⟨i0, ei0⟩ := is_v hg3
  obtain rfl : w0 = (.int i0) := Option.some.inj ei0
  obtain ⟨i1, ei1⟩ := is_v hg4
  obtain rfl : w1 = (.int i1) := Option.some.inj ei1
  have hw := fun d (hd : d ∈ tables_1) => atoms_spec (ws := Jvm.Cond.code x code maxLocals ret :: tables_1) hat d (List.mem_cons_of_mem _ hd)
  have hfit : Fit s := fun {y c} hc i hi => by
    obtain ⟨ha, rfl⟩ := Array.getElem?_eq_some_iff.mp hc
    have q := List.all_eq_true.mp ((Array.all_eq_true_iff_forall_mem.mp hF) _ (Array.getElem_mem ha)) i (List.mem_range.mpr hi)
    simpa [Array.getElem?_eq_getElem hi] using q
  obtain ⟨hn1, hn2⟩ := and_e hn
  obtain ⟨hn3, hn4⟩ := and_e hn2
  obtain ⟨hn5, hn6⟩ := and_e hn4
  obtain ⟨hn7, hn8⟩ := and_e hn6
  obtain ⟨hn9, hn10⟩ := and_e hn8
  obtain ⟨x_Truth_FALSE, ev_x_Truth_FALSE⟩ := exa_v hn1
  have E_x_Truth_FALSE := Exa.start ev_x_Truth_FALSE hn1
  have S_Truth_FALSE := Sta.start ev_x_Truth_FALSE (Or.inr ⟨(hw _ (List.mem_of_getElem? (i := 6) rfl)), (hw _ (List.mem_of_getElem? (i := 7) rfl))⟩)
  obtain ⟨x_Truth_TRUE, ev_x_Truth_TRUE⟩ := exa_v hn3
  have E_x_Truth_TRUE := Exa.start ev_x_Truth_TRUE hn3
  have S_Truth_TRUE := Sta.start ev_x_Truth_TRUE (Or.inr ⟨(hw _ (List.mem_of_getElem? (i := 6) rfl)), (hw _ (List.mem_of_getElem? (i := 22) rfl))⟩)
  obtain ⟨x_Truth_UNKNOWN, ev_x_Truth_UNKNOWN⟩ := exa_v hn5
  have E_x_Truth_UNKNOWN := Exa.start ev_x_Truth_UNKNOWN hn5
  have S_Truth_UNKNOWN := Sta.start ev_x_Truth_UNKNOWN (Or.inr ⟨(hw _ (List.mem_of_getElem? (i := 6) rfl)), (hw _ (List.mem_of_getElem? (i := 24) rfl))⟩)
  have F_x_Truth_TRUE_ordinal := own_fld ev_x_Truth_TRUE (own_eqi hn7)
  have F_x_Truth_FALSE_ordinal := own_fld ev_x_Truth_FALSE (own_eqi hn9)
  have F_x_Truth_UNKNOWN_ordinal := own_fld ev_x_Truth_UNKNOWN (own_eqi hn10)
  rcases own_rem3 i0 with hci | hci | hci <;> rcases own_rem3 i1 with hcj | hcj | hcj
  · obtain ⟨n, o, h1, h2, h3, _, L, rfl, ⟨rfl, N⟩, hq⟩ := rm_law00 l s _ hw tables_1 i0 i1 x_Truth_FALSE x_Truth_UNKNOWN x_Truth_TRUE s.heap s.heap.size (Nat.le_refl _) hci hcj S_Truth_FALSE S_Truth_UNKNOWN S_Truth_TRUE (Fld.ne F_x_Truth_FALSE_ordinal F_x_Truth_UNKNOWN_ordinal (by decide)) (Fld.ne F_x_Truth_FALSE_ordinal F_x_Truth_TRUE_ordinal (by decide)) (Fld.ne F_x_Truth_UNKNOWN_ordinal F_x_Truth_TRUE_ordinal (by decide)) E_x_Truth_FALSE E_x_Truth_UNKNOWN E_x_Truth_TRUE p e ha hc hk s m _ below hf ((Spec.applies_iff_loose hf).mp happ).1 ⟨rfl, State.Warmed39.refl s, rfl⟩ trivial
    exact ⟨n, _, h1, h2, h3, hpost _ _ _ _ _ _ ⟨Cond.after_iff.mpr rfl, Cond.after_iff.mpr (eq_i res_at (Term.int_eval (1)) rfl), trivial⟩ ⟨hq.1, hq.2.1, (hq.2.2.sift fun y hy => Or.inr (N y hy)).mono (by decide) (by decide)⟩⟩
  · obtain ⟨n, o, h1, h2, h3, _, L, rfl, ⟨rfl, N⟩, hq⟩ := rm_law01 l s _ hw tables_1 i0 i1 x_Truth_FALSE x_Truth_UNKNOWN x_Truth_TRUE s.heap s.heap.size (Nat.le_refl _) hci hcj S_Truth_FALSE S_Truth_UNKNOWN S_Truth_TRUE (Fld.ne F_x_Truth_FALSE_ordinal F_x_Truth_UNKNOWN_ordinal (by decide)) (Fld.ne F_x_Truth_FALSE_ordinal F_x_Truth_TRUE_ordinal (by decide)) (Fld.ne F_x_Truth_UNKNOWN_ordinal F_x_Truth_TRUE_ordinal (by decide)) E_x_Truth_FALSE E_x_Truth_UNKNOWN E_x_Truth_TRUE p e ha hc hk s m _ below hf ((Spec.applies_iff_loose hf).mp happ).1 ⟨rfl, State.Warmed39.refl s, rfl⟩ trivial
    exact ⟨n, _, h1, h2, h3, hpost _ _ _ _ _ _ ⟨Cond.after_iff.mpr rfl, Cond.after_iff.mpr (eq_i res_at (Term.int_eval (1)) rfl), trivial⟩ ⟨hq.1, hq.2.1, (hq.2.2.sift fun y hy => Or.inr (N y hy)).mono (by decide) (by decide)⟩⟩
  · obtain ⟨n, o, h1, h2, h3, _, L, rfl, ⟨rfl, N⟩, hq⟩ := rm_law02 l s _ hw tables_1 i0 i1 x_Truth_FALSE x_Truth_UNKNOWN x_Truth_TRUE s.heap s.heap.size (Nat.le_refl _) hci hcj S_Truth_FALSE S_Truth_UNKNOWN S_Truth_TRUE (Fld.ne F_x_Truth_FALSE_ordinal F_x_Truth_UNKNOWN_ordinal (by decide)) (Fld.ne F_x_Truth_FALSE_ordinal F_x_Truth_TRUE_ordinal (by decide)) (Fld.ne F_x_Truth_UNKNOWN_ordinal F_x_Truth_TRUE_ordinal (by decide)) E_x_Truth_FALSE E_x_Truth_UNKNOWN E_x_Truth_TRUE p e ha hc hk s m _ below hf ((Spec.applies_iff_loose hf).mp happ).1 ⟨rfl, State.Warmed39.refl s, rfl⟩ trivial
    exact ⟨n, _, h1, h2, h3, hpost _ _ _ _ _ _ ⟨Cond.after_iff.mpr rfl, Cond.after_iff.mpr (eq_i res_at (Term.int_eval (1)) rfl), trivial⟩ ⟨hq.1, hq.2.1, (hq.2.2.sift fun y hy => Or.inr (N y hy)).mono (by decide) (by decide)⟩⟩
  · obtain ⟨n, o, h1, h2, h3, _, L, rfl, ⟨rfl, N⟩, hq⟩ := rm_law10 l s _ hw tables_1 i0 i1 x_Truth_FALSE x_Truth_UNKNOWN x_Truth_TRUE s.heap s.heap.size (Nat.le_refl _) hci hcj S_Truth_FALSE S_Truth_UNKNOWN S_Truth_TRUE (Fld.ne F_x_Truth_FALSE_ordinal F_x_Truth_UNKNOWN_ordinal (by decide)) (Fld.ne F_x_Truth_FALSE_ordinal F_x_Truth_TRUE_ordinal (by decide)) (Fld.ne F_x_Truth_UNKNOWN_ordinal F_x_Truth_TRUE_ordinal (by decide)) E_x_Truth_FALSE E_x_Truth_UNKNOWN E_x_Truth_TRUE p e ha hc hk s m _ below hf ((Spec.applies_iff_loose hf).mp happ).1 ⟨rfl, State.Warmed39.refl s, rfl⟩ trivial
    exact ⟨n, _, h1, h2, h3, hpost _ _ _ _ _ _ ⟨Cond.after_iff.mpr rfl, Cond.after_iff.mpr (eq_i res_at (Term.int_eval (1)) rfl), trivial⟩ ⟨hq.1, hq.2.1, (hq.2.2.sift fun y hy => Or.inr (N y hy)).mono (by decide) (by decide)⟩⟩
  · obtain ⟨n, o, h1, h2, h3, _, L, rfl, ⟨rfl, N⟩, hq⟩ := rm_law11 l s _ hw tables_1 i0 i1 x_Truth_FALSE x_Truth_UNKNOWN x_Truth_TRUE s.heap s.heap.size (Nat.le_refl _) hci hcj S_Truth_FALSE S_Truth_UNKNOWN S_Truth_TRUE (Fld.ne F_x_Truth_FALSE_ordinal F_x_Truth_UNKNOWN_ordinal (by decide)) (Fld.ne F_x_Truth_FALSE_ordinal F_x_Truth_TRUE_ordinal (by decide)) (Fld.ne F_x_Truth_UNKNOWN_ordinal F_x_Truth_TRUE_ordinal (by decide)) E_x_Truth_FALSE E_x_Truth_UNKNOWN E_x_Truth_TRUE p e ha hc hk s m _ below hf ((Spec.applies_iff_loose hf).mp happ).1 ⟨rfl, State.Warmed39.refl s, rfl⟩ trivial
    exact ⟨n, _, h1, h2, h3, hpost _ _ _ _ _ _ ⟨Cond.after_iff.mpr rfl, Cond.after_iff.mpr (eq_i res_at (Term.int_eval (1)) rfl), trivial⟩ ⟨hq.1, hq.2.1, (hq.2.2.sift fun y hy => Or.inr (N y hy)).mono (by decide) (by decide)⟩⟩
  · obtain ⟨n, o, h1, h2, h3, _, L, rfl, ⟨rfl, N⟩, hq⟩ := rm_law12 l s _ hw tables_1 i0 i1 x_Truth_FALSE x_Truth_UNKNOWN x_Truth_TRUE s.heap s.heap.size (Nat.le_refl _) hci hcj S_Truth_FALSE S_Truth_UNKNOWN S_Truth_TRUE (Fld.ne F_x_Truth_FALSE_ordinal F_x_Truth_UNKNOWN_ordinal (by decide)) (Fld.ne F_x_Truth_FALSE_ordinal F_x_Truth_TRUE_ordinal (by decide)) (Fld.ne F_x_Truth_UNKNOWN_ordinal F_x_Truth_TRUE_ordinal (by decide)) E_x_Truth_FALSE E_x_Truth_UNKNOWN E_x_Truth_TRUE p e ha hc hk s m _ below hf ((Spec.applies_iff_loose hf).mp happ).1 ⟨rfl, State.Warmed39.refl s, rfl⟩ trivial
    exact ⟨n, _, h1, h2, h3, hpost _ _ _ _ _ _ ⟨Cond.after_iff.mpr rfl, Cond.after_iff.mpr (eq_i res_at (Term.int_eval (1)) rfl), trivial⟩ ⟨hq.1, hq.2.1, (hq.2.2.sift fun y hy => Or.inr (N y hy)).mono (by decide) (by decide)⟩⟩
  · obtain ⟨n, o, h1, h2, h3, _, L, rfl, ⟨rfl, N⟩, hq⟩ := rm_law20 l s _ hw tables_1 i0 i1 x_Truth_FALSE x_Truth_UNKNOWN x_Truth_TRUE s.heap s.heap.size (Nat.le_refl _) hci hcj S_Truth_FALSE S_Truth_UNKNOWN S_Truth_TRUE (Fld.ne F_x_Truth_FALSE_ordinal F_x_Truth_UNKNOWN_ordinal (by decide)) (Fld.ne F_x_Truth_FALSE_ordinal F_x_Truth_TRUE_ordinal (by decide)) (Fld.ne F_x_Truth_UNKNOWN_ordinal F_x_Truth_TRUE_ordinal (by decide)) E_x_Truth_FALSE E_x_Truth_UNKNOWN E_x_Truth_TRUE p e ha hc hk s m _ below hf ((Spec.applies_iff_loose hf).mp happ).1 ⟨rfl, State.Warmed39.refl s, rfl⟩ trivial
    exact ⟨n, _, h1, h2, h3, hpost _ _ _ _ _ _ ⟨Cond.after_iff.mpr rfl, Cond.after_iff.mpr (eq_i res_at (Term.int_eval (1)) rfl), trivial⟩ ⟨hq.1, hq.2.1, (hq.2.2.sift fun y hy => Or.inr (N y hy)).mono (by decide) (by decide)⟩⟩
  · obtain ⟨n, o, h1, h2, h3, _, L, rfl, ⟨rfl, N⟩, hq⟩ := rm_law21 l s _ hw tables_1 i0 i1 x_Truth_FALSE x_Truth_UNKNOWN x_Truth_TRUE s.heap s.heap.size (Nat.le_refl _) hci hcj S_Truth_FALSE S_Truth_UNKNOWN S_Truth_TRUE (Fld.ne F_x_Truth_FALSE_ordinal F_x_Truth_UNKNOWN_ordinal (by decide)) (Fld.ne F_x_Truth_FALSE_ordinal F_x_Truth_TRUE_ordinal (by decide)) (Fld.ne F_x_Truth_UNKNOWN_ordinal F_x_Truth_TRUE_ordinal (by decide)) E_x_Truth_FALSE E_x_Truth_UNKNOWN E_x_Truth_TRUE p e ha hc hk s m _ below hf ((Spec.applies_iff_loose hf).mp happ).1 ⟨rfl, State.Warmed39.refl s, rfl⟩ trivial
    exact ⟨n, _, h1, h2, h3, hpost _ _ _ _ _ _ ⟨Cond.after_iff.mpr rfl, Cond.after_iff.mpr (eq_i res_at (Term.int_eval (1)) rfl), trivial⟩ ⟨hq.1, hq.2.1, (hq.2.2.sift fun y hy => Or.inr (N y hy)).mono (by decide) (by decide)⟩⟩
  · obtain ⟨n, o, h1, h2, h3, _, L, rfl, ⟨rfl, N⟩, hq⟩ := rm_law22 l s _ hw tables_1 i0 i1 x_Truth_FALSE x_Truth_UNKNOWN x_Truth_TRUE s.heap s.heap.size (Nat.le_refl _) hci hcj S_Truth_FALSE S_Truth_UNKNOWN S_Truth_TRUE (Fld.ne F_x_Truth_FALSE_ordinal F_x_Truth_UNKNOWN_ordinal (by decide)) (Fld.ne F_x_Truth_FALSE_ordinal F_x_Truth_TRUE_ordinal (by decide)) (Fld.ne F_x_Truth_UNKNOWN_ordinal F_x_Truth_TRUE_ordinal (by decide)) E_x_Truth_FALSE E_x_Truth_UNKNOWN E_x_Truth_TRUE p e ha hc hk s m _ below hf ((Spec.applies_iff_loose hf).mp happ).1 ⟨rfl, State.Warmed39.refl s, rfl⟩ trivial
    exact ⟨n, _, h1, h2, h3, hpost _ _ _ _ _ _ ⟨Cond.after_iff.mpr rfl, Cond.after_iff.mpr (eq_i res_at (Term.int_eval (1)) rfl), trivial⟩ ⟨hq.1, hq.2.1, (hq.2.2.sift fun y hy => Or.inr (N y hy)).mono (by decide) (by decide)⟩⟩
theorem main_1_1 : Claimed_1_1 := comes_1 fun _ _ _ _ _ _ h hF => ⟨h.1, hF⟩
theorem main_1_2 : Claimed_1_2 := comes_1 fun _ _ _ _ _ _ h hF => ⟨h.2.1, hF⟩
end Jvm.Pilot.@@N@@
namespace Jvm.Pilot.@@N@@
open Jvm Jvm.ClassFile Sem Op Lib Jvm.Free Jvm.Stand Jvm.Pilot.@@N@@.Jvm.D
/-! MADE BY PROGRAM (witnessworld.py) out of the Statement's table words and the real class files: 13 classes; the members and pool entries that the words name. The judged class is class 1, her method 3. -/
namespace start1
open Jvm.ClassFile
def u (s : String) : CpInfo := .utf8 (stringToUtf16 s)
/-- a pool by its gaps: so many unusable entries, then the entry; so many at the end -/
def gap : Nat → List CpInfo → List CpInfo
  | 0, r => r
  | n + 1, r => .unusable :: gap n r
def poolList (es : List (Nat × CpInfo)) (last : Nat) : List CpInfo := es.foldr (fun e r => gap e.1 (e.2 :: r)) (gap last [])
def pool (es : List (Nat × CpInfo)) (last : Nat) : Array CpInfo := ⟨poolList es last⟩
def fileOf (pool : Array CpInfo) (this : Nat) (attrs : Array Attribute := #[]) (ms : Array MethodInfo := #[]) (fl : Nat := 33) (sup : Nat := 0) (ifs : Array Nat := #[]) (fds : Array FieldInfo := #[]) : ClassFile where
  minorVersion := 0
  majorVersion := 65
  constantPool := pool
  accessFlags := fl
  thisClass := this
  superClass := sup
  interfaces := ifs
  fields := fds
  methods := ms
  attributes := attrs
def plain (name : String) (sup : Option ClassId) : Class where
  name := name
  kind := .ordinary
  loader := none
  accessFlags := 33
  super := sup
  interfaces := #[]
  cf := none
  fields := #[]
  methods := #[]
  instanceTypes := #[]
  staticTypes := #[]
  resolved := #[]
  callSites := []
  init := .initialized
  statics := none
  mirror := none

def pool0 : Array CpInfo := pool [(5, u "<init>"), (0, u "()V"), (1, .class_ 10), (1, u "java/lang/Object")] 113

def k0m0 : Method := { name := "<init>", desc := "()V", sig := { parameters := [], returnType := none }, accessFlags := 1, code := none }
/-- java/lang/Object -/
def k0 : Class := { plain "java/lang/Object" none with
  accessFlags := 33
  interfaces := #[]
  cf := some (fileOf pool0 8 #[] #[{ accessFlags := 1, nameIndex := 5, descriptorIndex := 6, attributes := #[] }] 33 0 #[] #[])
  fields := #[]
  methods := #[k0m0]
  instanceTypes := #[]
  staticTypes := #[]
  resolved := Array.replicate 124 none
  statics := none }

def pool1 : Array CpInfo := pool [(2, .class_ 4), (1, u "java/lang/Object"), (0, u "<init>"), (0, u "()V"), (0, .fieldref 8 9), (0, .class_ 10), (0, .nameAndType 11 12), (0, u "com/example/querent/querent/engine/Truth"), (0, u "FALSE"), (0, u "Lcom/example/querent/querent/engine/Truth;"), (0, .fieldref 8 14), (0, .nameAndType 15 12), (0, u "UNKNOWN"), (0, .fieldref 8 17), (0, .nameAndType 18 12), (0, u "TRUE"), (0, .integer 2147483647), (0, .methodref 21 22), (0, .class_ 23), (0, .nameAndType 24 25), (0, u "com/example/querent/querent/engine/TruthAndPinLaw"), (0, u "pick"), (0, u "(I)Lcom/example/querent/querent/engine/Truth;"), (0, .methodref 8 27), (0, .nameAndType 28 29), (0, u "and"), (0, u "(Lcom/example/querent/querent/engine/Truth;)Lcom/example/querent/querent/engine/Truth;"), (0, .methodref 21 31), (0, .nameAndType 32 33), (0, u "rank"), (0, u "(Lcom/example/querent/querent/engine/Truth;)I"), (0, .methodref 35 36), (0, .class_ 37), (0, .nameAndType 38 39), (0, u "java/lang/Math"), (0, u "min"), (0, u "(II)I"), (3, u "law"), (0, u "(II)Z")] 2

def k1m0 : Method := { name := "<init>", desc := "()V", sig := { parameters := [], returnType := none }, accessFlags := 1, code := none }
def k1c1 : Code := { maxStack := 2, maxLocals := 1, code := method_2_code, exceptionTable := #[], attributes := #[] }
def k1m1 : Method := { name := "pick", desc := "(I)Lcom/example/querent/querent/engine/Truth;", sig := { parameters := [.int], returnType := some (.object "com/example/querent/querent/engine/Truth") }, accessFlags := 10, code := some k1c1 }
def k1c2 : Code := { maxStack := 2, maxLocals := 1, code := method_3_code, exceptionTable := #[], attributes := #[] }
def k1m2 : Method := { name := "rank", desc := "(Lcom/example/querent/querent/engine/Truth;)I", sig := { parameters := [(.object "com/example/querent/querent/engine/Truth")], returnType := some .int }, accessFlags := 10, code := some k1c2 }
def k1c3 : Code := { maxStack := 3, maxLocals := 7, code := code, exceptionTable := #[], attributes := #[] }
def k1m3 : Method := { name := "law", desc := "(II)Z", sig := { parameters := [.int, .int], returnType := some .boolean }, accessFlags := 9, code := some k1c3 }
/-- com/example/querent/querent/engine/TruthAndPinLaw -/
def k1 : Class := { plain "com/example/querent/querent/engine/TruthAndPinLaw" (some 0) with
  accessFlags := 49
  interfaces := #[]
  cf := some (fileOf pool1 21 #[] #[{ accessFlags := 1, nameIndex := 5, descriptorIndex := 6, attributes := #[] }, { accessFlags := 10, nameIndex := 24, descriptorIndex := 25, attributes := #[] }, { accessFlags := 10, nameIndex := 32, descriptorIndex := 33, attributes := #[] }, { accessFlags := 9, nameIndex := 43, descriptorIndex := 44, attributes := #[] }] 49 2 #[] #[])
  fields := #[]
  methods := #[k1m0, k1m1, k1m2, k1m3]
  instanceTypes := #[]
  staticTypes := #[]
  resolved := Array.replicate 47 none
  statics := none }

def pool2 : Array CpInfo := pool [(1, .class_ 2), (0, u "java/lang/constant/Constable"), (0, .class_ 4), (0, u "java/lang/Object")] 6

/-- java/lang/constant/Constable -/
def k2 : Class := { plain "java/lang/constant/Constable" (some 0) with
  accessFlags := 1537
  interfaces := #[]
  cf := some (fileOf pool2 1 #[] #[] 1537 3 #[] #[])
  fields := #[]
  methods := #[]
  instanceTypes := #[]
  staticTypes := #[]
  resolved := Array.replicate 11 none
  statics := none }

def pool3 : Array CpInfo := pool [(1, .class_ 2), (0, u "java/lang/Comparable"), (0, .class_ 4), (0, u "java/lang/Object")] 7

/-- java/lang/Comparable -/
def k3 : Class := { plain "java/lang/Comparable" (some 0) with
  accessFlags := 1537
  interfaces := #[]
  cf := some (fileOf pool3 1 #[] #[] 1537 3 #[] #[])
  fields := #[]
  methods := #[]
  instanceTypes := #[]
  staticTypes := #[]
  resolved := Array.replicate 12 none
  statics := none }

def pool4 : Array CpInfo := pool [(1, .class_ 2), (0, u "java/io/Serializable"), (0, .class_ 4), (0, u "java/lang/Object")] 2

/-- java/io/Serializable -/
def k4 : Class := { plain "java/io/Serializable" (some 0) with
  accessFlags := 1537
  interfaces := #[]
  cf := some (fileOf pool4 1 #[] #[] 1537 3 #[] #[])
  fields := #[]
  methods := #[]
  instanceTypes := #[]
  staticTypes := #[]
  resolved := Array.replicate 7 none
  statics := none }

def pool5 : Array CpInfo := pool [(2, .class_ 4), (1, u "java/lang/Enum"), (0, u "name"), (0, u "Ljava/lang/String;"), (2, u "ordinal"), (0, u "I"), (1, .class_ 14), (1, u "java/lang/Object"), (4, u "hash"), (86, .class_ 108), (1, u "java/lang/Enum$EnumDesc"), (2, .class_ 112), (0, u "java/lang/constant/Constable"), (0, .class_ 114), (0, u "java/lang/Comparable"), (0, .class_ 116), (0, u "java/io/Serializable")] 87

/-- java/lang/Enum -/
def k5 : Class := { plain "java/lang/Enum" (some 0) with
  accessFlags := 1057
  interfaces := #[2, 3, 4]
  cf := some (fileOf pool5 2 #[.nestMembers #[106]] #[] 1057 12 #[111, 113, 115] #[{ accessFlags := 18, nameIndex := 5, descriptorIndex := 6, attributes := #[] }, { accessFlags := 18, nameIndex := 9, descriptorIndex := 10, attributes := #[] }, { accessFlags := 2, nameIndex := 19, descriptorIndex := 10, attributes := #[] }])
  fields := #[{ name := "name", type := (.object "java/lang/String"), accessFlags := 18, slot := 0, constantValue := 0 }, { name := "ordinal", type := .int, accessFlags := 18, slot := 1, constantValue := 0 }, { name := "hash", type := .int, accessFlags := 2, slot := 2, constantValue := 0 }]
  methods := #[]
  instanceTypes := #[(.object "java/lang/String"), .int, .int]
  staticTypes := #[]
  resolved := Array.replicate 204 none
  statics := none }

def pool6 : Array CpInfo := pool [(1, .class_ 2), (0, u "com/example/querent/querent/engine/Truth"), (0, .fieldref 1 4), (0, .nameAndType 5 6), (0, u "TRUE"), (0, u "Lcom/example/querent/querent/engine/Truth;"), (0, .fieldref 1 8), (0, .nameAndType 9 6), (0, u "FALSE"), (0, .fieldref 1 11), (0, .nameAndType 12 6), (0, u "UNKNOWN"), (2, u "$VALUES"), (0, u "[Lcom/example/querent/querent/engine/Truth;"), (6, .class_ 25), (1, u "java/lang/Enum"), (33, u "and"), (0, u "(Lcom/example/querent/querent/engine/Truth;)Lcom/example/querent/querent/engine/Truth;")] 7

def k6c0 : Code := { maxStack := 2, maxLocals := 2, code := prog_66_method_5_code, exceptionTable := #[], attributes := #[] }
def k6m0 : Method := { name := "and", desc := "(Lcom/example/querent/querent/engine/Truth;)Lcom/example/querent/querent/engine/Truth;", sig := { parameters := [(.object "com/example/querent/querent/engine/Truth")], returnType := some (.object "com/example/querent/querent/engine/Truth") }, accessFlags := 0, code := some k6c0 }
/-- com/example/querent/querent/engine/Truth -/
def k6 : Class := { plain "com/example/querent/querent/engine/Truth" (some 5) with
  accessFlags := 16432
  interfaces := #[]
  cf := some (fileOf pool6 1 #[] #[{ accessFlags := 0, nameIndex := 59, descriptorIndex := 60, attributes := #[] }] 16432 23 #[] #[{ accessFlags := 16409, nameIndex := 5, descriptorIndex := 6, attributes := #[] }, { accessFlags := 16409, nameIndex := 9, descriptorIndex := 6, attributes := #[] }, { accessFlags := 16409, nameIndex := 12, descriptorIndex := 6, attributes := #[] }, { accessFlags := 4122, nameIndex := 15, descriptorIndex := 16, attributes := #[] }])
  fields := #[{ name := "TRUE", type := (.object "com/example/querent/querent/engine/Truth"), accessFlags := 16409, slot := 0, constantValue := 0 }, { name := "FALSE", type := (.object "com/example/querent/querent/engine/Truth"), accessFlags := 16409, slot := 1, constantValue := 0 }, { name := "UNKNOWN", type := (.object "com/example/querent/querent/engine/Truth"), accessFlags := 16409, slot := 2, constantValue := 0 }, { name := "$VALUES", type := (.array (.object "com/example/querent/querent/engine/Truth")), accessFlags := 4122, slot := 3, constantValue := 0 }]
  methods := #[k6m0]
  instanceTypes := #[(.object "java/lang/String"), .int, .int]
  staticTypes := #[(.object "com/example/querent/querent/engine/Truth"), (.object "com/example/querent/querent/engine/Truth"), (.object "com/example/querent/querent/engine/Truth"), (.array (.object "com/example/querent/querent/engine/Truth"))]
  resolved := Array.replicate 68 none
  statics := some 0 }

def pool7 : Array CpInfo := pool [(1, .class_ 2), (0, u "java/lang/Math"), (1, .class_ 6), (1, u "java/lang/Object"), (0, u "<init>"), (0, u "()V"), (89, .class_ 100), (1, u "java/lang/Math$RandomNumberGeneratorHolder"), (71, u "negativeZeroFloatBits"), (0, u "J"), (2, u "negativeZeroDoubleBits"), (24, u "min"), (43, u "$assertionsDisabled"), (0, u "Z"), (88, u "(II)I"), (2, u "twoToTheDoubleScaleDown"), (0, u "D"), (4, u "twoToTheDoubleScaleUp"), (9, u "E"), (3, u "PI"), (2, u "TAU"), (2, u "DEGREES_TO_RADIANS"), (0, u "RADIANS_TO_DEGREES")] 94

def k7m0 : Method := { name := "<init>", desc := "()V", sig := { parameters := [], returnType := none }, accessFlags := 2, code := none }
def k7c1 : Code := { maxStack := 2, maxLocals := 2, code := jdk_29_method_69_code, exceptionTable := #[], attributes := #[] }
def k7m1 : Method := { name := "min", desc := "(II)I", sig := { parameters := [.int, .int], returnType := some .int }, accessFlags := 9, code := some k7c1 }
/-- java/lang/Math -/
def k7 : Class := { plain "java/lang/Math" (some 0) with
  accessFlags := 49
  interfaces := #[]
  cf := some (fileOf pool7 1 #[.nestMembers #[98]] #[{ accessFlags := 2, nameIndex := 7, descriptorIndex := 8, attributes := #[] }, { accessFlags := 9, nameIndex := 201, descriptorIndex := 335, attributes := #[] }] 49 4 #[] #[{ accessFlags := 25, nameIndex := 354, descriptorIndex := 339, attributes := #[] }, { accessFlags := 25, nameIndex := 358, descriptorIndex := 339, attributes := #[] }, { accessFlags := 25, nameIndex := 361, descriptorIndex := 339, attributes := #[] }, { accessFlags := 26, nameIndex := 364, descriptorIndex := 339, attributes := #[] }, { accessFlags := 26, nameIndex := 365, descriptorIndex := 339, attributes := #[] }, { accessFlags := 26, nameIndex := 172, descriptorIndex := 173, attributes := #[] }, { accessFlags := 26, nameIndex := 176, descriptorIndex := 173, attributes := #[] }, { accessFlags := 8, nameIndex := 344, descriptorIndex := 339, attributes := #[] }, { accessFlags := 8, nameIndex := 338, descriptorIndex := 339, attributes := #[] }, { accessFlags := 4120, nameIndex := 245, descriptorIndex := 246, attributes := #[] }])
  fields := #[{ name := "E", type := .double, accessFlags := 25, slot := 0, constantValue := 0 }, { name := "PI", type := .double, accessFlags := 25, slot := 1, constantValue := 0 }, { name := "TAU", type := .double, accessFlags := 25, slot := 2, constantValue := 0 }, { name := "DEGREES_TO_RADIANS", type := .double, accessFlags := 26, slot := 3, constantValue := 0 }, { name := "RADIANS_TO_DEGREES", type := .double, accessFlags := 26, slot := 4, constantValue := 0 }, { name := "negativeZeroFloatBits", type := .long, accessFlags := 26, slot := 5, constantValue := 0 }, { name := "negativeZeroDoubleBits", type := .long, accessFlags := 26, slot := 6, constantValue := 0 }, { name := "twoToTheDoubleScaleUp", type := .double, accessFlags := 8, slot := 7, constantValue := 0 }, { name := "twoToTheDoubleScaleDown", type := .double, accessFlags := 8, slot := 8, constantValue := 0 }, { name := "$assertionsDisabled", type := .boolean, accessFlags := 4120, slot := 9, constantValue := 0 }]
  methods := #[k7m0, k7m1]
  instanceTypes := #[]
  staticTypes := #[.double, .double, .double, .double, .double, .long, .long, .double, .double, .boolean]
  resolved := Array.replicate 460 none
  statics := none }

def pool8 : Array CpInfo := pool [(1, u "java/lang/Cloneable"), (0, .class_ 1), (0, u "java/lang/Object"), (0, .class_ 3)] 3

/-- java/lang/Cloneable -/
def k8 : Class := { plain "java/lang/Cloneable" (some 0) with
  accessFlags := 1537
  interfaces := #[]
  cf := some (fileOf pool8 2 #[] #[] 1537 4 #[] #[])
  fields := #[]
  methods := #[]
  instanceTypes := #[]
  staticTypes := #[]
  resolved := Array.replicate 8 none
  statics := none }

/-- the primitive byte -/
def k9 : Class := { plain "byte" none with kind := .primitive 'B', accessFlags := 0x411 }
/-- [B -/
def k10 : Class := { plain "[B" (some 0) with kind := .array 9 .byte, interfaces := #[8, 4], accessFlags := 1041 }

/-- the primitive int -/
def k11 : Class := { plain "int" none with kind := .primitive 'I', accessFlags := 0x411 }
/-- [I -/
def k12 : Class := { plain "[I" (some 0) with kind := .array 11 .int, interfaces := #[8, 4], accessFlags := 1041 }

def heap : Heap := #[{ cls := 6, slots := #[.ref 2, .ref 1, .ref 3, .null], vm := .statics 6 },
  { cls := 6, slots := #[.null, .int 1, .int 0], vm := .none },
  { cls := 6, slots := #[.null, .int 0, .int 0], vm := .none },
  { cls := 6, slots := #[.null, .int 2, .int 0], vm := .none }]
def classes : Array Class := #[k0, k1, k2, k3, k4, k5, k6, k7, k8, k9, k10, k11, k12]
def interned : List (Array UInt16 × Addr) := []
def slotsUsed : Nat := 13
def theMethod : MethodId := ⟨1, 3⟩
def args0 : Array Value := #[.int 1, .int 2]
def aboutOver (below : List Frame) : State where
  vm := { classes := classes, interned := interned.toArray }
  heap := heap
  slotsUsed := slotsUsed
  threads := #[{ frames := .invoking theMethod args0 :: below }]
def below0 : List Frame := [.native { method := ⟨0, 0⟩, args := #[] }]
def about1 : State := aboutOver below0
def p0 : Program := .bare "" "" ""
def e0 : Env := launch0.env 0 0 0
theorem w_frames : about1.frames = Frame.invoking theMethod args0 :: below0 := rfl
set_option maxRecDepth 65536 in
theorem w_args : argsFit about1.vm theMethod args0 = true := by decide +kernel
set_option maxRecDepth 65536 in
theorem w_heap : heapFits about1 = true := by decide +kernel
set_option maxRecDepth 65536 in
theorem w_runnable : about1.curStatus? = some .runnable := by decide +kernel
set_option maxRecDepth 65536 in
theorem w_alone : about1.alone = true := by decide +kernel
set_option maxRecDepth 65536 in
theorem w_named : about1.methodNamed? x = some theMethod := by decide +kernel
set_option maxRecDepth 65536 in
theorem w_hears : about1.hears theMethod below0 = true := by decide +kernel
set_option maxRecDepth 65536 in
theorem w_ripe : about1.ripe theMethod args0 below0 = true := by decide +kernel
theorem w_running : about1.status = .running := rfl
set_option maxRecDepth 65536 in
theorem w_room : about1.hasRoom e0.platform room_1 = true :=
  launch0.hasRoom_least _ room_1 (by decide +kernel) (by decide +kernel) (by decide +kernel) (by decide +kernel) (by decide +kernel) (by decide +kernel)
theorem allAtoms_all (ts : List Jvm.Cond) (a : Array Jvm.Value) (st : Jvm.State) : (allAtoms ts).before a st = ts.all (fun c => c.before a st) := by
  induction ts with
  | nil => rfl
  | cons c t ih =>
    show (Jvm.Cond.and c (allAtoms t)).before a st = _
    rw [Jvm.Cond.before_and, ih, List.all_cons]
def words1 : List Jvm.Cond := Jvm.Cond.code x code maxLocals ret :: tables_1
/-- a 'code' word, met by the world's own term for the bytes: nothing is compared byte by byte -/
theorem code_word {y : MethodName} {bytes : ByteArray} {mx : Nat} {rt : Option FieldType} {a : Array Value} {s : State} {m : MethodId} {meth : Method} {c : Code} (h1 : s.methodNamed? y = some m) (h2 : s.vm.method? m = some meth) (h3 : meth.code = some c) (h4 : c.code = bytes)
    (h5 : (c.maxLocals == mx && c.exceptionTable.isEmpty && decide (c.maxStack ≤ mostOperands) && decide (meth.sig.returnType = rt) && !meth.locks && decide (parseMethodDescriptor y.desc = some meth.sig)) = true) : (Jvm.Cond.code y bytes mx rt).before a s = true := by
  simp only [Bool.and_eq_true, beq_iff_eq, Bool.not_eq_true', decide_eq_true_eq] at h5
  obtain ⟨⟨⟨⟨⟨g1, g2⟩, g3⟩, g4⟩, g5⟩, g6⟩ := h5
  simp [Cond.before, Cond.holds, Cond.value, h1, h2, h3, h4, g1, g2, g3, g4, g5, g6]
def isCode : Jvm.Cond → Bool
  | .code _ _ _ _ => true
  | _ => false
theorem all_split {L : List Jvm.Cond} {P : Jvm.Cond → Bool} (h1 : L.all (fun c => isCode c || P c) = true) (h2 : ∀ c ∈ L.filter isCode, P c = true) : L.all P = true := by
  refine List.all_eq_true.mpr fun c hc => ?_
  have h := List.all_eq_true.mp h1 c hc
  rcases Bool.eq_false_or_eq_true (isCode c) with hi | hi
  · exact h2 c (List.mem_filter.mpr ⟨hc, hi⟩)
  · simpa [hi] using h
set_option maxRecDepth 65536 in
theorem w_c0 : (Jvm.Cond.code x code maxLocals ret).before args0 about1 = true := code_word (m := ⟨1, 3⟩) (meth := k1m3) (c := k1c3) (by decide +kernel) rfl rfl rfl (by decide +kernel)
set_option maxRecDepth 65536 in
theorem w_c1 : (Jvm.Cond.code ({ cls := "com/example/querent/querent/engine/TruthAndPinLaw", name := "pick", desc := "(I)Lcom/example/querent/querent/engine/Truth;" } : Jvm.MethodName) method_2_code (1 : Nat) (Option.some (Jvm.ClassFile.FieldType.object "com/example/querent/querent/engine/Truth"))).before args0 about1 = true := code_word (m := ⟨1, 1⟩) (meth := k1m1) (c := k1c1) (by decide +kernel) rfl rfl rfl (by decide +kernel)
set_option maxRecDepth 65536 in
theorem w_c2 : (Jvm.Cond.code ({ cls := "com/example/querent/querent/engine/Truth", name := "and", desc := "(Lcom/example/querent/querent/engine/Truth;)Lcom/example/querent/querent/engine/Truth;" } : Jvm.MethodName) prog_66_method_5_code (2 : Nat) (Option.some (Jvm.ClassFile.FieldType.object "com/example/querent/querent/engine/Truth"))).before args0 about1 = true := code_word (m := ⟨6, 0⟩) (meth := k6m0) (c := k6c0) (by decide +kernel) rfl rfl rfl (by decide +kernel)
set_option maxRecDepth 65536 in
theorem w_c3 : (Jvm.Cond.code ({ cls := "com/example/querent/querent/engine/TruthAndPinLaw", name := "rank", desc := "(Lcom/example/querent/querent/engine/Truth;)I" } : Jvm.MethodName) method_3_code (1 : Nat) (Option.some Jvm.ClassFile.FieldType.int)).before args0 about1 = true := code_word (m := ⟨1, 2⟩) (meth := k1m2) (c := k1c2) (by decide +kernel) rfl rfl rfl (by decide +kernel)
set_option maxRecDepth 65536 in
theorem w_c4 : (Jvm.Cond.code ({ cls := "java/lang/Math", name := "min", desc := "(II)I" } : Jvm.MethodName) jdk_29_method_69_code (2 : Nat) (Option.some Jvm.ClassFile.FieldType.int)).before args0 about1 = true := code_word (m := ⟨7, 1⟩) (meth := k7m1) (c := k7c1) (by decide +kernel) rfl rfl rfl (by decide +kernel)
def codes1 : List Jvm.Cond := [Jvm.Cond.code x code maxLocals ret, Jvm.Cond.code ({ cls := "com/example/querent/querent/engine/TruthAndPinLaw", name := "pick", desc := "(I)Lcom/example/querent/querent/engine/Truth;" } : Jvm.MethodName) method_2_code (1 : Nat) (Option.some (Jvm.ClassFile.FieldType.object "com/example/querent/querent/engine/Truth")), Jvm.Cond.code ({ cls := "com/example/querent/querent/engine/Truth", name := "and", desc := "(Lcom/example/querent/querent/engine/Truth;)Lcom/example/querent/querent/engine/Truth;" } : Jvm.MethodName) prog_66_method_5_code (2 : Nat) (Option.some (Jvm.ClassFile.FieldType.object "com/example/querent/querent/engine/Truth")), Jvm.Cond.code ({ cls := "com/example/querent/querent/engine/TruthAndPinLaw", name := "rank", desc := "(Lcom/example/querent/querent/engine/Truth;)I" } : Jvm.MethodName) method_3_code (1 : Nat) (Option.some Jvm.ClassFile.FieldType.int), Jvm.Cond.code ({ cls := "java/lang/Math", name := "min", desc := "(II)I" } : Jvm.MethodName) jdk_29_method_69_code (2 : Nat) (Option.some Jvm.ClassFile.FieldType.int)]
set_option maxRecDepth 65536 in
theorem codes_eq : words1.filter isCode = codes1 := rfl
theorem w_codes : ∀ c ∈ words1.filter isCode, c.before args0 about1 = true := by
  rw [codes_eq]
  intro c hc
  simp only [codes1, List.mem_cons, List.not_mem_nil, or_false] at hc
  rcases hc with rfl | rfl | rfl | rfl | rfl
  · exact w_c0
  · exact w_c1
  · exact w_c2
  · exact w_c3
  · exact w_c4
set_option maxRecDepth 65536 in
theorem w_t1 : (words1.take 24).all (fun c => isCode c || c.before args0 about1) = true := by decide +kernel
set_option maxRecDepth 65536 in
theorem w_t2 : (words1.drop 24).all (fun c => isCode c || c.before args0 about1) = true := by decide +kernel
theorem w_tables : (allAtoms (Jvm.Cond.code x code maxLocals ret :: tables_1)).before args0 about1 = true := by
  rw [allAtoms_all]
  show words1.all (fun c => c.before args0 about1) = true
  refine all_split ?_ w_codes
  rw [← List.take_append_drop 24 words1, List.all_append, w_t1, w_t2]
  rfl
set_option maxRecDepth 65536 in
theorem w_case : (Jvm.Cond.and given_1 narrow_1).before args0 about1 = true := by decide +kernel
theorem w_applies : (headSpec (Jvm.Cond.code x code maxLocals ret :: tables_1) room_1).applies x e0.platform about1 = true :=
  (Spec.applies_iff w_frames).mpr ⟨w_running, w_runnable, w_alone, w_named, w_hears, w_ripe, w_room, w_tables⟩
theorem atStart : AtStart classFile x code maxLocals ret World_1 tables_1 room_1 Calls_1 rest_1 Pre_1 launch0 p0 e0 about1 theMethod args0 below0 :=
  ⟨lists_1, trivial, launch0.admits_env _ _ _, launch0.least_env, fairChoices_fair.cas, fairChoices_fair.clock, w_frames, w_args, w_heap, w_applies, trivial, trivial, w_case⟩
end start1
theorem witness_1 : WitnessClaimed_1 := ⟨start1.p0, start1.e0, start1.about1, start1.theMethod, start1.args0, start1.below0, start1.atStart⟩
end Jvm.Pilot.@@N@@
