import JvmDerived
import JvmDerived.Pilot.@@N@@Statement
import JvmDerived.Pilot.@@N@@Code
set_option linter.unusedVariables false
set_option linter.unusedSimpArgs false
namespace Jvm.RoadKit
open Sem ClassFile Op Lib Jvm.Stand Jvm.Free Jvm.LawKit
section New
variable {p : Program} {l : Launch} {e : Env} {R : Room} {s : State} {m : MethodId} {args : Array Value} {below : List Frame} {meth : Method} {c : Code} {T : State} {locs : List Loc} {cells slots : Nat}
theorem retI (X : Stand p l e R s m args below meth c T locs cells slots) (hx : p.tables.exec = Jvm.exec) {pc : Nat} {Ls : Array Slot} {z : Int32} {rest : List Value} (hret : meth.sig.returnType = some .int) (hd : decode c.code pc = .ok (.ireturn, 1)) {fs : List Frame}
    (hl : ∀ (f : JFrame) (acts : List Action), f.method = m → f.locked = none → f.entered = [] → (doReturn e (T.setTop f) acts (some (.int z))).1 = T.setFrames fs) : Steps p.tables e below (T.setTop (mkF m pc Ls (.int z :: rest))) (T.setFrames fs) := by
  have hm' : T.vm.method? m = some meth := X.method'
  have hn : narrow .int (.int z) = .int z := rfl
  show Steps p.tables e below (T.setTop { method := m, pc := pc, locals := Ls, stack := _ :: rest, locked := none }) _
  jvm_step X.here [X.here.top, hx, hd, hm', hret, hn]
  first | (intro acts; rw [hl _ acts rfl rfl rfl]) | rw [hl _ _ rfl rfl rfl]
  exact Steps.refl _
end New
end Jvm.RoadKit
@@BLOCK:NumsL.lean.txt@@
namespace Jvm.Pilot.@@N@@
open Jvm Jvm.ClassFile Sem Op Lib Jvm.Free Jvm.Stand Jvm.LawKit Jvm.RoadKit Bundle Jvm.Pilot.@@N@@.Jvm.D
theorem own_eqi {args : Array Value} {first s : State} {o : Option Outcome} {idx : List Nat} {t : Term} {k : Int32} (h : (Jvm.Cond.eq t (.int k)).value args first o s idx = some true) : t.eval args first o idx s = some (.int k) := by
  simp only [Cond.value, Term.eval] at h
  cases ht : t.eval args first o idx s with
  | none => simp [ht] at h
  | some x => cases x <;> simp [ht] at h ⊢; exact h
theorem own_eql {args : Array Value} {first s : State} {o : Option Outcome} {idx : List Nat} {t : Term} {k : Int64} (h : (Jvm.Cond.eq t (.long k)).value args first o s idx = some true) : t.eval args first o idx s = some (.long k) := by
  simp only [Cond.value, Term.eval] at h
  cases ht : t.eval args first o idx s with
  | none => simp [ht] at h
  | some x => cases x <;> simp [ht] at h ⊢; exact h
theorem own_eqr {args : Array Value} {first s : State} {o : Option Outcome} {idx : List Nat} {t u : Term} {a : Addr} (hu : u.eval args first o idx s = some (.ref a)) (h : (Jvm.Cond.eq t u).value args first o s idx = some true) : t.eval args first o idx s = some (.ref a) := by
  simp only [Cond.value, hu] at h
  cases ht : t.eval args first o idx s with
  | none => simp [ht] at h
  | some x => cases x <;> simp [ht] at h ⊢; exact h
theorem own_fld {args : Array Value} {s : State} {t : Term} {x : Addr} {C n d : String} {v : Value} (ht : t.eval args s none [] s = some (.ref x)) (h : (Term.field t C n d).eval args s none [] s = some v) : Fld s s.heap x C n d v := Fld.start ((fld_at ht).symm.trans h)
theorem own_exa_ns {Z : State} {h : Heap} {a : Addr} {C : String} (F : Exa Z h a C) : ∀ c : Cell, h[a]? = some c → c.vm.isStatics = false := fun c hc => by
  obtain ⟨cell, k, h1, -, -, h4, -⟩ := F
  cases h1.symm.trans hc
  exact h4
theorem own_sta_keep {Z : State} {h h' : Heap} {C n d : String} {v : Value} {ws : List Addr} (F : Sta Z h C n d v) (K : Keep h h' ws) (hn : ∀ x ∈ ws, ∀ c : Cell, h[x]? = some c → c.vm.isStatics = false) : Sta Z h' C n d v := by
  obtain ⟨cf, i, k, f, st, cell, h1, h2, h3, h4, h5, h6, h7⟩ := F
  refine ⟨cf, i, k, f, st, cell, h1, h2, h3, h4, K.2.1 st cell h5 (fun q => ?_), h6, h7⟩
  rw [hn st q cell h5] at h6
  cases h6
theorem d_prog_18m5_0 : decode prog_18_method_5_code 0 = .ok (.aload_n 0, 1) := by decide +kernel
theorem d_prog_18m5_1 : decode prog_18_method_5_code 1 = .ok (.getfield 40, 3) := by decide +kernel
theorem d_prog_18m5_4 : decode prog_18_method_5_code 4 = .ok (.ifnull 7, 3) := by decide +kernel
theorem d_prog_18m5_7 : decode prog_18_method_5_code 7 = .ok (.iconst 1, 1) := by decide +kernel
theorem d_prog_18m5_8 : decode prog_18_method_5_code 8 = .ok (.goto 4, 3) := by decide +kernel
theorem d_prog_18m5_12 : decode prog_18_method_5_code 12 = .ok (.ireturn, 1) := by decide +kernel
theorem pn_0 : plainName "com/example/casebook/casebook/database/Dialect" = true := by first | (simp [plainName, overriddenIn]; done) | decide +kernel
theorem ef_rd1 (mM : MethodId) (x0 : Addr) : entryFrame mM #[(.ref x0)] 1 = mkF mM 0 #[.val (.ref x0)] [] := by first | (simp [entryFrame, mkF, argsToLocals, Value.category]; done) | rfl
def Q_rd1 (Z : State) (a : Addr) (w : Addr) (h0 : Heap) (n0 : Nat) (v_ : Option Value) (h_ : Heap) (L_ : List Loc) : Prop := v_ = some (.int (1 : Int32)) ∧ Fr n0 L_ ∧ h_ = h0
set_option maxRecDepth 65536 in
set_option maxHeartbeats 40000000 in
theorem rm_rd1 (l : Launch) (Z : State) (a0 : Array Value) (hw : ∀ d ∈ tables_1, d.before a0 Z = true) (ws : List Jvm.Cond) (a : Addr) (w : Addr) (h0 : Heap) (n0 : Nat) (Z0 : n0 ≤ h0.size) (F_columnsQuery_a : Fld Z h0 a "com/example/casebook/casebook/database/Dialect" "columnsQuery" "Ljava/lang/String;" (.ref w)) :
    MetFree l (⟨"com/example/casebook/casebook/database/Dialect", "readsColumnsFromCatalog", "()Z"⟩ : MethodName) (head1 (Jvm.Cond.code (⟨"com/example/casebook/casebook/database/Dialect", "readsColumnsFromCatalog", "()Z"⟩ : MethodName) prog_18_method_5_code 1 (some .boolean) :: ws) ({ frames := 0, cells := 0, slots := 0, locals := 0 } : Room)) (fun aa_ U_ => aa_ = #[(.ref a)] ∧ Z.Warmed39 U_.vm ∧ U_.heap = h0) (fun _ _ _ _ _ => True) (fun _ U_ o_ U'_ => ∃ v_ L_, o_ = .returned v_ ∧ Q_rd1 Z a w h0 n0 v_ U'_.heap L_ ∧ FrameEnd U_ o_ U'_ L_ ({ frames := 0, cells := 0, slots := 0, locals := 0 } : Room).cells ({ frames := 0, cells := 0, slots := 0, locals := 0 } : Room).slots) := by
  refine MetFree.of_bodySF (plainFor_of_name pn_0) hisR ?_
  intro pP eE sS mM argsA below meth cC s₁ Bd hml0 hP hK
  obtain ⟨rfl, hZ, hh⟩ := hP
  have hx := Bd.exec
  have hby := Bd.bytes
  have hml : cC.maxLocals = 1 := hml0
  have hown : sS.vm.findClass "com/example/casebook/casebook/database/Dialect" = some mM.cls := findClass_of_methodNamed Bd.named
  have hnm := (name_of_methodNamed Bd.named Bd.method).1
  have X0 : Stand pP l eE ({ frames := 0, cells := 0, slots := 0, locals := 0 } : Room) sS mM #[(.ref a)] below meth cC s₁ [] 0 0 := Stand.of_body Bd
  have e0 : s₁.heap = h0 := by rw [← hh, Bd.state]; rfl
  have N0 := Fr.nil n0
  have pre0 : ∀ t, Steps pP.tables eE below (s₁.setTop (mkF mM 0 #[.val (.ref a)] [])) t → Steps pP.tables eE below (s₁.setTop (entryFrame mM #[(.ref a)] 1)) t := fun t k => castTop (ef_rd1 mM a) k
  obtain ⟨T_1, X_1, e_1, st_1⟩ := getF X0 hx hZ hown (host := "") (Or.inl (hw _ (List.mem_of_getElem? (i := 9) rfl))) Via.refl e0 F_columnsQuery_a (g := (mkF mM 1 #[.val (.ref a)] [(.ref a)])) rfl rfl (hb hby d_prog_18m5_1)
  obtain ⟨fs, hr, hrun, hended, hW, hsame⟩ := X_1.leave (v := some (.int (1 : Int32))) (fun h => by rw [Bd.returns] at h; cases h)
  refine ⟨_, _, pre0 _ ?_, hrun, hended, _, _, rfl, ?_, ⟨_, rfl⟩, hW, hsame.mono (by decide) (by decide)⟩
  · show Steps pP.tables eE below (s₁.setTop (mkF mM 0 #[.val (.ref a)] [])) _
    refine XS.aloadN X0.here hx rfl (hb hby d_prog_18m5_0) rfl rfl ?_
    show Steps pP.tables eE below (s₁.setTop (mkF mM 1 #[.val (.ref a)] [(.ref a)])) _
    refine st_1 _ ?_
    show Steps pP.tables eE below (T_1.setTop (mkF mM 4 #[.val (.ref a)] [(.ref w)])) _
    refine XS.ifnullNo X_1.here hx rfl (hb hby d_prog_18m5_4) rfl ?_
    show Steps pP.tables eE below (T_1.setTop (mkF mM 7 #[.val (.ref a)] [])) _
    refine XS.iconst X_1.here hx rfl (hb hby d_prog_18m5_7) ?_
    show Steps pP.tables eE below (T_1.setTop (mkF mM 8 #[.val (.ref a)] [(.int (1 : Int32))])) _
    refine XS.goto X_1.here hx rfl (pc0 := 8) (pc' := 12) rfl (hb hby d_prog_18m5_8) (by decide) (by decide) ?_
    show Steps pP.tables eE below (T_1.setTop (mkF mM 12 #[.val (.ref a)] [(.int (1 : Int32))])) _
    exact retN X_1 hx (t := .boolean) Bd.returns (by simp) (hb hby d_prog_18m5_12) hr
  · show Q_rd1 Z a w h0 n0 _ T_1.heap _
    rw [e_1]
    exact ⟨rfl, N0, rfl⟩
theorem d_prog_18m5_11 : decode prog_18_method_5_code 11 = .ok (.iconst 0, 1) := by decide +kernel
theorem ef_rd0 (mM : MethodId) (x0 : Addr) : entryFrame mM #[(.ref x0)] 1 = mkF mM 0 #[.val (.ref x0)] [] := by first | (simp [entryFrame, mkF, argsToLocals, Value.category]; done) | rfl
def Q_rd0 (Z : State) (a : Addr) (h0 : Heap) (n0 : Nat) (v_ : Option Value) (h_ : Heap) (L_ : List Loc) : Prop := v_ = some (.int (0 : Int32)) ∧ Fr n0 L_ ∧ h_ = h0
set_option maxRecDepth 65536 in
set_option maxHeartbeats 40000000 in
theorem rm_rd0 (l : Launch) (Z : State) (a0 : Array Value) (hw : ∀ d ∈ tables_1, d.before a0 Z = true) (ws : List Jvm.Cond) (a : Addr) (h0 : Heap) (n0 : Nat) (Z0 : n0 ≤ h0.size) (F_columnsQuery_a : Fld Z h0 a "com/example/casebook/casebook/database/Dialect" "columnsQuery" "Ljava/lang/String;" .null) :
    MetFree l (⟨"com/example/casebook/casebook/database/Dialect", "readsColumnsFromCatalog", "()Z"⟩ : MethodName) (head1 (Jvm.Cond.code (⟨"com/example/casebook/casebook/database/Dialect", "readsColumnsFromCatalog", "()Z"⟩ : MethodName) prog_18_method_5_code 1 (some .boolean) :: ws) ({ frames := 0, cells := 0, slots := 0, locals := 0 } : Room)) (fun aa_ U_ => aa_ = #[(.ref a)] ∧ Z.Warmed39 U_.vm ∧ U_.heap = h0) (fun _ _ _ _ _ => True) (fun _ U_ o_ U'_ => ∃ v_ L_, o_ = .returned v_ ∧ Q_rd0 Z a h0 n0 v_ U'_.heap L_ ∧ FrameEnd U_ o_ U'_ L_ ({ frames := 0, cells := 0, slots := 0, locals := 0 } : Room).cells ({ frames := 0, cells := 0, slots := 0, locals := 0 } : Room).slots) := by
  refine MetFree.of_bodySF (plainFor_of_name pn_0) hisR ?_
  intro pP eE sS mM argsA below meth cC s₁ Bd hml0 hP hK
  obtain ⟨rfl, hZ, hh⟩ := hP
  have hx := Bd.exec
  have hby := Bd.bytes
  have hml : cC.maxLocals = 1 := hml0
  have hown : sS.vm.findClass "com/example/casebook/casebook/database/Dialect" = some mM.cls := findClass_of_methodNamed Bd.named
  have hnm := (name_of_methodNamed Bd.named Bd.method).1
  have X0 : Stand pP l eE ({ frames := 0, cells := 0, slots := 0, locals := 0 } : Room) sS mM #[(.ref a)] below meth cC s₁ [] 0 0 := Stand.of_body Bd
  have e0 : s₁.heap = h0 := by rw [← hh, Bd.state]; rfl
  have N0 := Fr.nil n0
  have pre0 : ∀ t, Steps pP.tables eE below (s₁.setTop (mkF mM 0 #[.val (.ref a)] [])) t → Steps pP.tables eE below (s₁.setTop (entryFrame mM #[(.ref a)] 1)) t := fun t k => castTop (ef_rd0 mM a) k
  obtain ⟨T_1, X_1, e_1, st_1⟩ := getF X0 hx hZ hown (host := "") (Or.inl (hw _ (List.mem_of_getElem? (i := 9) rfl))) Via.refl e0 F_columnsQuery_a (g := (mkF mM 1 #[.val (.ref a)] [(.ref a)])) rfl rfl (hb hby d_prog_18m5_1)
  obtain ⟨fs, hr, hrun, hended, hW, hsame⟩ := X_1.leave (v := some (.int (0 : Int32))) (fun h => by rw [Bd.returns] at h; cases h)
  refine ⟨_, _, pre0 _ ?_, hrun, hended, _, _, rfl, ?_, ⟨_, rfl⟩, hW, hsame.mono (by decide) (by decide)⟩
  · show Steps pP.tables eE below (s₁.setTop (mkF mM 0 #[.val (.ref a)] [])) _
    refine XS.aloadN X0.here hx rfl (hb hby d_prog_18m5_0) rfl rfl ?_
    show Steps pP.tables eE below (s₁.setTop (mkF mM 1 #[.val (.ref a)] [(.ref a)])) _
    refine st_1 _ ?_
    show Steps pP.tables eE below (T_1.setTop (mkF mM 4 #[.val (.ref a)] [.null])) _
    refine XS.ifnullYes X_1.here hx rfl (pc0 := 4) (pc' := 11) rfl (hb hby d_prog_18m5_4) rfl (by decide) (by decide) ?_
    show Steps pP.tables eE below (T_1.setTop (mkF mM 11 #[.val (.ref a)] [])) _
    refine XS.iconst X_1.here hx rfl (hb hby d_prog_18m5_11) ?_
    show Steps pP.tables eE below (T_1.setTop (mkF mM 12 #[.val (.ref a)] [(.int (0 : Int32))])) _
    exact retN X_1 hx (t := .boolean) Bd.returns (by simp) (hb hby d_prog_18m5_12) hr
  · show Q_rd0 Z a h0 n0 _ T_1.heap _
    rw [e_1]
    exact ⟨rfl, N0, rfl⟩
theorem pd_0 : parseMethodDescriptor "()Z" = some ⟨[], some .boolean⟩ := by decide +kernel
theorem pn_1 : plainName "com/example/casebook/casebook/database/DialectReadsColumnsFromCatalogPinLaw" = true := by first | (simp [plainName, overriddenIn]; done) | decide +kernel
theorem ef_law0 (mM : MethodId) (x0 : Int32) : entryFrame mM #[(.int x0)] maxLocals = mkF mM 0 #[.val (.int x0), .unset, .unset, .unset] [] := by first | (simp [entryFrame, mkF, argsToLocals, Value.category, maxLocals]; done) | rfl
def Q_law0 (Z : State) (p1 : Int32) (a : Addr) (w : Addr) (h0 : Heap) (n0 : Nat) (v_ : Option Value) (h_ : Heap) (L_ : List Loc) : Prop := v_ = some (.int (1 : Int32)) ∧ Fr n0 L_
set_option maxRecDepth 65536 in
set_option maxHeartbeats 40000000 in
theorem rm_law0 (l : Launch) (Z : State) (a0 : Array Value) (hw : ∀ d ∈ tables_1, d.before a0 Z = true) (ws : List Jvm.Cond) (p1 : Int32) (a : Addr) (w : Addr) (h0 : Heap) (n0 : Nat) (Z0 : n0 ≤ h0.size) (hk : ((p1 &&& (2147483647 : Int32)) % (3 : Int32)) = (0 : Int32)) (S_Dialect_POSTGRESQL : Sta Z h0 "com/example/casebook/casebook/database/Dialect" "POSTGRESQL" "Lcom/example/casebook/casebook/database/Dialect;" (.ref a)) (E_a : Exa Z h0 a "com/example/casebook/casebook/database/Dialect") (F_columnsQuery_a : Fld Z h0 a "com/example/casebook/casebook/database/Dialect" "columnsQuery" "Ljava/lang/String;" (.ref w)) :
    MetFree l x (head1 (Jvm.Cond.code x code maxLocals ret :: ws) room_1) (fun aa_ U_ => aa_ = #[(.int p1)] ∧ Z.Warmed39 U_.vm ∧ U_.heap = h0) (fun _ _ _ _ _ => True) (fun _ U_ o_ U'_ => ∃ v_ L_, o_ = .returned v_ ∧ Q_law0 Z p1 a w h0 n0 v_ U'_.heap L_ ∧ FrameEnd U_ o_ U'_ L_ 0 0) := by
  refine MetFree.of_bodySF (plainFor_of_name pn_1) hisR ?_
  intro pP eE sS mM argsA below meth cC s₁ Bd hml0 hP hK
  obtain ⟨rfl, hZ, hh⟩ := hP
  have hx := Bd.exec
  have hby := Bd.bytes
  have hml : cC.maxLocals = 4 := hml0
  have hown : sS.vm.findClass "com/example/casebook/casebook/database/DialectReadsColumnsFromCatalogPinLaw" = some mM.cls := findClass_of_methodNamed Bd.named
  have hnm := (name_of_methodNamed Bd.named Bd.method).1
  have X0 : Stand pP l eE room_1 sS mM #[(.int p1)] below meth cC s₁ [] 0 0 := Stand.of_body Bd
  have e0 : s₁.heap = h0 := by rw [← hh, Bd.state]; rfl
  have N0 := Fr.nil n0
  have pre0 : ∀ t, Steps pP.tables eE below (s₁.setTop (mkF mM 0 #[.val (.int p1), .unset, .unset, .unset] [])) t → Steps pP.tables eE below (s₁.setTop (entryFrame mM #[(.int p1)] maxLocals)) t := fun t k => castTop (ef_law0 mM p1) k
  obtain ⟨T_1, X_1, e_1, st_1⟩ := getS2 X0 hx hZ hown (host := "") (Or.inl (hw _ (List.mem_of_getElem? (i := 1) rfl))) Via.refl e0 S_Dialect_POSTGRESQL (g := (mkF mM 11 #[.val (.int p1), .val (.int (0 : Int32)), .unset, .unset] [])) rfl (hb hby at_11)
  obtain ⟨cq_2, kq_2, q_2a, q_2b, q_2c⟩ := isOf hZ e_1 E_a
  obtain ⟨_, _, ⟨T_2, L_2, k_2, n_2⟩, -, X_2, ⟨Lc_2, hQ_2, l_2, y_2, z_2⟩, st_2⟩ := X_1.virtualBack hx (y := (⟨"com/example/casebook/casebook/database/Dialect", "readsColumnsFromCatalog", "()Z"⟩ : MethodName)) (z := (⟨"com/example/casebook/casebook/database/Dialect", "readsColumnsFromCatalog", "()Z"⟩ : MethodName)) hown (mvT hZ (hw _ (List.mem_of_getElem? (i := 4) rfl))) (mvT hZ (hw _ (List.mem_of_getElem? (i := 5) rfl))) (notFace_of_selects (args := #[]) (mvT hZ (hw _ (List.mem_of_getElem? (i := 7) rfl)))) (mvT hZ (hw _ (List.mem_of_getElem? (i := 7) rfl))) (mvT hZ (hw _ (List.mem_of_getElem? (i := 6) rfl))) (by decide) (backOf (W := 0) (rm_rd1 l Z a0 hw [] a w h0 n0 Z0 F_columnsQuery_a) hZ (hw _ (List.mem_of_getElem? (i := 8) rfl)) (hw _ (List.mem_of_getElem? (i := 2) rfl)) (by decide) (by decide)) q_2a q_2c (g := (mkF mM 41 #[.val (.int p1), .val (.int (0 : Int32)), .val (.ref a), .val (.int (1 : Int32))] [(.ref a)])) rfl (by rw [hml]; rfl) (Steps.refl _) (argsL := []) (rest := []) (lenOf pd_0 rfl) rfl (by show 2 * 0 + _ ≤ _; exact Nat.le_of_eq rfl) (hb hby at_41) (fun _ _ => ⟨rfl, e_1, (by decide : 0 + 0 ≤ _), (by decide : 0 + 0 ≤ _)⟩)
  dsimp only [Pt.U, Pt.locs, Pt.cells, Pt.slots] at X_2 l_2 y_2 z_2 st_2 hQ_2
  subst l_2 y_2 z_2
  obtain ⟨rfl, N_2q, eh_2⟩ := hQ_2
  have N_2 := Fr.app N0 N_2q
  obtain ⟨fs, hr, hrun, hended, hW, hsame⟩ := X_2.leave (v := some (.int (1 : Int32))) (fun h => by rw [Bd.returns] at h; cases h)
  refine ⟨_, _, pre0 _ ?_, hrun, hended, _, _, rfl, ?_, ⟨_, rfl⟩, hW, hsame.mono (by decide) (by decide)⟩
  · show Steps pP.tables eE below (s₁.setTop (mkF mM 0 #[.val (.int p1), .unset, .unset, .unset] [])) _
    refine XS.iloadN X0.here hx rfl (hb hby at_0) rfl ?_
    show Steps pP.tables eE below (s₁.setTop (mkF mM 1 #[.val (.int p1), .unset, .unset, .unset] [(.int p1)])) _
    refine X0.ldcI hx hown (mvT hZ (hw _ (List.mem_of_getElem? (i := 0) rfl))) (g := (mkF mM 1 #[.val (.int p1), .unset, .unset, .unset] [(.int p1)])) rfl (hb hby at_1) ?_
    show Steps pP.tables eE below (s₁.setTop (mkF mM 3 #[.val (.int p1), .unset, .unset, .unset] [(.int (2147483647 : Int32)), (.int p1)])) _
    refine XS.iand X0.here hx rfl (hb hby at_3) rfl ?_
    show Steps pP.tables eE below (s₁.setTop (mkF mM 4 #[.val (.int p1), .unset, .unset, .unset] [(.int (p1 &&& (2147483647 : Int32)))])) _
    refine XS.iconst X0.here hx rfl (hb hby at_4) ?_
    show Steps pP.tables eE below (s₁.setTop (mkF mM 5 #[.val (.int p1), .unset, .unset, .unset] [(.int (3 : Int32)), (.int (p1 &&& (2147483647 : Int32)))])) _
    refine iremM X0 hx rfl (hb hby at_5) rfl (by decide) ?_
    show Steps pP.tables eE below (s₁.setTop (mkF mM 6 #[.val (.int p1), .unset, .unset, .unset] [(.int ((p1 &&& (2147483647 : Int32)) % (3 : Int32)))])) _
    rw [hk]
    show Steps pP.tables eE below (s₁.setTop (mkF mM 6 #[.val (.int p1), .unset, .unset, .unset] [(.int (0 : Int32))])) _
    refine XS.istoreN X0.here hx rfl (hb hby at_6) rfl (l' := #[.val (.int p1), .val (.int (0 : Int32)), .unset, .unset]) rfl ?_
    show Steps pP.tables eE below (s₁.setTop (mkF mM 7 #[.val (.int p1), .val (.int (0 : Int32)), .unset, .unset] [])) _
    refine XS.iloadN X0.here hx rfl (hb hby at_7) rfl ?_
    show Steps pP.tables eE below (s₁.setTop (mkF mM 8 #[.val (.int p1), .val (.int (0 : Int32)), .unset, .unset] [(.int (0 : Int32))])) _
    refine XS.ifNo X0.here hx rfl (hb hby at_8) rfl (by decide) ?_
    show Steps pP.tables eE below (s₁.setTop (mkF mM 11 #[.val (.int p1), .val (.int (0 : Int32)), .unset, .unset] [])) _
    refine st_1 _ ?_
    show Steps pP.tables eE below (T_1.setTop (mkF mM 14 #[.val (.int p1), .val (.int (0 : Int32)), .unset, .unset] [(.ref a)])) _
    refine XS.astoreN X_1.here hx rfl (hb hby at_14) rfl rfl (l' := #[.val (.int p1), .val (.int (0 : Int32)), .val (.ref a), .unset]) rfl ?_
    show Steps pP.tables eE below (T_1.setTop (mkF mM 15 #[.val (.int p1), .val (.int (0 : Int32)), .val (.ref a), .unset] [])) _
    refine XS.iconst X_1.here hx rfl (hb hby at_15) ?_
    show Steps pP.tables eE below (T_1.setTop (mkF mM 16 #[.val (.int p1), .val (.int (0 : Int32)), .val (.ref a), .unset] [(.int (1 : Int32))])) _
    refine XS.istoreN X_1.here hx rfl (hb hby at_16) rfl (l' := #[.val (.int p1), .val (.int (0 : Int32)), .val (.ref a), .val (.int (1 : Int32))]) rfl ?_
    show Steps pP.tables eE below (T_1.setTop (mkF mM 17 #[.val (.int p1), .val (.int (0 : Int32)), .val (.ref a), .val (.int (1 : Int32))] [])) _
    refine XS.goto X_1.here hx rfl (pc0 := 17) (pc' := 40) rfl (hb hby at_17) (by decide) (by decide) ?_
    show Steps pP.tables eE below (T_1.setTop (mkF mM 40 #[.val (.int p1), .val (.int (0 : Int32)), .val (.ref a), .val (.int (1 : Int32))] [])) _
    refine XS.aloadN X_1.here hx rfl (hb hby at_40) rfl rfl ?_
    show Steps pP.tables eE below (T_1.setTop (mkF mM 41 #[.val (.int p1), .val (.int (0 : Int32)), .val (.ref a), .val (.int (1 : Int32))] [(.ref a)])) _
    refine st_2.trans ?_
    show Steps pP.tables eE below (T_2.setTop (mkF mM 44 #[.val (.int p1), .val (.int (0 : Int32)), .val (.ref a), .val (.int (1 : Int32))] [(.int (1 : Int32))])) _
    refine XS.iloadN X_2.here hx rfl (hb hby at_44) rfl ?_
    show Steps pP.tables eE below (T_2.setTop (mkF mM 45 #[.val (.int p1), .val (.int (0 : Int32)), .val (.ref a), .val (.int (1 : Int32))] [(.int (1 : Int32)), (.int (1 : Int32))])) _
    refine XS.icmpNo X_2.here hx rfl (hb hby at_45) rfl (by decide) ?_
    show Steps pP.tables eE below (T_2.setTop (mkF mM 48 #[.val (.int p1), .val (.int (0 : Int32)), .val (.ref a), .val (.int (1 : Int32))] [])) _
    refine XS.iconst X_2.here hx rfl (hb hby at_48) ?_
    show Steps pP.tables eE below (T_2.setTop (mkF mM 49 #[.val (.int p1), .val (.int (0 : Int32)), .val (.ref a), .val (.int (1 : Int32))] [(.int (1 : Int32))])) _
    refine XS.goto X_2.here hx rfl (pc0 := 49) (pc' := 53) rfl (hb hby at_49) (by decide) (by decide) ?_
    show Steps pP.tables eE below (T_2.setTop (mkF mM 53 #[.val (.int p1), .val (.int (0 : Int32)), .val (.ref a), .val (.int (1 : Int32))] [(.int (1 : Int32))])) _
    exact retN X_2 hx (t := .boolean) Bd.returns (by simp) (hb hby at_53) hr
  · show Q_law0 Z p1 a w h0 n0 _ T_2.heap _
    exact ⟨rfl, N_2⟩
theorem ef_law1 (mM : MethodId) (x0 : Int32) : entryFrame mM #[(.int x0)] maxLocals = mkF mM 0 #[.val (.int x0), .unset, .unset, .unset] [] := by first | (simp [entryFrame, mkF, argsToLocals, Value.category, maxLocals]; done) | rfl
def Q_law1 (Z : State) (p1 : Int32) (a : Addr) (w : Addr) (h0 : Heap) (n0 : Nat) (v_ : Option Value) (h_ : Heap) (L_ : List Loc) : Prop := v_ = some (.int (1 : Int32)) ∧ Fr n0 L_
set_option maxRecDepth 65536 in
set_option maxHeartbeats 40000000 in
theorem rm_law1 (l : Launch) (Z : State) (a0 : Array Value) (hw : ∀ d ∈ tables_1, d.before a0 Z = true) (ws : List Jvm.Cond) (p1 : Int32) (a : Addr) (w : Addr) (h0 : Heap) (n0 : Nat) (Z0 : n0 ≤ h0.size) (hk : ((p1 &&& (2147483647 : Int32)) % (3 : Int32)) = (1 : Int32)) (S_Dialect_MARIADB : Sta Z h0 "com/example/casebook/casebook/database/Dialect" "MARIADB" "Lcom/example/casebook/casebook/database/Dialect;" (.ref a)) (E_a : Exa Z h0 a "com/example/casebook/casebook/database/Dialect") (F_columnsQuery_a : Fld Z h0 a "com/example/casebook/casebook/database/Dialect" "columnsQuery" "Ljava/lang/String;" (.ref w)) :
    MetFree l x (head1 (Jvm.Cond.code x code maxLocals ret :: ws) room_1) (fun aa_ U_ => aa_ = #[(.int p1)] ∧ Z.Warmed39 U_.vm ∧ U_.heap = h0) (fun _ _ _ _ _ => True) (fun _ U_ o_ U'_ => ∃ v_ L_, o_ = .returned v_ ∧ Q_law1 Z p1 a w h0 n0 v_ U'_.heap L_ ∧ FrameEnd U_ o_ U'_ L_ 0 0) := by
  refine MetFree.of_bodySF (plainFor_of_name pn_1) hisR ?_
  intro pP eE sS mM argsA below meth cC s₁ Bd hml0 hP hK
  obtain ⟨rfl, hZ, hh⟩ := hP
  have hx := Bd.exec
  have hby := Bd.bytes
  have hml : cC.maxLocals = 4 := hml0
  have hown : sS.vm.findClass "com/example/casebook/casebook/database/DialectReadsColumnsFromCatalogPinLaw" = some mM.cls := findClass_of_methodNamed Bd.named
  have hnm := (name_of_methodNamed Bd.named Bd.method).1
  have X0 : Stand pP l eE room_1 sS mM #[(.int p1)] below meth cC s₁ [] 0 0 := Stand.of_body Bd
  have e0 : s₁.heap = h0 := by rw [← hh, Bd.state]; rfl
  have N0 := Fr.nil n0
  have pre0 : ∀ t, Steps pP.tables eE below (s₁.setTop (mkF mM 0 #[.val (.int p1), .unset, .unset, .unset] [])) t → Steps pP.tables eE below (s₁.setTop (entryFrame mM #[(.int p1)] maxLocals)) t := fun t k => castTop (ef_law1 mM p1) k
  obtain ⟨T_1, X_1, e_1, st_1⟩ := getS2 X0 hx hZ hown (host := "") (Or.inl (hw _ (List.mem_of_getElem? (i := 13) rfl))) Via.refl e0 S_Dialect_MARIADB (g := (mkF mM 25 #[.val (.int p1), .val (.int (1 : Int32)), .unset, .unset] [])) rfl (hb hby at_25)
  obtain ⟨cq_2, kq_2, q_2a, q_2b, q_2c⟩ := isOf hZ e_1 E_a
  obtain ⟨_, _, ⟨T_2, L_2, k_2, n_2⟩, -, X_2, ⟨Lc_2, hQ_2, l_2, y_2, z_2⟩, st_2⟩ := X_1.virtualBack hx (y := (⟨"com/example/casebook/casebook/database/Dialect", "readsColumnsFromCatalog", "()Z"⟩ : MethodName)) (z := (⟨"com/example/casebook/casebook/database/Dialect", "readsColumnsFromCatalog", "()Z"⟩ : MethodName)) hown (mvT hZ (hw _ (List.mem_of_getElem? (i := 4) rfl))) (mvT hZ (hw _ (List.mem_of_getElem? (i := 5) rfl))) (notFace_of_selects (args := #[]) (mvT hZ (hw _ (List.mem_of_getElem? (i := 7) rfl)))) (mvT hZ (hw _ (List.mem_of_getElem? (i := 7) rfl))) (mvT hZ (hw _ (List.mem_of_getElem? (i := 6) rfl))) (by decide) (backOf (W := 0) (rm_rd1 l Z a0 hw [] a w h0 n0 Z0 F_columnsQuery_a) hZ (hw _ (List.mem_of_getElem? (i := 8) rfl)) (hw _ (List.mem_of_getElem? (i := 2) rfl)) (by decide) (by decide)) q_2a q_2c (g := (mkF mM 41 #[.val (.int p1), .val (.int (1 : Int32)), .val (.ref a), .val (.int (1 : Int32))] [(.ref a)])) rfl (by rw [hml]; rfl) (Steps.refl _) (argsL := []) (rest := []) (lenOf pd_0 rfl) rfl (by show 2 * 0 + _ ≤ _; exact Nat.le_of_eq rfl) (hb hby at_41) (fun _ _ => ⟨rfl, e_1, (by decide : 0 + 0 ≤ _), (by decide : 0 + 0 ≤ _)⟩)
  dsimp only [Pt.U, Pt.locs, Pt.cells, Pt.slots] at X_2 l_2 y_2 z_2 st_2 hQ_2
  subst l_2 y_2 z_2
  obtain ⟨rfl, N_2q, eh_2⟩ := hQ_2
  have N_2 := Fr.app N0 N_2q
  obtain ⟨fs, hr, hrun, hended, hW, hsame⟩ := X_2.leave (v := some (.int (1 : Int32))) (fun h => by rw [Bd.returns] at h; cases h)
  refine ⟨_, _, pre0 _ ?_, hrun, hended, _, _, rfl, ?_, ⟨_, rfl⟩, hW, hsame.mono (by decide) (by decide)⟩
  · show Steps pP.tables eE below (s₁.setTop (mkF mM 0 #[.val (.int p1), .unset, .unset, .unset] [])) _
    refine XS.iloadN X0.here hx rfl (hb hby at_0) rfl ?_
    show Steps pP.tables eE below (s₁.setTop (mkF mM 1 #[.val (.int p1), .unset, .unset, .unset] [(.int p1)])) _
    refine X0.ldcI hx hown (mvT hZ (hw _ (List.mem_of_getElem? (i := 0) rfl))) (g := (mkF mM 1 #[.val (.int p1), .unset, .unset, .unset] [(.int p1)])) rfl (hb hby at_1) ?_
    show Steps pP.tables eE below (s₁.setTop (mkF mM 3 #[.val (.int p1), .unset, .unset, .unset] [(.int (2147483647 : Int32)), (.int p1)])) _
    refine XS.iand X0.here hx rfl (hb hby at_3) rfl ?_
    show Steps pP.tables eE below (s₁.setTop (mkF mM 4 #[.val (.int p1), .unset, .unset, .unset] [(.int (p1 &&& (2147483647 : Int32)))])) _
    refine XS.iconst X0.here hx rfl (hb hby at_4) ?_
    show Steps pP.tables eE below (s₁.setTop (mkF mM 5 #[.val (.int p1), .unset, .unset, .unset] [(.int (3 : Int32)), (.int (p1 &&& (2147483647 : Int32)))])) _
    refine iremM X0 hx rfl (hb hby at_5) rfl (by decide) ?_
    show Steps pP.tables eE below (s₁.setTop (mkF mM 6 #[.val (.int p1), .unset, .unset, .unset] [(.int ((p1 &&& (2147483647 : Int32)) % (3 : Int32)))])) _
    rw [hk]
    show Steps pP.tables eE below (s₁.setTop (mkF mM 6 #[.val (.int p1), .unset, .unset, .unset] [(.int (1 : Int32))])) _
    refine XS.istoreN X0.here hx rfl (hb hby at_6) rfl (l' := #[.val (.int p1), .val (.int (1 : Int32)), .unset, .unset]) rfl ?_
    show Steps pP.tables eE below (s₁.setTop (mkF mM 7 #[.val (.int p1), .val (.int (1 : Int32)), .unset, .unset] [])) _
    refine XS.iloadN X0.here hx rfl (hb hby at_7) rfl ?_
    show Steps pP.tables eE below (s₁.setTop (mkF mM 8 #[.val (.int p1), .val (.int (1 : Int32)), .unset, .unset] [(.int (1 : Int32))])) _
    refine XS.ifYes X0.here hx rfl (pc0 := 8) (pc' := 20) rfl (hb hby at_8) rfl (by decide) (by decide) (by decide) ?_
    show Steps pP.tables eE below (s₁.setTop (mkF mM 20 #[.val (.int p1), .val (.int (1 : Int32)), .unset, .unset] [])) _
    refine XS.iloadN X0.here hx rfl (hb hby at_20) rfl ?_
    show Steps pP.tables eE below (s₁.setTop (mkF mM 21 #[.val (.int p1), .val (.int (1 : Int32)), .unset, .unset] [(.int (1 : Int32))])) _
    refine XS.iconst X0.here hx rfl (hb hby at_21) ?_
    show Steps pP.tables eE below (s₁.setTop (mkF mM 22 #[.val (.int p1), .val (.int (1 : Int32)), .unset, .unset] [(.int (1 : Int32)), (.int (1 : Int32))])) _
    refine XS.icmpNo X0.here hx rfl (hb hby at_22) rfl (by decide) ?_
    show Steps pP.tables eE below (s₁.setTop (mkF mM 25 #[.val (.int p1), .val (.int (1 : Int32)), .unset, .unset] [])) _
    refine st_1 _ ?_
    show Steps pP.tables eE below (T_1.setTop (mkF mM 28 #[.val (.int p1), .val (.int (1 : Int32)), .unset, .unset] [(.ref a)])) _
    refine XS.astoreN X_1.here hx rfl (hb hby at_28) rfl rfl (l' := #[.val (.int p1), .val (.int (1 : Int32)), .val (.ref a), .unset]) rfl ?_
    show Steps pP.tables eE below (T_1.setTop (mkF mM 29 #[.val (.int p1), .val (.int (1 : Int32)), .val (.ref a), .unset] [])) _
    refine XS.iconst X_1.here hx rfl (hb hby at_29) ?_
    show Steps pP.tables eE below (T_1.setTop (mkF mM 30 #[.val (.int p1), .val (.int (1 : Int32)), .val (.ref a), .unset] [(.int (1 : Int32))])) _
    refine XS.istoreN X_1.here hx rfl (hb hby at_30) rfl (l' := #[.val (.int p1), .val (.int (1 : Int32)), .val (.ref a), .val (.int (1 : Int32))]) rfl ?_
    show Steps pP.tables eE below (T_1.setTop (mkF mM 31 #[.val (.int p1), .val (.int (1 : Int32)), .val (.ref a), .val (.int (1 : Int32))] [])) _
    refine XS.goto X_1.here hx rfl (pc0 := 31) (pc' := 40) rfl (hb hby at_31) (by decide) (by decide) ?_
    show Steps pP.tables eE below (T_1.setTop (mkF mM 40 #[.val (.int p1), .val (.int (1 : Int32)), .val (.ref a), .val (.int (1 : Int32))] [])) _
    refine XS.aloadN X_1.here hx rfl (hb hby at_40) rfl rfl ?_
    show Steps pP.tables eE below (T_1.setTop (mkF mM 41 #[.val (.int p1), .val (.int (1 : Int32)), .val (.ref a), .val (.int (1 : Int32))] [(.ref a)])) _
    refine st_2.trans ?_
    show Steps pP.tables eE below (T_2.setTop (mkF mM 44 #[.val (.int p1), .val (.int (1 : Int32)), .val (.ref a), .val (.int (1 : Int32))] [(.int (1 : Int32))])) _
    refine XS.iloadN X_2.here hx rfl (hb hby at_44) rfl ?_
    show Steps pP.tables eE below (T_2.setTop (mkF mM 45 #[.val (.int p1), .val (.int (1 : Int32)), .val (.ref a), .val (.int (1 : Int32))] [(.int (1 : Int32)), (.int (1 : Int32))])) _
    refine XS.icmpNo X_2.here hx rfl (hb hby at_45) rfl (by decide) ?_
    show Steps pP.tables eE below (T_2.setTop (mkF mM 48 #[.val (.int p1), .val (.int (1 : Int32)), .val (.ref a), .val (.int (1 : Int32))] [])) _
    refine XS.iconst X_2.here hx rfl (hb hby at_48) ?_
    show Steps pP.tables eE below (T_2.setTop (mkF mM 49 #[.val (.int p1), .val (.int (1 : Int32)), .val (.ref a), .val (.int (1 : Int32))] [(.int (1 : Int32))])) _
    refine XS.goto X_2.here hx rfl (pc0 := 49) (pc' := 53) rfl (hb hby at_49) (by decide) (by decide) ?_
    show Steps pP.tables eE below (T_2.setTop (mkF mM 53 #[.val (.int p1), .val (.int (1 : Int32)), .val (.ref a), .val (.int (1 : Int32))] [(.int (1 : Int32))])) _
    exact retN X_2 hx (t := .boolean) Bd.returns (by simp) (hb hby at_53) hr
  · show Q_law1 Z p1 a w h0 n0 _ T_2.heap _
    exact ⟨rfl, N_2⟩
theorem ef_law2 (mM : MethodId) (x0 : Int32) : entryFrame mM #[(.int x0)] maxLocals = mkF mM 0 #[.val (.int x0), .unset, .unset, .unset] [] := by first | (simp [entryFrame, mkF, argsToLocals, Value.category, maxLocals]; done) | rfl
def Q_law2 (Z : State) (p1 : Int32) (a : Addr) (h0 : Heap) (n0 : Nat) (v_ : Option Value) (h_ : Heap) (L_ : List Loc) : Prop := v_ = some (.int (1 : Int32)) ∧ Fr n0 L_
set_option maxRecDepth 65536 in
set_option maxHeartbeats 40000000 in
theorem rm_law2 (l : Launch) (Z : State) (a0 : Array Value) (hw : ∀ d ∈ tables_1, d.before a0 Z = true) (ws : List Jvm.Cond) (p1 : Int32) (a : Addr) (h0 : Heap) (n0 : Nat) (Z0 : n0 ≤ h0.size) (hk : ((p1 &&& (2147483647 : Int32)) % (3 : Int32)) = (2 : Int32)) (S_Dialect_PORTABLE : Sta Z h0 "com/example/casebook/casebook/database/Dialect" "PORTABLE" "Lcom/example/casebook/casebook/database/Dialect;" (.ref a)) (E_a : Exa Z h0 a "com/example/casebook/casebook/database/Dialect") (F_columnsQuery_a : Fld Z h0 a "com/example/casebook/casebook/database/Dialect" "columnsQuery" "Ljava/lang/String;" .null) :
    MetFree l x (head1 (Jvm.Cond.code x code maxLocals ret :: ws) room_1) (fun aa_ U_ => aa_ = #[(.int p1)] ∧ Z.Warmed39 U_.vm ∧ U_.heap = h0) (fun _ _ _ _ _ => True) (fun _ U_ o_ U'_ => ∃ v_ L_, o_ = .returned v_ ∧ Q_law2 Z p1 a h0 n0 v_ U'_.heap L_ ∧ FrameEnd U_ o_ U'_ L_ 0 0) := by
  refine MetFree.of_bodySF (plainFor_of_name pn_1) hisR ?_
  intro pP eE sS mM argsA below meth cC s₁ Bd hml0 hP hK
  obtain ⟨rfl, hZ, hh⟩ := hP
  have hx := Bd.exec
  have hby := Bd.bytes
  have hml : cC.maxLocals = 4 := hml0
  have hown : sS.vm.findClass "com/example/casebook/casebook/database/DialectReadsColumnsFromCatalogPinLaw" = some mM.cls := findClass_of_methodNamed Bd.named
  have hnm := (name_of_methodNamed Bd.named Bd.method).1
  have X0 : Stand pP l eE room_1 sS mM #[(.int p1)] below meth cC s₁ [] 0 0 := Stand.of_body Bd
  have e0 : s₁.heap = h0 := by rw [← hh, Bd.state]; rfl
  have N0 := Fr.nil n0
  have pre0 : ∀ t, Steps pP.tables eE below (s₁.setTop (mkF mM 0 #[.val (.int p1), .unset, .unset, .unset] [])) t → Steps pP.tables eE below (s₁.setTop (entryFrame mM #[(.int p1)] maxLocals)) t := fun t k => castTop (ef_law2 mM p1) k
  obtain ⟨T_1, X_1, e_1, st_1⟩ := getS2 X0 hx hZ hown (host := "") (Or.inl (hw _ (List.mem_of_getElem? (i := 11) rfl))) Via.refl e0 S_Dialect_PORTABLE (g := (mkF mM 34 #[.val (.int p1), .val (.int (2 : Int32)), .unset, .unset] [])) rfl (hb hby at_34)
  obtain ⟨cq_2, kq_2, q_2a, q_2b, q_2c⟩ := isOf hZ e_1 E_a
  obtain ⟨_, _, ⟨T_2, L_2, k_2, n_2⟩, -, X_2, ⟨Lc_2, hQ_2, l_2, y_2, z_2⟩, st_2⟩ := X_1.virtualBack hx (y := (⟨"com/example/casebook/casebook/database/Dialect", "readsColumnsFromCatalog", "()Z"⟩ : MethodName)) (z := (⟨"com/example/casebook/casebook/database/Dialect", "readsColumnsFromCatalog", "()Z"⟩ : MethodName)) hown (mvT hZ (hw _ (List.mem_of_getElem? (i := 4) rfl))) (mvT hZ (hw _ (List.mem_of_getElem? (i := 5) rfl))) (notFace_of_selects (args := #[]) (mvT hZ (hw _ (List.mem_of_getElem? (i := 7) rfl)))) (mvT hZ (hw _ (List.mem_of_getElem? (i := 7) rfl))) (mvT hZ (hw _ (List.mem_of_getElem? (i := 6) rfl))) (by decide) (backOf (W := 0) (rm_rd0 l Z a0 hw [] a h0 n0 Z0 F_columnsQuery_a) hZ (hw _ (List.mem_of_getElem? (i := 8) rfl)) (hw _ (List.mem_of_getElem? (i := 2) rfl)) (by decide) (by decide)) q_2a q_2c (g := (mkF mM 41 #[.val (.int p1), .val (.int (2 : Int32)), .val (.ref a), .val (.int (0 : Int32))] [(.ref a)])) rfl (by rw [hml]; rfl) (Steps.refl _) (argsL := []) (rest := []) (lenOf pd_0 rfl) rfl (by show 2 * 0 + _ ≤ _; exact Nat.le_of_eq rfl) (hb hby at_41) (fun _ _ => ⟨rfl, e_1, (by decide : 0 + 0 ≤ _), (by decide : 0 + 0 ≤ _)⟩)
  dsimp only [Pt.U, Pt.locs, Pt.cells, Pt.slots] at X_2 l_2 y_2 z_2 st_2 hQ_2
  subst l_2 y_2 z_2
  obtain ⟨rfl, N_2q, eh_2⟩ := hQ_2
  have N_2 := Fr.app N0 N_2q
  obtain ⟨fs, hr, hrun, hended, hW, hsame⟩ := X_2.leave (v := some (.int (1 : Int32))) (fun h => by rw [Bd.returns] at h; cases h)
  refine ⟨_, _, pre0 _ ?_, hrun, hended, _, _, rfl, ?_, ⟨_, rfl⟩, hW, hsame.mono (by decide) (by decide)⟩
  · show Steps pP.tables eE below (s₁.setTop (mkF mM 0 #[.val (.int p1), .unset, .unset, .unset] [])) _
    refine XS.iloadN X0.here hx rfl (hb hby at_0) rfl ?_
    show Steps pP.tables eE below (s₁.setTop (mkF mM 1 #[.val (.int p1), .unset, .unset, .unset] [(.int p1)])) _
    refine X0.ldcI hx hown (mvT hZ (hw _ (List.mem_of_getElem? (i := 0) rfl))) (g := (mkF mM 1 #[.val (.int p1), .unset, .unset, .unset] [(.int p1)])) rfl (hb hby at_1) ?_
    show Steps pP.tables eE below (s₁.setTop (mkF mM 3 #[.val (.int p1), .unset, .unset, .unset] [(.int (2147483647 : Int32)), (.int p1)])) _
    refine XS.iand X0.here hx rfl (hb hby at_3) rfl ?_
    show Steps pP.tables eE below (s₁.setTop (mkF mM 4 #[.val (.int p1), .unset, .unset, .unset] [(.int (p1 &&& (2147483647 : Int32)))])) _
    refine XS.iconst X0.here hx rfl (hb hby at_4) ?_
    show Steps pP.tables eE below (s₁.setTop (mkF mM 5 #[.val (.int p1), .unset, .unset, .unset] [(.int (3 : Int32)), (.int (p1 &&& (2147483647 : Int32)))])) _
    refine iremM X0 hx rfl (hb hby at_5) rfl (by decide) ?_
    show Steps pP.tables eE below (s₁.setTop (mkF mM 6 #[.val (.int p1), .unset, .unset, .unset] [(.int ((p1 &&& (2147483647 : Int32)) % (3 : Int32)))])) _
    rw [hk]
    show Steps pP.tables eE below (s₁.setTop (mkF mM 6 #[.val (.int p1), .unset, .unset, .unset] [(.int (2 : Int32))])) _
    refine XS.istoreN X0.here hx rfl (hb hby at_6) rfl (l' := #[.val (.int p1), .val (.int (2 : Int32)), .unset, .unset]) rfl ?_
    show Steps pP.tables eE below (s₁.setTop (mkF mM 7 #[.val (.int p1), .val (.int (2 : Int32)), .unset, .unset] [])) _
    refine XS.iloadN X0.here hx rfl (hb hby at_7) rfl ?_
    show Steps pP.tables eE below (s₁.setTop (mkF mM 8 #[.val (.int p1), .val (.int (2 : Int32)), .unset, .unset] [(.int (2 : Int32))])) _
    refine XS.ifYes X0.here hx rfl (pc0 := 8) (pc' := 20) rfl (hb hby at_8) rfl (by decide) (by decide) (by decide) ?_
    show Steps pP.tables eE below (s₁.setTop (mkF mM 20 #[.val (.int p1), .val (.int (2 : Int32)), .unset, .unset] [])) _
    refine XS.iloadN X0.here hx rfl (hb hby at_20) rfl ?_
    show Steps pP.tables eE below (s₁.setTop (mkF mM 21 #[.val (.int p1), .val (.int (2 : Int32)), .unset, .unset] [(.int (2 : Int32))])) _
    refine XS.iconst X0.here hx rfl (hb hby at_21) ?_
    show Steps pP.tables eE below (s₁.setTop (mkF mM 22 #[.val (.int p1), .val (.int (2 : Int32)), .unset, .unset] [(.int (1 : Int32)), (.int (2 : Int32))])) _
    refine XS.icmpYes X0.here hx rfl (pc0 := 22) (pc' := 34) rfl (hb hby at_22) rfl (by decide) (by decide) (by decide) ?_
    show Steps pP.tables eE below (s₁.setTop (mkF mM 34 #[.val (.int p1), .val (.int (2 : Int32)), .unset, .unset] [])) _
    refine st_1 _ ?_
    show Steps pP.tables eE below (T_1.setTop (mkF mM 37 #[.val (.int p1), .val (.int (2 : Int32)), .unset, .unset] [(.ref a)])) _
    refine XS.astoreN X_1.here hx rfl (hb hby at_37) rfl rfl (l' := #[.val (.int p1), .val (.int (2 : Int32)), .val (.ref a), .unset]) rfl ?_
    show Steps pP.tables eE below (T_1.setTop (mkF mM 38 #[.val (.int p1), .val (.int (2 : Int32)), .val (.ref a), .unset] [])) _
    refine XS.iconst X_1.here hx rfl (hb hby at_38) ?_
    show Steps pP.tables eE below (T_1.setTop (mkF mM 39 #[.val (.int p1), .val (.int (2 : Int32)), .val (.ref a), .unset] [(.int (0 : Int32))])) _
    refine XS.istoreN X_1.here hx rfl (hb hby at_39) rfl (l' := #[.val (.int p1), .val (.int (2 : Int32)), .val (.ref a), .val (.int (0 : Int32))]) rfl ?_
    show Steps pP.tables eE below (T_1.setTop (mkF mM 40 #[.val (.int p1), .val (.int (2 : Int32)), .val (.ref a), .val (.int (0 : Int32))] [])) _
    refine XS.aloadN X_1.here hx rfl (hb hby at_40) rfl rfl ?_
    show Steps pP.tables eE below (T_1.setTop (mkF mM 41 #[.val (.int p1), .val (.int (2 : Int32)), .val (.ref a), .val (.int (0 : Int32))] [(.ref a)])) _
    refine st_2.trans ?_
    show Steps pP.tables eE below (T_2.setTop (mkF mM 44 #[.val (.int p1), .val (.int (2 : Int32)), .val (.ref a), .val (.int (0 : Int32))] [(.int (0 : Int32))])) _
    refine XS.iloadN X_2.here hx rfl (hb hby at_44) rfl ?_
    show Steps pP.tables eE below (T_2.setTop (mkF mM 45 #[.val (.int p1), .val (.int (2 : Int32)), .val (.ref a), .val (.int (0 : Int32))] [(.int (0 : Int32)), (.int (0 : Int32))])) _
    refine XS.icmpNo X_2.here hx rfl (hb hby at_45) rfl (by decide) ?_
    show Steps pP.tables eE below (T_2.setTop (mkF mM 48 #[.val (.int p1), .val (.int (2 : Int32)), .val (.ref a), .val (.int (0 : Int32))] [])) _
    refine XS.iconst X_2.here hx rfl (hb hby at_48) ?_
    show Steps pP.tables eE below (T_2.setTop (mkF mM 49 #[.val (.int p1), .val (.int (2 : Int32)), .val (.ref a), .val (.int (0 : Int32))] [(.int (1 : Int32))])) _
    refine XS.goto X_2.here hx rfl (pc0 := 49) (pc' := 53) rfl (hb hby at_49) (by decide) (by decide) ?_
    show Steps pP.tables eE below (T_2.setTop (mkF mM 53 #[.val (.int p1), .val (.int (2 : Int32)), .val (.ref a), .val (.int (0 : Int32))] [(.int (1 : Int32))])) _
    exact retN X_2 hx (t := .boolean) Bd.returns (by simp) (hb hby at_53) hr
  · show Q_law2 Z p1 a h0 n0 _ T_2.heap _
    exact ⟨rfl, N_2⟩
theorem own_rem3 (x : Int32) : (x &&& (2147483647 : Int32)) % (3 : Int32) = 0 ∨ (x &&& (2147483647 : Int32)) % (3 : Int32) = 1 ∨ (x &&& (2147483647 : Int32)) % (3 : Int32) = 2 := by
  have e : (x &&& (2147483647 : Int32)).toInt = x.toInt % 2 ^ 31 := Jvm.Kit.i32_mask x 2147483647 (k := 31) (by decide) (by decide)
  have r : ((x &&& (2147483647 : Int32)) % (3 : Int32)).toInt = (x &&& (2147483647 : Int32)).toInt.tmod 3 := by rw [Int32.toInt_mod]; rfl
  have h0 : 0 ≤ (x &&& (2147483647 : Int32)).toInt := by rw [e]; omega
  rw [Int.tmod_eq_emod_of_nonneg h0] at r
  simp only [← Int32.toInt_inj]
  generalize ((x &&& (2147483647 : Int32)) % (3 : Int32)).toInt = z at *
  have q : z = 0 ∨ z = 1 ∨ z = 2 := by omega
  rcases q with rfl | rfl | rfl <;> decide
set_option maxRecDepth 65536 in
set_option maxHeartbeats 40000000 in
theorem comes_1 {Post : Tables → Env → Array Value → State → Outcome → State → Prop} (hpost : ∀ tb e args s v u, (limb_1_1.after args s (.returned v) u = true ∧ limb_1_2.after args s (.returned v) u = true ∧ True) → FrameEnd s (.returned v) u (Jvm.fieldLocs frame_1_writes args s ++ Jvm.arrayLocs frame_1_arrays args s ++ Jvm.staticLocs frame_1_statics s) 0 0 → Post tb e args s (.returned v) u) :
    ArmFor flags0 classFile x code maxLocals ret World_1 tables_1 room_1 Calls_1 rest_1 Pre_1 Post := by
  intro l hfl _ _ p e ha hc hk s m args below hf hA hF happ hP
  obtain ⟨hcalls, hrest, hpre⟩ := hP
  obtain ⟨-, -, -, hnamed, -, -, -, hat⟩ := (Spec.applies_iff hf).mp happ
  obtain ⟨hg, hn⟩ := and_e (Cond.before_iff.mp (show (Jvm.Cond.and given_1 narrow_1).before args s = true from hpre))
  obtain ⟨hg1, hg2⟩ := and_e hg
  obtain ⟨w0, rfl⟩ : ∃ w0 : Value, args = #[w0] := by
    have hs : args.size = 1 := by simpa [Cond.value, given_1] using hg1
    obtain ⟨L⟩ := args
    match L, hs with
    | [w0], _ => exact ⟨w0, rfl⟩
  obtain ⟨i0, ei0⟩ := is_v hg2
  obtain rfl : w0 = (.int i0) := Option.some.inj ei0
  have hw := fun d (hd : d ∈ tables_1) => atoms_spec (ws := Jvm.Cond.code x code maxLocals ret :: tables_1) hat d (List.mem_cons_of_mem _ hd)
  have hfit : Fit s := fun {y c} hc i hi => by
    obtain ⟨ha, rfl⟩ := Array.getElem?_eq_some_iff.mp hc
    have q := List.all_eq_true.mp ((Array.all_eq_true_iff_forall_mem.mp hF) _ (Array.getElem_mem ha)) i (List.mem_range.mpr hi)
    simpa [Array.getElem?_eq_getElem hi] using q
  obtain ⟨hn1, hn2⟩ := and_e hn
  obtain ⟨hn3, hn4⟩ := and_e hn2
  obtain ⟨hn5, hn6⟩ := and_e hn4
  obtain ⟨hn7, hn8⟩ := and_e hn6
  obtain ⟨hn9, hn10⟩ := and_e hn8
  obtain ⟨x_Dialect_POSTGRESQL, ev_x_Dialect_POSTGRESQL⟩ := exa_v hn1
  have E_x_Dialect_POSTGRESQL := Exa.start ev_x_Dialect_POSTGRESQL hn1
  have S_Dialect_POSTGRESQL := Sta.start ev_x_Dialect_POSTGRESQL (Or.inr ⟨(hw _ (List.mem_of_getElem? (i := 2) rfl)), (hw _ (List.mem_of_getElem? (i := 3) rfl))⟩)
  obtain ⟨x_Dialect_POSTGRESQL_columnsQuery, ev_x_Dialect_POSTGRESQL_columnsQuery⟩ := exa_v hn3
  have E_x_Dialect_POSTGRESQL_columnsQuery := Exa.start ev_x_Dialect_POSTGRESQL_columnsQuery hn3
  have F_x_Dialect_POSTGRESQL_columnsQuery := own_fld ev_x_Dialect_POSTGRESQL ev_x_Dialect_POSTGRESQL_columnsQuery
  obtain ⟨x_Dialect_PORTABLE, ev_x_Dialect_PORTABLE⟩ := exa_v hn5
  have E_x_Dialect_PORTABLE := Exa.start ev_x_Dialect_PORTABLE hn5
  have S_Dialect_PORTABLE := Sta.start ev_x_Dialect_PORTABLE (Or.inr ⟨(hw _ (List.mem_of_getElem? (i := 2) rfl)), (hw _ (List.mem_of_getElem? (i := 12) rfl))⟩)
  have F_x_Dialect_PORTABLE_columnsQuery := own_fld ev_x_Dialect_PORTABLE (null_v hn7)
  obtain ⟨x_Dialect_MARIADB, ev_x_Dialect_MARIADB⟩ := exa_v hn9
  have E_x_Dialect_MARIADB := Exa.start ev_x_Dialect_MARIADB hn9
  have S_Dialect_MARIADB := Sta.start ev_x_Dialect_MARIADB (Or.inr ⟨(hw _ (List.mem_of_getElem? (i := 2) rfl)), (hw _ (List.mem_of_getElem? (i := 14) rfl))⟩)
  obtain ⟨x_Dialect_MARIADB_columnsQuery, ev_x_Dialect_MARIADB_columnsQuery⟩ := exa_v hn10
  have E_x_Dialect_MARIADB_columnsQuery := Exa.start ev_x_Dialect_MARIADB_columnsQuery hn10
  have F_x_Dialect_MARIADB_columnsQuery := own_fld ev_x_Dialect_MARIADB ev_x_Dialect_MARIADB_columnsQuery
  rcases own_rem3 i0 with hcs | hcs | hcs
  · obtain ⟨n, o, h1, h2, h3, _, L, rfl, ⟨rfl, N⟩, hq⟩ := rm_law0 l s _ hw tables_1 i0 x_Dialect_POSTGRESQL x_Dialect_POSTGRESQL_columnsQuery s.heap s.heap.size (Nat.le_refl _) hcs S_Dialect_POSTGRESQL E_x_Dialect_POSTGRESQL F_x_Dialect_POSTGRESQL_columnsQuery p e ha hc hk s m _ below hf ((Spec.applies_iff_loose hf).mp happ).1 ⟨rfl, State.Warmed39.refl s, rfl⟩ trivial
    exact ⟨n, _, h1, h2, h3, hpost _ _ _ _ _ _ ⟨Cond.after_iff.mpr rfl, Cond.after_iff.mpr (eq_i res_at (Term.int_eval (1)) rfl), trivial⟩ ⟨hq.1, hq.2.1, (hq.2.2.sift fun y hy => Or.inr (N y hy)).mono (by decide) (by decide)⟩⟩
  · obtain ⟨n, o, h1, h2, h3, _, L, rfl, ⟨rfl, N⟩, hq⟩ := rm_law1 l s _ hw tables_1 i0 x_Dialect_MARIADB x_Dialect_MARIADB_columnsQuery s.heap s.heap.size (Nat.le_refl _) hcs S_Dialect_MARIADB E_x_Dialect_MARIADB F_x_Dialect_MARIADB_columnsQuery p e ha hc hk s m _ below hf ((Spec.applies_iff_loose hf).mp happ).1 ⟨rfl, State.Warmed39.refl s, rfl⟩ trivial
    exact ⟨n, _, h1, h2, h3, hpost _ _ _ _ _ _ ⟨Cond.after_iff.mpr rfl, Cond.after_iff.mpr (eq_i res_at (Term.int_eval (1)) rfl), trivial⟩ ⟨hq.1, hq.2.1, (hq.2.2.sift fun y hy => Or.inr (N y hy)).mono (by decide) (by decide)⟩⟩
  · obtain ⟨n, o, h1, h2, h3, _, L, rfl, ⟨rfl, N⟩, hq⟩ := rm_law2 l s _ hw tables_1 i0 x_Dialect_PORTABLE  s.heap s.heap.size (Nat.le_refl _) hcs S_Dialect_PORTABLE E_x_Dialect_PORTABLE F_x_Dialect_PORTABLE_columnsQuery p e ha hc hk s m _ below hf ((Spec.applies_iff_loose hf).mp happ).1 ⟨rfl, State.Warmed39.refl s, rfl⟩ trivial
    exact ⟨n, _, h1, h2, h3, hpost _ _ _ _ _ _ ⟨Cond.after_iff.mpr rfl, Cond.after_iff.mpr (eq_i res_at (Term.int_eval (1)) rfl), trivial⟩ ⟨hq.1, hq.2.1, (hq.2.2.sift fun y hy => Or.inr (N y hy)).mono (by decide) (by decide)⟩⟩
theorem main_1_1 : Claimed_1_1 := comes_1 fun _ _ _ _ _ _ h hF => ⟨h.1, hF⟩
theorem main_1_2 : Claimed_1_2 := comes_1 fun _ _ _ _ _ _ h hF => ⟨h.2.1, hF⟩
end Jvm.Pilot.@@N@@
namespace Jvm.Pilot.@@N@@
open Jvm Jvm.ClassFile Sem Op Lib Jvm.Free Jvm.Stand Jvm.Pilot.@@N@@.Jvm.D
/-! MADE BY PROGRAM (witnessworld.py) out of the Statement's table words and the real class files: 15 classes; the members and pool entries that the words name. The judged class is class 1, her method 1. -/
namespace start1
open Jvm.ClassFile
def u (s : String) : CpInfo := .utf8 (stringToUtf16 s)
/-- a pool by its gaps: so many unusable entries, then the entry; so many at the end -/
def gap : Nat → List CpInfo → List CpInfo
  | 0, r => r
  | n + 1, r => .unusable :: gap n r
def poolList (es : List (Nat × CpInfo)) (last : Nat) : List CpInfo := es.foldr (fun e r => gap e.1 (e.2 :: r)) (gap last [])
def pool (es : List (Nat × CpInfo)) (last : Nat) : Array CpInfo := ⟨poolList es last⟩
def fileOf (pool : Array CpInfo) (this : Nat) (attrs : Array Attribute := #[]) (ms : Array MethodInfo := #[]) (fl : Nat := 33) (sup : Nat := 0) (ifs : Array Nat := #[]) (fds : Array FieldInfo := #[]) : ClassFile where
  minorVersion := 0
  majorVersion := 65
  constantPool := pool
  accessFlags := fl
  thisClass := this
  superClass := sup
  interfaces := ifs
  fields := fds
  methods := ms
  attributes := attrs
def plain (name : String) (sup : Option ClassId) : Class where
  name := name
  kind := .ordinary
  loader := none
  accessFlags := 33
  super := sup
  interfaces := #[]
  cf := none
  fields := #[]
  methods := #[]
  instanceTypes := #[]
  staticTypes := #[]
  resolved := #[]
  callSites := []
  init := .initialized
  statics := none
  mirror := none

def pool0 : Array CpInfo := pool [(5, u "<init>"), (0, u "()V"), (1, .class_ 10), (1, u "java/lang/Object")] 113

def k0m0 : Method := { name := "<init>", desc := "()V", sig := { parameters := [], returnType := none }, accessFlags := 1, code := none }
/-- java/lang/Object -/
def k0 : Class := { plain "java/lang/Object" none with
  accessFlags := 33
  interfaces := #[]
  cf := some (fileOf pool0 8 #[] #[{ accessFlags := 1, nameIndex := 5, descriptorIndex := 6, attributes := #[] }] 33 0 #[] #[])
  fields := #[]
  methods := #[k0m0]
  instanceTypes := #[]
  staticTypes := #[]
  resolved := Array.replicate 124 none
  statics := none }

def pool1 : Array CpInfo := pool [(2, .class_ 4), (1, u "java/lang/Object"), (0, u "<init>"), (0, u "()V"), (0, .integer 2147483647), (0, .fieldref 9 10), (0, .class_ 11), (0, .nameAndType 12 13), (0, u "com/example/casebook/casebook/database/Dialect"), (0, u "POSTGRESQL"), (0, u "Lcom/example/casebook/casebook/database/Dialect;"), (0, .fieldref 9 15), (0, .nameAndType 16 13), (0, u "MARIADB"), (0, .fieldref 9 18), (0, .nameAndType 19 13), (0, u "PORTABLE"), (0, .methodref 9 21), (0, .nameAndType 22 23), (0, u "readsColumnsFromCatalog"), (0, u "()Z"), (0, .class_ 25), (0, u "com/example/casebook/casebook/database/DialectReadsColumnsFromCatalogPinLaw"), (2, u "law"), (0, u "(I)Z")] 3

def k1m0 : Method := { name := "<init>", desc := "()V", sig := { parameters := [], returnType := none }, accessFlags := 2, code := none }
def k1c1 : Code := { maxStack := 2, maxLocals := 4, code := code, exceptionTable := #[], attributes := #[] }
def k1m1 : Method := { name := "law", desc := "(I)Z", sig := { parameters := [.int], returnType := some .boolean }, accessFlags := 9, code := some k1c1 }
/-- com/example/casebook/casebook/database/DialectReadsColumnsFromCatalogPinLaw -/
def k1 : Class := { plain "com/example/casebook/casebook/database/DialectReadsColumnsFromCatalogPinLaw" (some 0) with
  accessFlags := 49
  interfaces := #[]
  cf := some (fileOf pool1 24 #[] #[{ accessFlags := 2, nameIndex := 5, descriptorIndex := 6, attributes := #[] }, { accessFlags := 9, nameIndex := 28, descriptorIndex := 29, attributes := #[] }] 49 2 #[] #[])
  fields := #[]
  methods := #[k1m0, k1m1]
  instanceTypes := #[]
  staticTypes := #[]
  resolved := Array.replicate 33 none
  statics := none }

def pool2 : Array CpInfo := pool [(1, .class_ 2), (0, u "java/lang/constant/Constable"), (0, .class_ 4), (0, u "java/lang/Object")] 6

/-- java/lang/constant/Constable -/
def k2 : Class := { plain "java/lang/constant/Constable" (some 0) with
  accessFlags := 1537
  interfaces := #[]
  cf := some (fileOf pool2 1 #[] #[] 1537 3 #[] #[])
  fields := #[]
  methods := #[]
  instanceTypes := #[]
  staticTypes := #[]
  resolved := Array.replicate 11 none
  statics := none }

def pool3 : Array CpInfo := pool [(1, .class_ 2), (0, u "java/lang/Comparable"), (0, .class_ 4), (0, u "java/lang/Object")] 7

/-- java/lang/Comparable -/
def k3 : Class := { plain "java/lang/Comparable" (some 0) with
  accessFlags := 1537
  interfaces := #[]
  cf := some (fileOf pool3 1 #[] #[] 1537 3 #[] #[])
  fields := #[]
  methods := #[]
  instanceTypes := #[]
  staticTypes := #[]
  resolved := Array.replicate 12 none
  statics := none }

def pool4 : Array CpInfo := pool [(1, .class_ 2), (0, u "java/io/Serializable"), (0, .class_ 4), (0, u "java/lang/Object")] 2

/-- java/io/Serializable -/
def k4 : Class := { plain "java/io/Serializable" (some 0) with
  accessFlags := 1537
  interfaces := #[]
  cf := some (fileOf pool4 1 #[] #[] 1537 3 #[] #[])
  fields := #[]
  methods := #[]
  instanceTypes := #[]
  staticTypes := #[]
  resolved := Array.replicate 7 none
  statics := none }

def pool5 : Array CpInfo := pool [(2, .class_ 4), (1, u "java/lang/Enum"), (0, u "name"), (0, u "Ljava/lang/String;"), (2, u "ordinal"), (0, u "I"), (1, .class_ 14), (1, u "java/lang/Object"), (4, u "hash"), (86, .class_ 108), (1, u "java/lang/Enum$EnumDesc"), (2, .class_ 112), (0, u "java/lang/constant/Constable"), (0, .class_ 114), (0, u "java/lang/Comparable"), (0, .class_ 116), (0, u "java/io/Serializable")] 87

/-- java/lang/Enum -/
def k5 : Class := { plain "java/lang/Enum" (some 0) with
  accessFlags := 1057
  interfaces := #[2, 3, 4]
  cf := some (fileOf pool5 2 #[.nestMembers #[106]] #[] 1057 12 #[111, 113, 115] #[{ accessFlags := 18, nameIndex := 5, descriptorIndex := 6, attributes := #[] }, { accessFlags := 18, nameIndex := 9, descriptorIndex := 10, attributes := #[] }, { accessFlags := 2, nameIndex := 19, descriptorIndex := 10, attributes := #[] }])
  fields := #[{ name := "name", type := (.object "java/lang/String"), accessFlags := 18, slot := 0, constantValue := 0 }, { name := "ordinal", type := .int, accessFlags := 18, slot := 1, constantValue := 0 }, { name := "hash", type := .int, accessFlags := 2, slot := 2, constantValue := 0 }]
  methods := #[]
  instanceTypes := #[(.object "java/lang/String"), .int, .int]
  staticTypes := #[]
  resolved := Array.replicate 204 none
  statics := none }

def pool6 : Array CpInfo := pool [(1, .class_ 2), (0, u "com/example/casebook/casebook/database/Dialect"), (2, u "POSTGRESQL"), (0, u "Lcom/example/casebook/casebook/database/Dialect;"), (2, u "MARIADB"), (2, u "PORTABLE"), (2, u "$VALUES"), (0, u "[Lcom/example/casebook/casebook/database/Dialect;"), (6, .class_ 25), (1, u "java/lang/Enum"), (8, u "truncatesInTransaction"), (0, u "Z"), (2, u "rowsPerInsert"), (0, u "I"), (0, .fieldref 1 41), (0, .nameAndType 42 43), (0, u "columnsQuery"), (0, u "Ljava/lang/String;"), (2, u "tableName"), (2, u "sqlTypes"), (0, u "Ljava/util/Map;"), (2, u "typesNumberedBySettings"), (0, u "Ljava/util/Set;"), (2, u "primaryKeysQuery"), (2, u "foreignKeysQuery"), (2, u "referencingKeysQuery"), (2, u "uncheckedPrefix"), (214, u "MOST_PARAMETERS"), (1, u "PATTERN_ESCAPE"), (2, u "NAMES"), (0, u "POSTGRESQL_TABLES"), (16, u "readsColumnsFromCatalog"), (0, u "()Z")] 37

def k6c0 : Code := { maxStack := 1, maxLocals := 1, code := prog_18_method_5_code, exceptionTable := #[], attributes := #[] }
def k6m0 : Method := { name := "readsColumnsFromCatalog", desc := "()Z", sig := { parameters := [], returnType := some .boolean }, accessFlags := 0, code := some k6c0 }
/-- com/example/casebook/casebook/database/Dialect -/
def k6 : Class := { plain "com/example/casebook/casebook/database/Dialect" (some 5) with
  accessFlags := 16432
  interfaces := #[]
  cf := some (fileOf pool6 1 #[] #[{ accessFlags := 0, nameIndex := 304, descriptorIndex := 305, attributes := #[] }] 16432 23 #[] #[{ accessFlags := 16409, nameIndex := 5, descriptorIndex := 6, attributes := #[] }, { accessFlags := 16409, nameIndex := 9, descriptorIndex := 6, attributes := #[] }, { accessFlags := 16409, nameIndex := 12, descriptorIndex := 6, attributes := #[] }, { accessFlags := 26, nameIndex := 281, descriptorIndex := 39, attributes := #[] }, { accessFlags := 24, nameIndex := 283, descriptorIndex := 43, attributes := #[] }, { accessFlags := 26, nameIndex := 286, descriptorIndex := 43, attributes := #[] }, { accessFlags := 26, nameIndex := 287, descriptorIndex := 43, attributes := #[] }, { accessFlags := 18, nameIndex := 34, descriptorIndex := 35, attributes := #[] }, { accessFlags := 18, nameIndex := 38, descriptorIndex := 39, attributes := #[] }, { accessFlags := 18, nameIndex := 42, descriptorIndex := 43, attributes := #[] }, { accessFlags := 18, nameIndex := 46, descriptorIndex := 43, attributes := #[] }, { accessFlags := 18, nameIndex := 49, descriptorIndex := 50, attributes := #[] }, { accessFlags := 18, nameIndex := 53, descriptorIndex := 54, attributes := #[] }, { accessFlags := 18, nameIndex := 57, descriptorIndex := 43, attributes := #[] }, { accessFlags := 18, nameIndex := 60, descriptorIndex := 43, attributes := #[] }, { accessFlags := 18, nameIndex := 63, descriptorIndex := 43, attributes := #[] }, { accessFlags := 18, nameIndex := 66, descriptorIndex := 43, attributes := #[] }, { accessFlags := 4122, nameIndex := 15, descriptorIndex := 16, attributes := #[] }])
  fields := #[{ name := "POSTGRESQL", type := (.object "com/example/casebook/casebook/database/Dialect"), accessFlags := 16409, slot := 0, constantValue := 0 }, { name := "MARIADB", type := (.object "com/example/casebook/casebook/database/Dialect"), accessFlags := 16409, slot := 1, constantValue := 0 }, { name := "PORTABLE", type := (.object "com/example/casebook/casebook/database/Dialect"), accessFlags := 16409, slot := 2, constantValue := 0 }, { name := "MOST_PARAMETERS", type := .int, accessFlags := 26, slot := 3, constantValue := 0 }, { name := "PATTERN_ESCAPE", type := (.object "java/lang/String"), accessFlags := 24, slot := 4, constantValue := 0 }, { name := "NAMES", type := (.object "java/lang/String"), accessFlags := 26, slot := 5, constantValue := 0 }, { name := "POSTGRESQL_TABLES", type := (.object "java/lang/String"), accessFlags := 26, slot := 6, constantValue := 0 }, { name := "truncatesInTransaction", type := .boolean, accessFlags := 18, slot := 3, constantValue := 0 }, { name := "rowsPerInsert", type := .int, accessFlags := 18, slot := 4, constantValue := 0 }, { name := "columnsQuery", type := (.object "java/lang/String"), accessFlags := 18, slot := 5, constantValue := 0 }, { name := "tableName", type := (.object "java/lang/String"), accessFlags := 18, slot := 6, constantValue := 0 }, { name := "sqlTypes", type := (.object "java/util/Map"), accessFlags := 18, slot := 7, constantValue := 0 }, { name := "typesNumberedBySettings", type := (.object "java/util/Set"), accessFlags := 18, slot := 8, constantValue := 0 }, { name := "primaryKeysQuery", type := (.object "java/lang/String"), accessFlags := 18, slot := 9, constantValue := 0 }, { name := "foreignKeysQuery", type := (.object "java/lang/String"), accessFlags := 18, slot := 10, constantValue := 0 }, { name := "referencingKeysQuery", type := (.object "java/lang/String"), accessFlags := 18, slot := 11, constantValue := 0 }, { name := "uncheckedPrefix", type := (.object "java/lang/String"), accessFlags := 18, slot := 12, constantValue := 0 }, { name := "$VALUES", type := (.array (.object "com/example/casebook/casebook/database/Dialect")), accessFlags := 4122, slot := 7, constantValue := 0 }]
  methods := #[k6m0]
  instanceTypes := #[(.object "java/lang/String"), .int, .int, .boolean, .int, (.object "java/lang/String"), (.object "java/lang/String"), (.object "java/util/Map"), (.object "java/util/Set"), (.object "java/lang/String"), (.object "java/lang/String"), (.object "java/lang/String"), (.object "java/lang/String")]
  staticTypes := #[(.object "com/example/casebook/casebook/database/Dialect"), (.object "com/example/casebook/casebook/database/Dialect"), (.object "com/example/casebook/casebook/database/Dialect"), .int, (.object "java/lang/String"), (.object "java/lang/String"), (.object "java/lang/String"), (.array (.object "com/example/casebook/casebook/database/Dialect"))]
  resolved := Array.replicate 343 none
  statics := some 0 }

def pool7 : Array CpInfo := pool [(2, .class_ 4), (1, u "java/lang/CharSequence"), (42, .class_ 48), (0, u "java/lang/CharSequence$1CodePointIterator"), (10, .class_ 60), (0, u "java/lang/CharSequence$1CharIterator"), (5, .class_ 67), (0, u "java/lang/Object")] 63

/-- java/lang/CharSequence -/
def k7 : Class := { plain "java/lang/CharSequence" (some 0) with
  accessFlags := 1537
  interfaces := #[]
  cf := some (fileOf pool7 2 #[.nestMembers #[47, 59]] #[] 1537 66 #[] #[])
  fields := #[]
  methods := #[]
  instanceTypes := #[]
  staticTypes := #[]
  resolved := Array.replicate 131 none
  statics := none }

def pool8 : Array CpInfo := pool [(1, .class_ 2), (0, u "java/lang/constant/ConstantDesc"), (0, .class_ 4), (0, u "java/lang/Object")] 32

/-- java/lang/constant/ConstantDesc -/
def k8 : Class := { plain "java/lang/constant/ConstantDesc" (some 0) with
  accessFlags := 1537
  interfaces := #[]
  cf := some (fileOf pool8 1 #[] #[] 1537 3 #[] #[])
  fields := #[]
  methods := #[]
  instanceTypes := #[]
  staticTypes := #[]
  resolved := Array.replicate 37 none
  statics := none }

def pool9 : Array CpInfo := pool [(2, .class_ 4), (1, u "java/lang/Object"), (0, u "<init>"), (0, u "()V"), (3, .class_ 12), (1, u "java/lang/String"), (0, u "value"), (0, u "[B"), (2, u "coder"), (0, u "B"), (2, u "hash"), (0, u "I"), (2, u "hashIsZero"), (0, u "Z"), (13, u "COMPACT_STRINGS"), (534, .class_ 576), (0, u "java/lang/CharSequence"), (22, u "CASE_INSENSITIVE_ORDER"), (0, u "Ljava/util/Comparator;"), (500, u "serialPersistentFields"), (0, u "[Ljava/io/ObjectStreamField;"), (0, .class_ 1104), (0, u "java/lang/String$CaseInsensitiveComparator"), (1, .class_ 1107), (0, u "java/io/Serializable"), (0, .class_ 1109), (0, u "java/lang/Comparable"), (0, .class_ 1111), (0, u "java/lang/constant/Constable"), (0, .class_ 1113), (0, u "java/lang/constant/ConstantDesc"), (2, u "serialVersionUID"), (0, u "J"), (3, u "REPL"), (0, u "C"), (2, u "LATIN1"), (1, u "UTF16")] 323

def k9m0 : Method := { name := "<init>", desc := "()V", sig := { parameters := [], returnType := none }, accessFlags := 1, code := none }
/-- java/lang/String -/
def k9 : Class := { plain "java/lang/String" (some 0) with
  accessFlags := 49
  interfaces := #[4, 3, 7, 2, 8]
  cf := some (fileOf pool9 10 #[.nestMembers #[1103]] #[{ accessFlags := 1, nameIndex := 5, descriptorIndex := 6, attributes := #[] }] 49 2 #[1106, 1108, 575, 1110, 1112] #[{ accessFlags := 18, nameIndex := 13, descriptorIndex := 14, attributes := #[] }, { accessFlags := 18, nameIndex := 17, descriptorIndex := 18, attributes := #[] }, { accessFlags := 2, nameIndex := 21, descriptorIndex := 22, attributes := #[] }, { accessFlags := 2, nameIndex := 25, descriptorIndex := 26, attributes := #[] }, { accessFlags := 26, nameIndex := 1116, descriptorIndex := 1117, attributes := #[] }, { accessFlags := 24, nameIndex := 40, descriptorIndex := 26, attributes := #[] }, { accessFlags := 26, nameIndex := 1101, descriptorIndex := 1102, attributes := #[] }, { accessFlags := 26, nameIndex := 1121, descriptorIndex := 1122, attributes := #[] }, { accessFlags := 25, nameIndex := 599, descriptorIndex := 600, attributes := #[] }, { accessFlags := 24, nameIndex := 1125, descriptorIndex := 18, attributes := #[] }, { accessFlags := 24, nameIndex := 1127, descriptorIndex := 18, attributes := #[] }])
  fields := #[{ name := "value", type := (.array .byte), accessFlags := 18, slot := 0, constantValue := 0 }, { name := "coder", type := .byte, accessFlags := 18, slot := 1, constantValue := 0 }, { name := "hash", type := .int, accessFlags := 2, slot := 2, constantValue := 0 }, { name := "hashIsZero", type := .boolean, accessFlags := 2, slot := 3, constantValue := 0 }, { name := "serialVersionUID", type := .long, accessFlags := 26, slot := 0, constantValue := 0 }, { name := "COMPACT_STRINGS", type := .boolean, accessFlags := 24, slot := 1, constantValue := 0 }, { name := "serialPersistentFields", type := (.array (.object "java/io/ObjectStreamField")), accessFlags := 26, slot := 2, constantValue := 0 }, { name := "REPL", type := .char, accessFlags := 26, slot := 3, constantValue := 0 }, { name := "CASE_INSENSITIVE_ORDER", type := (.object "java/util/Comparator"), accessFlags := 25, slot := 4, constantValue := 0 }, { name := "LATIN1", type := .byte, accessFlags := 24, slot := 5, constantValue := 0 }, { name := "UTF16", type := .byte, accessFlags := 24, slot := 6, constantValue := 0 }]
  methods := #[k9m0]
  instanceTypes := #[(.array .byte), .byte, .int, .boolean]
  staticTypes := #[.long, .boolean, (.array (.object "java/io/ObjectStreamField")), .char, (.object "java/util/Comparator"), .byte, .byte]
  resolved := Array.replicate 1451 none
  statics := none }

def pool10 : Array CpInfo := pool [(1, u "java/lang/Cloneable"), (0, .class_ 1), (0, u "java/lang/Object"), (0, .class_ 3)] 3

/-- java/lang/Cloneable -/
def k10 : Class := { plain "java/lang/Cloneable" (some 0) with
  accessFlags := 1537
  interfaces := #[]
  cf := some (fileOf pool10 2 #[] #[] 1537 4 #[] #[])
  fields := #[]
  methods := #[]
  instanceTypes := #[]
  staticTypes := #[]
  resolved := Array.replicate 8 none
  statics := none }

/-- the primitive byte -/
def k11 : Class := { plain "byte" none with kind := .primitive 'B', accessFlags := 0x411 }
/-- [B -/
def k12 : Class := { plain "[B" (some 0) with kind := .array 11 .byte, interfaces := #[10, 4], accessFlags := 1041 }

/-- the primitive int -/
def k13 : Class := { plain "int" none with kind := .primitive 'I', accessFlags := 0x411 }
/-- [I -/
def k14 : Class := { plain "[I" (some 0) with kind := .array 13 .int, interfaces := #[10, 4], accessFlags := 1041 }

def heap : Heap := #[{ cls := 6, slots := #[.ref 1, .ref 4, .ref 3, .int 0, .null, .null, .null, .null], vm := .statics 6 },
  { cls := 6, slots := #[.null, .int 0, .int 0, .int 0, .int 0, .ref 2, .null, .null, .null, .null, .null, .null, .null], vm := .none },
  { cls := 9, slots := #[.null, .int 0, .int 0, .int 0], vm := .none },
  { cls := 6, slots := #[.null, .int 0, .int 0, .int 0, .int 0, .null, .null, .null, .null, .null, .null, .null, .null], vm := .none },
  { cls := 6, slots := #[.null, .int 0, .int 0, .int 0, .int 0, .ref 5, .null, .null, .null, .null, .null, .null, .null], vm := .none },
  { cls := 9, slots := #[.null, .int 0, .int 0, .int 0], vm := .none }]
def classes : Array Class := #[k0, k1, k2, k3, k4, k5, k6, k7, k8, k9, k10, k11, k12, k13, k14]
def interned : List (Array UInt16 × Addr) := []
def slotsUsed : Nat := 55
def theMethod : MethodId := ⟨1, 1⟩
def args0 : Array Value := #[.int 5]
def aboutOver (below : List Frame) : State where
  vm := { classes := classes, interned := interned.toArray }
  heap := heap
  slotsUsed := slotsUsed
  threads := #[{ frames := .invoking theMethod args0 :: below }]
def below0 : List Frame := [.native { method := ⟨0, 0⟩, args := #[] }]
def about1 : State := aboutOver below0
def p0 : Program := .bare "" "" ""
def e0 : Env := launch0.env 0 0 0
theorem w_frames : about1.frames = Frame.invoking theMethod args0 :: below0 := rfl
set_option maxRecDepth 65536 in
theorem w_args : argsFit about1.vm theMethod args0 = true := by decide +kernel
set_option maxRecDepth 65536 in
theorem w_heap : heapFits about1 = true := by decide +kernel
set_option maxRecDepth 65536 in
theorem w_runnable : about1.curStatus? = some .runnable := by decide +kernel
set_option maxRecDepth 65536 in
theorem w_alone : about1.alone = true := by decide +kernel
set_option maxRecDepth 65536 in
theorem w_named : about1.methodNamed? x = some theMethod := by decide +kernel
set_option maxRecDepth 65536 in
theorem w_hears : about1.hears theMethod below0 = true := by decide +kernel
set_option maxRecDepth 65536 in
theorem w_ripe : about1.ripe theMethod args0 below0 = true := by decide +kernel
theorem w_running : about1.status = .running := rfl
set_option maxRecDepth 65536 in
theorem w_room : about1.hasRoom e0.platform room_1 = true :=
  launch0.hasRoom_least _ room_1 (by decide +kernel) (by decide +kernel) (by decide +kernel) (by decide +kernel) (by decide +kernel) (by decide +kernel)
theorem allAtoms_all (ts : List Jvm.Cond) (a : Array Jvm.Value) (st : Jvm.State) : (allAtoms ts).before a st = ts.all (fun c => c.before a st) := by
  induction ts with
  | nil => rfl
  | cons c t ih =>
    show (Jvm.Cond.and c (allAtoms t)).before a st = _
    rw [Jvm.Cond.before_and, ih, List.all_cons]
def words1 : List Jvm.Cond := Jvm.Cond.code x code maxLocals ret :: tables_1
/-- a 'code' word, met by the world's own term for the bytes: nothing is compared byte by byte -/
theorem code_word {y : MethodName} {bytes : ByteArray} {mx : Nat} {rt : Option FieldType} {a : Array Value} {s : State} {m : MethodId} {meth : Method} {c : Code} (h1 : s.methodNamed? y = some m) (h2 : s.vm.method? m = some meth) (h3 : meth.code = some c) (h4 : c.code = bytes)
    (h5 : (c.maxLocals == mx && c.exceptionTable.isEmpty && decide (c.maxStack ≤ mostOperands) && decide (meth.sig.returnType = rt) && !meth.locks && decide (parseMethodDescriptor y.desc = some meth.sig)) = true) : (Jvm.Cond.code y bytes mx rt).before a s = true := by
  simp only [Bool.and_eq_true, beq_iff_eq, Bool.not_eq_true', decide_eq_true_eq] at h5
  obtain ⟨⟨⟨⟨⟨g1, g2⟩, g3⟩, g4⟩, g5⟩, g6⟩ := h5
  simp [Cond.before, Cond.holds, Cond.value, h1, h2, h3, h4, g1, g2, g3, g4, g5, g6]
def isCode : Jvm.Cond → Bool
  | .code _ _ _ _ => true
  | _ => false
theorem all_split {L : List Jvm.Cond} {P : Jvm.Cond → Bool} (h1 : L.all (fun c => isCode c || P c) = true) (h2 : ∀ c ∈ L.filter isCode, P c = true) : L.all P = true := by
  refine List.all_eq_true.mpr fun c hc => ?_
  have h := List.all_eq_true.mp h1 c hc
  rcases Bool.eq_false_or_eq_true (isCode c) with hi | hi
  · exact h2 c (List.mem_filter.mpr ⟨hc, hi⟩)
  · simpa [hi] using h
set_option maxRecDepth 65536 in
theorem w_c0 : (Jvm.Cond.code x code maxLocals ret).before args0 about1 = true := code_word (m := ⟨1, 1⟩) (meth := k1m1) (c := k1c1) (by decide +kernel) rfl rfl rfl (by decide +kernel)
set_option maxRecDepth 65536 in
theorem w_c1 : (Jvm.Cond.code ({ cls := "com/example/casebook/casebook/database/Dialect", name := "readsColumnsFromCatalog", desc := "()Z" } : Jvm.MethodName) prog_18_method_5_code (1 : Nat) (Option.some Jvm.ClassFile.FieldType.boolean)).before args0 about1 = true := code_word (m := ⟨6, 0⟩) (meth := k6m0) (c := k6c0) (by decide +kernel) rfl rfl rfl (by decide +kernel)
def codes1 : List Jvm.Cond := [Jvm.Cond.code x code maxLocals ret, Jvm.Cond.code ({ cls := "com/example/casebook/casebook/database/Dialect", name := "readsColumnsFromCatalog", desc := "()Z" } : Jvm.MethodName) prog_18_method_5_code (1 : Nat) (Option.some Jvm.ClassFile.FieldType.boolean)]
set_option maxRecDepth 65536 in
theorem codes_eq : words1.filter isCode = codes1 := rfl
theorem w_codes : ∀ c ∈ words1.filter isCode, c.before args0 about1 = true := by
  rw [codes_eq]
  intro c hc
  simp only [codes1, List.mem_cons, List.not_mem_nil, or_false] at hc
  rcases hc with rfl | rfl
  · exact w_c0
  · exact w_c1
set_option maxRecDepth 65536 in
theorem w_t1 : words1.all (fun c => isCode c || c.before args0 about1) = true := by decide +kernel
theorem w_tables : (allAtoms (Jvm.Cond.code x code maxLocals ret :: tables_1)).before args0 about1 = true := by
  rw [allAtoms_all]
  show words1.all (fun c => c.before args0 about1) = true
  refine all_split ?_ w_codes
  rw [w_t1]
set_option maxRecDepth 65536 in
theorem w_case : (Jvm.Cond.and given_1 narrow_1).before args0 about1 = true := by decide +kernel
theorem w_applies : (headSpec (Jvm.Cond.code x code maxLocals ret :: tables_1) room_1).applies x e0.platform about1 = true :=
  (Spec.applies_iff w_frames).mpr ⟨w_running, w_runnable, w_alone, w_named, w_hears, w_ripe, w_room, w_tables⟩
theorem atStart : AtStart classFile x code maxLocals ret World_1 tables_1 room_1 Calls_1 rest_1 Pre_1 launch0 p0 e0 about1 theMethod args0 below0 :=
  ⟨lists_1, trivial, launch0.admits_env _ _ _, launch0.least_env, fairChoices_fair.cas, fairChoices_fair.clock, w_frames, w_args, w_heap, w_applies, trivial, trivial, w_case⟩
end start1
theorem witness_1 : WitnessClaimed_1 := ⟨start1.p0, start1.e0, start1.about1, start1.theMethod, start1.args0, start1.below0, start1.atStart⟩
end Jvm.Pilot.@@N@@
