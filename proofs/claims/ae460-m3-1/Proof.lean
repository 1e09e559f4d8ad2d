import JvmDerived
import JvmDerived.Pilot.@@N@@Statement
import JvmDerived.Pilot.@@N@@Code
set_option linter.unusedVariables false
set_option linter.unusedSimpArgs false
namespace Jvm.RoadKit
open Sem ClassFile Op Lib Jvm.Stand Jvm.Free Jvm.LawKit
section New
variable {p : Program} {l : Launch} {e : Env} {R : Room} {s : State} {m : MethodId} {args : Array Value} {below : List Frame} {meth : Method} {c : Code} {T : State} {locs : List Loc} {cells slots : Nat}
theorem retI (X : Stand p l e R s m args below meth c T locs cells slots) (hx : p.tables.exec = Jvm.exec) {pc : Nat} {Ls : Array Slot} {z : Int32} {rest : List Value} (hret : meth.sig.returnType = some .int) (hd : decode c.code pc = .ok (.ireturn, 1)) {fs : List Frame}
    (hl : ∀ (f : JFrame) (acts : List Action), f.method = m → f.locked = none → f.entered = [] → (doReturn e (T.setTop f) acts (some (.int z))).1 = T.setFrames fs) : Steps p.tables e below (T.setTop (mkF m pc Ls (.int z :: rest))) (T.setFrames fs) := by
  have hm' : T.vm.method? m = some meth := X.method'
  have hn : narrow .int (.int z) = .int z := rfl
  show Steps p.tables e below (T.setTop { method := m, pc := pc, locals := Ls, stack := _ :: rest, locked := none }) _
  jvm_step X.here [X.here.top, hx, hd, hm', hret, hn]
  first | (intro acts; rw [hl _ acts rfl rfl rfl]) | rw [hl _ _ rfl rfl rfl]
  exact Steps.refl _
end New
end Jvm.RoadKit
@@BLOCK:NumsL.lean.txt@@
namespace Jvm.Pilot.@@N@@
open Jvm Jvm.ClassFile Sem Op Lib Jvm.Free Jvm.Stand Jvm.LawKit Jvm.RoadKit Bundle Jvm.Pilot.@@N@@.Jvm.D
abbrev oS (p : Program) (e : Env) (b : List Frame) (T : State) (f : JFrame) (t : State) : Prop := Steps p.tables e b (T.setTop f) t
theorem ow {a0 : Array Value} {Z : State} (hw : ∀ d ∈ tables_1, d.before a0 Z = true) (i : Nat) {c : Jvm.Cond} (h : tables_1[i]? = some c) : c.before a0 Z = true := hw _ (List.mem_of_getElem? h)
theorem own_eqi {args : Array Value} {first s : State} {o : Option Outcome} {idx : List Nat} {t : Term} {k : Int32} (h : (Jvm.Cond.eq t (.int k)).value args first o s idx = some true) : t.eval args first o idx s = some (.int k) := by
  simp only [Cond.value, Term.eval] at h
  cases ht : t.eval args first o idx s with
  | none => simp [ht] at h
  | some x => cases x <;> simp [ht] at h ⊢; exact h
theorem own_eql {args : Array Value} {first s : State} {o : Option Outcome} {idx : List Nat} {t : Term} {k : Int64} (h : (Jvm.Cond.eq t (.long k)).value args first o s idx = some true) : t.eval args first o idx s = some (.long k) := by
  simp only [Cond.value, Term.eval] at h
  cases ht : t.eval args first o idx s with
  | none => simp [ht] at h
  | some x => cases x <;> simp [ht] at h ⊢; exact h
theorem own_eqr {args : Array Value} {first s : State} {o : Option Outcome} {idx : List Nat} {t u : Term} {a : Addr} (hu : u.eval args first o idx s = some (.ref a)) (h : (Jvm.Cond.eq t u).value args first o s idx = some true) : t.eval args first o idx s = some (.ref a) := by
  simp only [Cond.value, hu] at h
  cases ht : t.eval args first o idx s with
  | none => simp [ht] at h
  | some x => cases x <;> simp [ht] at h ⊢; exact h
theorem own_fld {args : Array Value} {s : State} {t : Term} {x : Addr} {C n d : String} {v : Value} (ht : t.eval args s none [] s = some (.ref x)) (h : (Term.field t C n d).eval args s none [] s = some v) : Fld s s.heap x C n d v := Fld.start ((fld_at ht).symm.trans h)
theorem own_exa_ns {Z : State} {h : Heap} {a : Addr} {C : String} (F : Exa Z h a C) : ∀ c : Cell, h[a]? = some c → c.vm.isStatics = false := fun c hc => by
  obtain ⟨cell, k, h1, -, -, h4, -⟩ := F
  cases h1.symm.trans hc
  exact h4
theorem own_sta_keep {Z : State} {h h' : Heap} {C n d : String} {v : Value} {ws : List Addr} (F : Sta Z h C n d v) (K : Keep h h' ws) (hn : ∀ x ∈ ws, ∀ c : Cell, h[x]? = some c → c.vm.isStatics = false) : Sta Z h' C n d v := by
  obtain ⟨cf, i, k, f, st, cell, h1, h2, h3, h4, h5, h6, h7⟩ := F
  refine ⟨cf, i, k, f, st, cell, h1, h2, h3, h4, K.2.1 st cell h5 (fun q => ?_), h6, h7⟩
  rw [hn st q cell h5] at h6
  cases h6
def own_pre (a : Int64) (l : Int32) (b : Int64) (k : Int32) : Prop := a < b ∨ (a = b ∧ l < k)
theorem own_and3 (x : Int32) : x &&& (3 : Int32) = 0 ∨ x &&& (3 : Int32) = 1 ∨ x &&& (3 : Int32) = 2 ∨ x &&& (3 : Int32) = 3 := by
  have e : (x &&& (3 : Int32)).toInt = x.toInt % 2 ^ 2 := Jvm.Kit.i32_mask x 3 (k := 2) (by decide) (by decide)
  simp only [← Int32.toInt_inj]
  generalize (x &&& (3 : Int32)).toInt = z at *
  have q : z = 0 ∨ z = 1 ∨ z = 2 ∨ z = 3 := by omega
  rcases q with rfl | rfl | rfl | rfl <;> decide
def Q_prc1 (Z : State) (k1 : Int64) (n1 : Int32) (k2 : Int64) (n2 : Int32) (h0 : Heap) (n0 : Nat) (v_ : Option Value) (h_ : Heap) (L_ : List Loc) : Prop := v_ = some (.int (1 : Int32)) ∧ Fr n0 L_ ∧ h_ = h0
def Q_prc0 (Z : State) (k1 : Int64) (n1 : Int32) (k2 : Int64) (n2 : Int32) (h0 : Heap) (n0 : Nat) (v_ : Option Value) (h_ : Heap) (L_ : List Loc) : Prop := v_ = some (.int (0 : Int32)) ∧ Fr n0 L_ ∧ h_ = h0
theorem d_prog_33m7_0 : decode prog_33_method_7_code 0 = .ok (.lload_n 0, 1) := by decide +kernel
theorem d_prog_33m7_1 : decode prog_33_method_7_code 1 = .ok (.lload_n 3, 1) := by decide +kernel
theorem d_prog_33m7_2 : decode prog_33_method_7_code 2 = .ok (.lcmp, 1) := by decide +kernel
theorem d_prog_33m7_3 : decode prog_33_method_7_code 3 = .ok (.ifCond .lt 15, 3) := by decide +kernel
theorem d_prog_33m7_18 : decode prog_33_method_7_code 18 = .ok (.iconst 1, 1) := by decide +kernel
theorem d_prog_33m7_19 : decode prog_33_method_7_code 19 = .ok (.goto 4, 3) := by decide +kernel
theorem d_prog_33m7_23 : decode prog_33_method_7_code 23 = .ok (.ireturn, 1) := by decide +kernel
theorem pn_0 : plainName "com/example/greenweft/greenweft/steiner/NodeHeap" = true := by first | (simp [plainName, overriddenIn]; done) | decide +kernel
theorem ef_prcA (mM : MethodId) (x0 : Int64) (x1 : Int32) (x2 : Int64) (x3 : Int32) : entryFrame mM #[(.long x0), (.int x1), (.long x2), (.int x3)] 6 = mkF mM 0 #[.val (.long x0), .second, .val (.int x1), .val (.long x2), .second, .val (.int x3)] [] := by first | (simp [entryFrame, mkF, argsToLocals, Value.category]; done) | rfl
set_option maxRecDepth 65536 in
set_option maxHeartbeats 40000000 in
theorem rm_prcA (l : Launch) (Z : State) (a0 : Array Value) (hw : ∀ d ∈ tables_1, d.before a0 Z = true) (ws : List Jvm.Cond) (k1 : Int64) (n1 : Int32) (k2 : Int64) (n2 : Int32) (h0 : Heap) (n0 : Nat) (Z0 : n0 ≤ h0.size) (h1 : k1 < k2) :
    MetFree l (⟨"com/example/greenweft/greenweft/steiner/NodeHeap", "precedes", "(JIJI)Z"⟩ : MethodName) (head1 (Jvm.Cond.code (⟨"com/example/greenweft/greenweft/steiner/NodeHeap", "precedes", "(JIJI)Z"⟩ : MethodName) prog_33_method_7_code 6 (some .boolean) :: ws) ({ frames := 0, cells := 0, slots := 0, locals := 0 } : Room)) (fun aa_ U_ => aa_ = #[(.long k1), (.int n1), (.long k2), (.int n2)] ∧ Z.Warmed39 U_.vm ∧ U_.heap = h0) (fun _ _ _ _ _ => True) (fun _ U_ o_ U'_ => ∃ v_ L_, o_ = .returned v_ ∧ Q_prc1 Z k1 n1 k2 n2 h0 n0 v_ U'_.heap L_ ∧ FrameEnd U_ o_ U'_ L_ ({ frames := 0, cells := 0, slots := 0, locals := 0 } : Room).cells ({ frames := 0, cells := 0, slots := 0, locals := 0 } : Room).slots) := by
  refine MetFree.of_bodySF (plainFor_of_name pn_0) hisR ?_
  intro pP eE sS mM argsA below meth cC s₁ Bd hml0 hP hK
  obtain ⟨rfl, hZ, hh⟩ := hP
  have hx := Bd.exec
  have hby := Bd.bytes
  have hml : cC.maxLocals = 6 := hml0
  have hown : sS.vm.findClass "com/example/greenweft/greenweft/steiner/NodeHeap" = some mM.cls := findClass_of_methodNamed Bd.named
  have hnm := (name_of_methodNamed Bd.named Bd.method).1
  have X0 : Stand pP l eE ({ frames := 0, cells := 0, slots := 0, locals := 0 } : Room) sS mM #[(.long k1), (.int n1), (.long k2), (.int n2)] below meth cC s₁ [] 0 0 := Stand.of_body Bd
  have e0 : s₁.heap = h0 := by rw [← hh, Bd.state]; rfl
  have N0 := Fr.nil n0
  have pre0 : ∀ t_, Steps pP.tables eE below (s₁.setTop (mkF mM 0 #[.val (.long k1), .second, .val (.int n1), .val (.long k2), .second, .val (.int n2)] [])) t_ → Steps pP.tables eE below (s₁.setTop (entryFrame mM #[(.long k1), (.int n1), (.long k2), (.int n2)] 6)) t_ := fun t_ k_ => castTop (ef_prcA mM k1 n1 k2 n2) k_
  obtain ⟨fs, hr, hrun, hended, hW, hsame⟩ := X0.leave (v := some (.int (1 : Int32))) (fun h => by rw [Bd.returns] at h; cases h)
  refine ⟨_, _, pre0 _ ?_, hrun, hended, _, _, rfl, ?_, ⟨_, rfl⟩, hW, hsame.mono (by decide) (by decide)⟩
  · show oS pP eE below s₁ (mkF mM 0 #[.val (.long k1), .second, .val (.int n1), .val (.long k2), .second, .val (.int n2)] []) _
    refine XT.lloadN X0.here hx rfl (hb hby d_prog_33m7_0) rfl ?_
    refine XT.lloadN X0.here hx rfl (hb hby d_prog_33m7_1) rfl ?_
    show oS pP eE below s₁ (mkF mM 2 #[.val (.long k1), .second, .val (.int n1), .val (.long k2), .second, .val (.int n2)] [(.long k2), (.long k1)]) _
    refine XT.lcmp X0.here hx rfl (hb hby d_prog_33m7_2) rfl ?_
    refine XS.ifYes X0.here hx rfl (pc0 := 3) (pc' := 18) rfl (hb hby d_prog_33m7_3) rfl (XT.ll_lt_t h1) (by decide) (by decide) ?_
    refine XS.iconst X0.here hx rfl (hb hby d_prog_33m7_18) ?_
    refine XS.goto X0.here hx rfl (pc0 := 19) (pc' := 23) rfl (hb hby d_prog_33m7_19) (by decide) (by decide) ?_
    show oS pP eE below s₁ (mkF mM 23 #[.val (.long k1), .second, .val (.int n1), .val (.long k2), .second, .val (.int n2)] [(.int (1 : Int32))]) _
    exact retN X0 hx (t := .boolean) Bd.returns (by simp) (hb hby d_prog_33m7_23) hr
  · show Q_prc1 Z k1 n1 k2 n2 h0 n0 _ s₁.heap _
    rw [e0]
    exact ⟨rfl, N0, rfl⟩
theorem d_prog_33m7_6 : decode prog_33_method_7_code 6 = .ok (.lload_n 0, 1) := by decide +kernel
theorem d_prog_33m7_7 : decode prog_33_method_7_code 7 = .ok (.lload_n 3, 1) := by decide +kernel
theorem d_prog_33m7_8 : decode prog_33_method_7_code 8 = .ok (.lcmp, 1) := by decide +kernel
theorem d_prog_33m7_9 : decode prog_33_method_7_code 9 = .ok (.ifCond .ne 13, 3) := by decide +kernel
theorem d_prog_33m7_22 : decode prog_33_method_7_code 22 = .ok (.iconst 0, 1) := by decide +kernel
theorem ef_prcB (mM : MethodId) (x0 : Int64) (x1 : Int32) (x2 : Int64) (x3 : Int32) : entryFrame mM #[(.long x0), (.int x1), (.long x2), (.int x3)] 6 = mkF mM 0 #[.val (.long x0), .second, .val (.int x1), .val (.long x2), .second, .val (.int x3)] [] := by first | (simp [entryFrame, mkF, argsToLocals, Value.category]; done) | rfl
set_option maxRecDepth 65536 in
set_option maxHeartbeats 40000000 in
theorem rm_prcB (l : Launch) (Z : State) (a0 : Array Value) (hw : ∀ d ∈ tables_1, d.before a0 Z = true) (ws : List Jvm.Cond) (k1 : Int64) (n1 : Int32) (k2 : Int64) (n2 : Int32) (h0 : Heap) (n0 : Nat) (Z0 : n0 ≤ h0.size) (h1 : ¬ k1 < k2) (h2 : ¬ k1 = k2) :
    MetFree l (⟨"com/example/greenweft/greenweft/steiner/NodeHeap", "precedes", "(JIJI)Z"⟩ : MethodName) (head1 (Jvm.Cond.code (⟨"com/example/greenweft/greenweft/steiner/NodeHeap", "precedes", "(JIJI)Z"⟩ : MethodName) prog_33_method_7_code 6 (some .boolean) :: ws) ({ frames := 0, cells := 0, slots := 0, locals := 0 } : Room)) (fun aa_ U_ => aa_ = #[(.long k1), (.int n1), (.long k2), (.int n2)] ∧ Z.Warmed39 U_.vm ∧ U_.heap = h0) (fun _ _ _ _ _ => True) (fun _ U_ o_ U'_ => ∃ v_ L_, o_ = .returned v_ ∧ Q_prc0 Z k1 n1 k2 n2 h0 n0 v_ U'_.heap L_ ∧ FrameEnd U_ o_ U'_ L_ ({ frames := 0, cells := 0, slots := 0, locals := 0 } : Room).cells ({ frames := 0, cells := 0, slots := 0, locals := 0 } : Room).slots) := by
  refine MetFree.of_bodySF (plainFor_of_name pn_0) hisR ?_
  intro pP eE sS mM argsA below meth cC s₁ Bd hml0 hP hK
  obtain ⟨rfl, hZ, hh⟩ := hP
  have hx := Bd.exec
  have hby := Bd.bytes
  have hml : cC.maxLocals = 6 := hml0
  have hown : sS.vm.findClass "com/example/greenweft/greenweft/steiner/NodeHeap" = some mM.cls := findClass_of_methodNamed Bd.named
  have hnm := (name_of_methodNamed Bd.named Bd.method).1
  have X0 : Stand pP l eE ({ frames := 0, cells := 0, slots := 0, locals := 0 } : Room) sS mM #[(.long k1), (.int n1), (.long k2), (.int n2)] below meth cC s₁ [] 0 0 := Stand.of_body Bd
  have e0 : s₁.heap = h0 := by rw [← hh, Bd.state]; rfl
  have N0 := Fr.nil n0
  have pre0 : ∀ t_, Steps pP.tables eE below (s₁.setTop (mkF mM 0 #[.val (.long k1), .second, .val (.int n1), .val (.long k2), .second, .val (.int n2)] [])) t_ → Steps pP.tables eE below (s₁.setTop (entryFrame mM #[(.long k1), (.int n1), (.long k2), (.int n2)] 6)) t_ := fun t_ k_ => castTop (ef_prcB mM k1 n1 k2 n2) k_
  obtain ⟨fs, hr, hrun, hended, hW, hsame⟩ := X0.leave (v := some (.int (0 : Int32))) (fun h => by rw [Bd.returns] at h; cases h)
  refine ⟨_, _, pre0 _ ?_, hrun, hended, _, _, rfl, ?_, ⟨_, rfl⟩, hW, hsame.mono (by decide) (by decide)⟩
  · show oS pP eE below s₁ (mkF mM 0 #[.val (.long k1), .second, .val (.int n1), .val (.long k2), .second, .val (.int n2)] []) _
    refine XT.lloadN X0.here hx rfl (hb hby d_prog_33m7_0) rfl ?_
    refine XT.lloadN X0.here hx rfl (hb hby d_prog_33m7_1) rfl ?_
    show oS pP eE below s₁ (mkF mM 2 #[.val (.long k1), .second, .val (.int n1), .val (.long k2), .second, .val (.int n2)] [(.long k2), (.long k1)]) _
    refine XT.lcmp X0.here hx rfl (hb hby d_prog_33m7_2) rfl ?_
    refine XS.ifNo X0.here hx rfl (hb hby d_prog_33m7_3) rfl (XT.ll_lt_f h1) ?_
    refine XT.lloadN X0.here hx rfl (hb hby d_prog_33m7_6) rfl ?_
    refine XT.lloadN X0.here hx rfl (hb hby d_prog_33m7_7) rfl ?_
    show oS pP eE below s₁ (mkF mM 8 #[.val (.long k1), .second, .val (.int n1), .val (.long k2), .second, .val (.int n2)] [(.long k2), (.long k1)]) _
    refine XT.lcmp X0.here hx rfl (hb hby d_prog_33m7_8) rfl ?_
    refine XS.ifYes X0.here hx rfl (pc0 := 9) (pc' := 22) rfl (hb hby d_prog_33m7_9) rfl (XT.ll_ne_t h2) (by decide) (by decide) ?_
    refine XS.iconst X0.here hx rfl (hb hby d_prog_33m7_22) ?_
    show oS pP eE below s₁ (mkF mM 23 #[.val (.long k1), .second, .val (.int n1), .val (.long k2), .second, .val (.int n2)] [(.int (0 : Int32))]) _
    exact retN X0 hx (t := .boolean) Bd.returns (by simp) (hb hby d_prog_33m7_23) hr
  · show Q_prc0 Z k1 n1 k2 n2 h0 n0 _ s₁.heap _
    rw [e0]
    exact ⟨rfl, N0, rfl⟩
theorem d_prog_33m7_12 : decode prog_33_method_7_code 12 = .ok (.iload_n 2, 1) := by decide +kernel
theorem d_prog_33m7_13 : decode prog_33_method_7_code 13 = .ok (.iload 5, 2) := by decide +kernel
theorem d_prog_33m7_15 : decode prog_33_method_7_code 15 = .ok (.if_icmp .ge 7, 3) := by decide +kernel
theorem ef_prcC (mM : MethodId) (x0 : Int64) (x1 : Int32) (x2 : Int64) (x3 : Int32) : entryFrame mM #[(.long x0), (.int x1), (.long x2), (.int x3)] 6 = mkF mM 0 #[.val (.long x0), .second, .val (.int x1), .val (.long x2), .second, .val (.int x3)] [] := by first | (simp [entryFrame, mkF, argsToLocals, Value.category]; done) | rfl
set_option maxRecDepth 65536 in
set_option maxHeartbeats 40000000 in
theorem rm_prcC (l : Launch) (Z : State) (a0 : Array Value) (hw : ∀ d ∈ tables_1, d.before a0 Z = true) (ws : List Jvm.Cond) (k1 : Int64) (n1 : Int32) (k2 : Int64) (n2 : Int32) (h0 : Heap) (n0 : Nat) (Z0 : n0 ≤ h0.size) (h1 : ¬ k1 < k2) (h2 : k1 = k2) (h3 : n1 < n2) :
    MetFree l (⟨"com/example/greenweft/greenweft/steiner/NodeHeap", "precedes", "(JIJI)Z"⟩ : MethodName) (head1 (Jvm.Cond.code (⟨"com/example/greenweft/greenweft/steiner/NodeHeap", "precedes", "(JIJI)Z"⟩ : MethodName) prog_33_method_7_code 6 (some .boolean) :: ws) ({ frames := 0, cells := 0, slots := 0, locals := 0 } : Room)) (fun aa_ U_ => aa_ = #[(.long k1), (.int n1), (.long k2), (.int n2)] ∧ Z.Warmed39 U_.vm ∧ U_.heap = h0) (fun _ _ _ _ _ => True) (fun _ U_ o_ U'_ => ∃ v_ L_, o_ = .returned v_ ∧ Q_prc1 Z k1 n1 k2 n2 h0 n0 v_ U'_.heap L_ ∧ FrameEnd U_ o_ U'_ L_ ({ frames := 0, cells := 0, slots := 0, locals := 0 } : Room).cells ({ frames := 0, cells := 0, slots := 0, locals := 0 } : Room).slots) := by
  refine MetFree.of_bodySF (plainFor_of_name pn_0) hisR ?_
  intro pP eE sS mM argsA below meth cC s₁ Bd hml0 hP hK
  obtain ⟨rfl, hZ, hh⟩ := hP
  have hx := Bd.exec
  have hby := Bd.bytes
  have hml : cC.maxLocals = 6 := hml0
  have hown : sS.vm.findClass "com/example/greenweft/greenweft/steiner/NodeHeap" = some mM.cls := findClass_of_methodNamed Bd.named
  have hnm := (name_of_methodNamed Bd.named Bd.method).1
  have X0 : Stand pP l eE ({ frames := 0, cells := 0, slots := 0, locals := 0 } : Room) sS mM #[(.long k1), (.int n1), (.long k2), (.int n2)] below meth cC s₁ [] 0 0 := Stand.of_body Bd
  have e0 : s₁.heap = h0 := by rw [← hh, Bd.state]; rfl
  have N0 := Fr.nil n0
  have pre0 : ∀ t_, Steps pP.tables eE below (s₁.setTop (mkF mM 0 #[.val (.long k1), .second, .val (.int n1), .val (.long k2), .second, .val (.int n2)] [])) t_ → Steps pP.tables eE below (s₁.setTop (entryFrame mM #[(.long k1), (.int n1), (.long k2), (.int n2)] 6)) t_ := fun t_ k_ => castTop (ef_prcC mM k1 n1 k2 n2) k_
  obtain ⟨fs, hr, hrun, hended, hW, hsame⟩ := X0.leave (v := some (.int (1 : Int32))) (fun h => by rw [Bd.returns] at h; cases h)
  refine ⟨_, _, pre0 _ ?_, hrun, hended, _, _, rfl, ?_, ⟨_, rfl⟩, hW, hsame.mono (by decide) (by decide)⟩
  · show oS pP eE below s₁ (mkF mM 0 #[.val (.long k1), .second, .val (.int n1), .val (.long k2), .second, .val (.int n2)] []) _
    refine XT.lloadN X0.here hx rfl (hb hby d_prog_33m7_0) rfl ?_
    refine XT.lloadN X0.here hx rfl (hb hby d_prog_33m7_1) rfl ?_
    show oS pP eE below s₁ (mkF mM 2 #[.val (.long k1), .second, .val (.int n1), .val (.long k2), .second, .val (.int n2)] [(.long k2), (.long k1)]) _
    refine XT.lcmp X0.here hx rfl (hb hby d_prog_33m7_2) rfl ?_
    refine XS.ifNo X0.here hx rfl (hb hby d_prog_33m7_3) rfl (XT.ll_lt_f h1) ?_
    refine XT.lloadN X0.here hx rfl (hb hby d_prog_33m7_6) rfl ?_
    refine XT.lloadN X0.here hx rfl (hb hby d_prog_33m7_7) rfl ?_
    show oS pP eE below s₁ (mkF mM 8 #[.val (.long k1), .second, .val (.int n1), .val (.long k2), .second, .val (.int n2)] [(.long k2), (.long k1)]) _
    refine XT.lcmp X0.here hx rfl (hb hby d_prog_33m7_8) rfl ?_
    refine XS.ifNo X0.here hx rfl (hb hby d_prog_33m7_9) rfl (XT.ll_ne_f h2) ?_
    refine XS.iloadN X0.here hx rfl (hb hby d_prog_33m7_12) rfl ?_
    refine XS.iload X0.here hx rfl (hb hby d_prog_33m7_13) rfl ?_
    refine XS.icmpNo X0.here hx rfl (hb hby d_prog_33m7_15) rfl (XT.ii_ge_f h3) ?_
    refine XS.iconst X0.here hx rfl (hb hby d_prog_33m7_18) ?_
    refine XS.goto X0.here hx rfl (pc0 := 19) (pc' := 23) rfl (hb hby d_prog_33m7_19) (by decide) (by decide) ?_
    show oS pP eE below s₁ (mkF mM 23 #[.val (.long k1), .second, .val (.int n1), .val (.long k2), .second, .val (.int n2)] [(.int (1 : Int32))]) _
    exact retN X0 hx (t := .boolean) Bd.returns (by simp) (hb hby d_prog_33m7_23) hr
  · show Q_prc1 Z k1 n1 k2 n2 h0 n0 _ s₁.heap _
    rw [e0]
    exact ⟨rfl, N0, rfl⟩
theorem ef_prcD (mM : MethodId) (x0 : Int64) (x1 : Int32) (x2 : Int64) (x3 : Int32) : entryFrame mM #[(.long x0), (.int x1), (.long x2), (.int x3)] 6 = mkF mM 0 #[.val (.long x0), .second, .val (.int x1), .val (.long x2), .second, .val (.int x3)] [] := by first | (simp [entryFrame, mkF, argsToLocals, Value.category]; done) | rfl
set_option maxRecDepth 65536 in
set_option maxHeartbeats 40000000 in
theorem rm_prcD (l : Launch) (Z : State) (a0 : Array Value) (hw : ∀ d ∈ tables_1, d.before a0 Z = true) (ws : List Jvm.Cond) (k1 : Int64) (n1 : Int32) (k2 : Int64) (n2 : Int32) (h0 : Heap) (n0 : Nat) (Z0 : n0 ≤ h0.size) (h1 : ¬ k1 < k2) (h2 : k1 = k2) (h3 : ¬ n1 < n2) :
    MetFree l (⟨"com/example/greenweft/greenweft/steiner/NodeHeap", "precedes", "(JIJI)Z"⟩ : MethodName) (head1 (Jvm.Cond.code (⟨"com/example/greenweft/greenweft/steiner/NodeHeap", "precedes", "(JIJI)Z"⟩ : MethodName) prog_33_method_7_code 6 (some .boolean) :: ws) ({ frames := 0, cells := 0, slots := 0, locals := 0 } : Room)) (fun aa_ U_ => aa_ = #[(.long k1), (.int n1), (.long k2), (.int n2)] ∧ Z.Warmed39 U_.vm ∧ U_.heap = h0) (fun _ _ _ _ _ => True) (fun _ U_ o_ U'_ => ∃ v_ L_, o_ = .returned v_ ∧ Q_prc0 Z k1 n1 k2 n2 h0 n0 v_ U'_.heap L_ ∧ FrameEnd U_ o_ U'_ L_ ({ frames := 0, cells := 0, slots := 0, locals := 0 } : Room).cells ({ frames := 0, cells := 0, slots := 0, locals := 0 } : Room).slots) := by
  refine MetFree.of_bodySF (plainFor_of_name pn_0) hisR ?_
  intro pP eE sS mM argsA below meth cC s₁ Bd hml0 hP hK
  obtain ⟨rfl, hZ, hh⟩ := hP
  have hx := Bd.exec
  have hby := Bd.bytes
  have hml : cC.maxLocals = 6 := hml0
  have hown : sS.vm.findClass "com/example/greenweft/greenweft/steiner/NodeHeap" = some mM.cls := findClass_of_methodNamed Bd.named
  have hnm := (name_of_methodNamed Bd.named Bd.method).1
  have X0 : Stand pP l eE ({ frames := 0, cells := 0, slots := 0, locals := 0 } : Room) sS mM #[(.long k1), (.int n1), (.long k2), (.int n2)] below meth cC s₁ [] 0 0 := Stand.of_body Bd
  have e0 : s₁.heap = h0 := by rw [← hh, Bd.state]; rfl
  have N0 := Fr.nil n0
  have pre0 : ∀ t_, Steps pP.tables eE below (s₁.setTop (mkF mM 0 #[.val (.long k1), .second, .val (.int n1), .val (.long k2), .second, .val (.int n2)] [])) t_ → Steps pP.tables eE below (s₁.setTop (entryFrame mM #[(.long k1), (.int n1), (.long k2), (.int n2)] 6)) t_ := fun t_ k_ => castTop (ef_prcD mM k1 n1 k2 n2) k_
  obtain ⟨fs, hr, hrun, hended, hW, hsame⟩ := X0.leave (v := some (.int (0 : Int32))) (fun h => by rw [Bd.returns] at h; cases h)
  refine ⟨_, _, pre0 _ ?_, hrun, hended, _, _, rfl, ?_, ⟨_, rfl⟩, hW, hsame.mono (by decide) (by decide)⟩
  · show oS pP eE below s₁ (mkF mM 0 #[.val (.long k1), .second, .val (.int n1), .val (.long k2), .second, .val (.int n2)] []) _
    refine XT.lloadN X0.here hx rfl (hb hby d_prog_33m7_0) rfl ?_
    refine XT.lloadN X0.here hx rfl (hb hby d_prog_33m7_1) rfl ?_
    show oS pP eE below s₁ (mkF mM 2 #[.val (.long k1), .second, .val (.int n1), .val (.long k2), .second, .val (.int n2)] [(.long k2), (.long k1)]) _
    refine XT.lcmp X0.here hx rfl (hb hby d_prog_33m7_2) rfl ?_
    refine XS.ifNo X0.here hx rfl (hb hby d_prog_33m7_3) rfl (XT.ll_lt_f h1) ?_
    refine XT.lloadN X0.here hx rfl (hb hby d_prog_33m7_6) rfl ?_
    refine XT.lloadN X0.here hx rfl (hb hby d_prog_33m7_7) rfl ?_
    show oS pP eE below s₁ (mkF mM 8 #[.val (.long k1), .second, .val (.int n1), .val (.long k2), .second, .val (.int n2)] [(.long k2), (.long k1)]) _
    refine XT.lcmp X0.here hx rfl (hb hby d_prog_33m7_8) rfl ?_
    refine XS.ifNo X0.here hx rfl (hb hby d_prog_33m7_9) rfl (XT.ll_ne_f h2) ?_
    refine XS.iloadN X0.here hx rfl (hb hby d_prog_33m7_12) rfl ?_
    refine XS.iload X0.here hx rfl (hb hby d_prog_33m7_13) rfl ?_
    refine XS.icmpYes X0.here hx rfl (pc0 := 15) (pc' := 22) rfl (hb hby d_prog_33m7_15) rfl (XT.ii_ge_t h3) (by decide) (by decide) ?_
    refine XS.iconst X0.here hx rfl (hb hby d_prog_33m7_22) ?_
    show oS pP eE below s₁ (mkF mM 23 #[.val (.long k1), .second, .val (.int n1), .val (.long k2), .second, .val (.int n2)] [(.int (0 : Int32))]) _
    exact retN X0 hx (t := .boolean) Bd.returns (by simp) (hb hby d_prog_33m7_23) hr
  · show Q_prc0 Z k1 n1 k2 n2 h0 n0 _ s₁.heap _
    rw [e0]
    exact ⟨rfl, N0, rfl⟩
set_option maxRecDepth 65536 in
set_option maxHeartbeats 40000000 in
theorem rm_prc1 (l : Launch) (Z : State) (a0 : Array Value) (hw : ∀ d ∈ tables_1, d.before a0 Z = true) (ws : List Jvm.Cond) (k1 : Int64) (n1 : Int32) (k2 : Int64) (n2 : Int32) (h0 : Heap) (n0 : Nat) (Z0 : n0 ≤ h0.size) (hp : own_pre k1 n1 k2 n2) :
    MetFree l (⟨"com/example/greenweft/greenweft/steiner/NodeHeap", "precedes", "(JIJI)Z"⟩ : MethodName) (head1 (Jvm.Cond.code (⟨"com/example/greenweft/greenweft/steiner/NodeHeap", "precedes", "(JIJI)Z"⟩ : MethodName) prog_33_method_7_code 6 (some .boolean) :: ws) ({ frames := 0, cells := 0, slots := 0, locals := 0 } : Room)) (fun aa_ U_ => aa_ = #[(.long k1), (.int n1), (.long k2), (.int n2)] ∧ Z.Warmed39 U_.vm ∧ U_.heap = h0) (fun _ _ _ _ _ => True) (fun _ U_ o_ U'_ => ∃ v_ L_, o_ = .returned v_ ∧ Q_prc1 Z k1 n1 k2 n2 h0 n0 v_ U'_.heap L_ ∧ FrameEnd U_ o_ U'_ L_ ({ frames := 0, cells := 0, slots := 0, locals := 0 } : Room).cells ({ frames := 0, cells := 0, slots := 0, locals := 0 } : Room).slots) := by
  by_cases h1 : k1 < k2
  · exact rm_prcA l Z a0 hw ws k1 n1 k2 n2 h0 n0 Z0 h1
  · obtain ⟨h2, h3⟩ := hp.resolve_left h1
    exact rm_prcC l Z a0 hw ws k1 n1 k2 n2 h0 n0 Z0 h1 h2 h3
set_option maxRecDepth 65536 in
set_option maxHeartbeats 40000000 in
theorem rm_prc0 (l : Launch) (Z : State) (a0 : Array Value) (hw : ∀ d ∈ tables_1, d.before a0 Z = true) (ws : List Jvm.Cond) (k1 : Int64) (n1 : Int32) (k2 : Int64) (n2 : Int32) (h0 : Heap) (n0 : Nat) (Z0 : n0 ≤ h0.size) (hp : ¬ own_pre k1 n1 k2 n2) :
    MetFree l (⟨"com/example/greenweft/greenweft/steiner/NodeHeap", "precedes", "(JIJI)Z"⟩ : MethodName) (head1 (Jvm.Cond.code (⟨"com/example/greenweft/greenweft/steiner/NodeHeap", "precedes", "(JIJI)Z"⟩ : MethodName) prog_33_method_7_code 6 (some .boolean) :: ws) ({ frames := 0, cells := 0, slots := 0, locals := 0 } : Room)) (fun aa_ U_ => aa_ = #[(.long k1), (.int n1), (.long k2), (.int n2)] ∧ Z.Warmed39 U_.vm ∧ U_.heap = h0) (fun _ _ _ _ _ => True) (fun _ U_ o_ U'_ => ∃ v_ L_, o_ = .returned v_ ∧ Q_prc0 Z k1 n1 k2 n2 h0 n0 v_ U'_.heap L_ ∧ FrameEnd U_ o_ U'_ L_ ({ frames := 0, cells := 0, slots := 0, locals := 0 } : Room).cells ({ frames := 0, cells := 0, slots := 0, locals := 0 } : Room).slots) := by
  have h1 : ¬ k1 < k2 := fun q => hp (Or.inl q)
  by_cases h2 : k1 = k2
  · exact rm_prcD l Z a0 hw ws k1 n1 k2 n2 h0 n0 Z0 h1 h2 (fun q => hp (Or.inr ⟨h2, q⟩))
  · exact rm_prcB l Z a0 hw ws k1 n1 k2 n2 h0 n0 Z0 h1 h2
theorem d_prog_33m1_0 : decode prog_33_method_1_code 0 = .ok (.aload_n 0, 1) := by decide +kernel
theorem d_prog_33m1_1 : decode prog_33_method_1_code 1 = .ok (.invokespecial 1, 3) := by decide +kernel
theorem d_prog_33m1_4 : decode prog_33_method_1_code 4 = .ok (.aload_n 0, 1) := by decide +kernel
theorem d_prog_33m1_5 : decode prog_33_method_1_code 5 = .ok (.bipush 16, 2) := by decide +kernel
theorem d_prog_33m1_7 : decode prog_33_method_1_code 7 = .ok (.newarray .long, 2) := by decide +kernel
theorem d_prog_33m1_9 : decode prog_33_method_1_code 9 = .ok (.putfield 7, 3) := by decide +kernel
theorem d_prog_33m1_12 : decode prog_33_method_1_code 12 = .ok (.aload_n 0, 1) := by decide +kernel
theorem d_prog_33m1_13 : decode prog_33_method_1_code 13 = .ok (.bipush 16, 2) := by decide +kernel
theorem d_prog_33m1_15 : decode prog_33_method_1_code 15 = .ok (.newarray .int, 2) := by decide +kernel
theorem d_prog_33m1_17 : decode prog_33_method_1_code 17 = .ok (.putfield 13, 3) := by decide +kernel
theorem d_prog_33m1_20 : decode prog_33_method_1_code 20 = .ok (.return_, 1) := by decide +kernel
theorem ef_init (mM : MethodId) (x0 : Addr) : entryFrame mM #[(.ref x0)] 1 = mkF mM 0 #[.val (.ref x0)] [] := by first | (simp [entryFrame, mkF, argsToLocals, Value.category]; done) | rfl
def Q_init (Z : State) (a : Addr) (h0 : Heap) (n0 : Nat) (v_ : Option Value) (h_ : Heap) (L_ : List Loc) : Prop := ∃ d : Addr, ∃ g : Addr, ∃ kd : ClassId, ∃ kg : ClassId, v_ = none ∧ Fr n0 L_ ∧ Keep h0 h_ [a] ∧ h0.size ≤ d ∧ h0.size ≤ g ∧ d ≠ g ∧ Exa Z h_ a "com/example/greenweft/greenweft/steiner/NodeHeap" ∧ Fld Z h_ a "com/example/greenweft/greenweft/steiner/NodeHeap" "keys" "[J" (.ref d) ∧ Fld Z h_ a "com/example/greenweft/greenweft/steiner/NodeHeap" "nodes" "[I" (.ref g) ∧ Fld Z h_ a "com/example/greenweft/greenweft/steiner/NodeHeap" "size" "I" (.int (0 : Int32)) ∧ Arv Z h_ d kd .long (16 : Int32) [(.long (0 : Int64)), (.long (0 : Int64)), (.long (0 : Int64)), (.long (0 : Int64))] (.long (0 : Int64)) ∧ Arv Z h_ g kg .int (16 : Int32) [(.int (0 : Int32)), (.int (0 : Int32)), (.int (0 : Int32)), (.int (0 : Int32))] (.int (0 : Int32))
set_option maxRecDepth 65536 in
set_option maxHeartbeats 40000000 in
theorem rm_init (l : Launch) (Z : State) (a0 : Array Value) (hw : ∀ d ∈ tables_1, d.before a0 Z = true) (ws : List Jvm.Cond) (a : Addr) (h0 : Heap) (n0 : Nat) (Z0 : n0 ≤ h0.size) (F_keys_a : Fld Z h0 a "com/example/greenweft/greenweft/steiner/NodeHeap" "keys" "[J" .null) (F_nodes_a : Fld Z h0 a "com/example/greenweft/greenweft/steiner/NodeHeap" "nodes" "[I" .null) (F_size_a : Fld Z h0 a "com/example/greenweft/greenweft/steiner/NodeHeap" "size" "I" (.int (0 : Int32))) (E_a : Exa Z h0 a "com/example/greenweft/greenweft/steiner/NodeHeap") (g_a : n0 ≤ a) :
    MetFree l (⟨"com/example/greenweft/greenweft/steiner/NodeHeap", "<init>", "()V"⟩ : MethodName) (head1 (Jvm.Cond.code (⟨"com/example/greenweft/greenweft/steiner/NodeHeap", "<init>", "()V"⟩ : MethodName) prog_33_method_1_code 1 none :: ws) ({ frames := 1, cells := 2, slots := 32, locals := 12 } : Room)) (fun aa_ U_ => aa_ = #[(.ref a)] ∧ Z.Warmed39 U_.vm ∧ U_.heap = h0) (fun _ _ _ _ _ => True) (fun _ U_ o_ U'_ => ∃ v_ L_, o_ = .returned v_ ∧ Q_init Z a h0 n0 v_ U'_.heap L_ ∧ FrameEnd U_ o_ U'_ L_ ({ frames := 1, cells := 2, slots := 32, locals := 12 } : Room).cells ({ frames := 1, cells := 2, slots := 32, locals := 12 } : Room).slots) := by
  refine MetFree.of_bodySF (plainFor_of_name pn_0) hisR ?_
  intro pP eE sS mM argsA below meth cC s₁ Bd hml0 hP hK
  obtain ⟨rfl, hZ, hh⟩ := hP
  have hx := Bd.exec
  have hby := Bd.bytes
  have hml : cC.maxLocals = 1 := hml0
  have hown : sS.vm.findClass "com/example/greenweft/greenweft/steiner/NodeHeap" = some mM.cls := findClass_of_methodNamed Bd.named
  have hnm := (name_of_methodNamed Bd.named Bd.method).1
  have X0 : Stand pP l eE ({ frames := 1, cells := 2, slots := 32, locals := 12 } : Room) sS mM #[(.ref a)] below meth cC s₁ [] 0 0 := Stand.of_body Bd
  have e0 : s₁.heap = h0 := by rw [← hh, Bd.state]; rfl
  have N0 := Fr.nil n0
  have pre0 : ∀ t_, Steps pP.tables eE below (s₁.setTop (mkF mM 0 #[.val (.ref a)] [])) t_ → Steps pP.tables eE below (s₁.setTop (entryFrame mM #[(.ref a)] 1)) t_ := fun t_ k_ => castTop (ef_init mM a) k_
  obtain ⟨T_1, X_1, e_1, st_1⟩ := initO X0 hx hZ hown (ow hw 7 rfl) (ow hw 8 rfl) (ow hw 9 rfl) e0 (g := (mkF mM 1 #[.val (.ref a)] [(.ref a)])) rfl (by rw [hml]; rfl) rfl (hb hby d_prog_33m1_1) (by decide) (W := 0) (by show 2 * 0 + _ ≤ _; exact Nat.le_of_eq rfl) (by decide)
  obtain ⟨T_2, h_2, k_2, X_2, e_2, E_2, A_2, st_2⟩ := newP X_1 hx hZ (ow hw 10 rfl) e_1 (g := (mkF mM 7 #[.val (.ref a)] [(.int (16 : Int32)), (.ref a)])) rfl (hb hby d_prog_33m1_7) rfl (by decide) (cap := 16) (by decide) (by decide) (by decide) (by decide)
  obtain ⟨b_2, g_2⟩ : ∃ z, z = h0.size := ⟨_, rfl⟩
  rw [← g_2] at A_2 st_2
  have g_b_2 : n0 ≤ b_2 := Nat.le_trans Z0 (Nat.le_of_eq g_2.symm)
  have sz_b_2 : h0.size ≤ b_2 := Nat.le_trans (Keep.refl h0 [a]).1 (Nat.le_of_eq g_2.symm)
  have Z_2 : n0 ≤ h_2.size := (Nat.le_trans Z0 E_2.1)
  have K_2 : Keep h0 h_2 [a] := (Keep.refl h0 [a]).ext E_2
  have V_b_2 : Arv Z h_2 b_2 k_2 .long (16 : Int32) [(.long (0 : Int64)), (.long (0 : Int64)), (.long (0 : Int64)), (.long (0 : Int64))] (.long (0 : Int64)) := (Arv.new A_2 (by decide)).pad (pad_rep [] (.long (0 : Int64)) 4)
  obtain ⟨T_3, h_3, X_3, e_3, W_3, st_3⟩ := putF X_2 hx hZ hown (host := "") (Or.inl (ow hw 11 rfl)) Via.refl e_2 (F_keys_a.ext E_2) (E_a.ext E_2) (Or.inl (ow hw 12 rfl)) (ow hw 2 rfl) (ty := (.array .long)) (by decide) rfl rfl (g := (mkF mM 9 #[.val (.ref a)] [(.ref b_2), (.ref a)])) rfl rfl (hb hby d_prog_33m1_9)
  have Fw_3 := (F_keys_a.ext E_2).same W_3
  have Z_3 : n0 ≤ h_3.size := (Nat.le_trans Z_2 (Keep.of_wr W_3).1)
  have K_3 : Keep h0 h_3 [a] := K_2.wr W_3 (Or.inl (List.mem_of_getElem? (i := 0) rfl))
  have N_3 := Fr.snoc X_3 N0 g_a
  obtain ⟨T_4, h_4, k_4, X_4, e_4, E_4, A_4, st_4⟩ := newP X_3 hx hZ (ow hw 13 rfl) e_3 (g := (mkF mM 15 #[.val (.ref a)] [(.int (16 : Int32)), (.ref a)])) rfl (hb hby d_prog_33m1_15) rfl (by decide) (cap := 16) (by decide) (by decide) (by decide) (by decide)
  obtain ⟨b_4, g_4⟩ : ∃ z, z = h_3.size := ⟨_, rfl⟩
  rw [← g_4] at A_4 st_4
  have g_b_4 : n0 ≤ b_4 := Nat.le_trans Z_3 (Nat.le_of_eq g_4.symm)
  have sz_b_4 : h0.size ≤ b_4 := Nat.le_trans K_3.1 (Nat.le_of_eq g_4.symm)
  have Z_4 : n0 ≤ h_4.size := (Nat.le_trans Z_3 E_4.1)
  have K_4 : Keep h0 h_4 [a] := K_3.ext E_4
  have V_b_4 : Arv Z h_4 b_4 k_4 .int (16 : Int32) [(.int (0 : Int32)), (.int (0 : Int32)), (.int (0 : Int32)), (.int (0 : Int32))] (.int (0 : Int32)) := (Arv.new A_4 (by decide)).pad (pad_rep [] (.int (0 : Int32)) 4)
  obtain ⟨T_5, h_5, X_5, e_5, W_5, st_5⟩ := putF X_4 hx hZ hown (host := "") (Or.inl (ow hw 14 rfl)) Via.refl e_4 (((F_nodes_a.ext E_2).other W_3 (Or.inr (slot_ne (Or.inl (ow hw 15 rfl)) (Or.inl (ow hw 12 rfl)) (by decide) (t := (.array .int)) (t' := (.array .long)) (by decide) (by decide)))).ext E_4) (((E_a.ext E_2).wr W_3).ext E_4) (Or.inl (ow hw 15 rfl)) (ow hw 2 rfl) (ty := (.array .int)) (by decide) rfl rfl (g := (mkF mM 17 #[.val (.ref a)] [(.ref b_4), (.ref a)])) rfl rfl (hb hby d_prog_33m1_17)
  have Fw_5 := (((F_nodes_a.ext E_2).other W_3 (Or.inr (slot_ne (Or.inl (ow hw 15 rfl)) (Or.inl (ow hw 12 rfl)) (by decide) (t := (.array .int)) (t' := (.array .long)) (by decide) (by decide)))).ext E_4).same W_5
  have Z_5 : n0 ≤ h_5.size := (Nat.le_trans Z_4 (Keep.of_wr W_5).1)
  have K_5 : Keep h0 h_5 [a] := K_4.wr W_5 (Or.inl (List.mem_of_getElem? (i := 0) rfl))
  have N_5 := Fr.snoc X_5 N_3 g_a
  obtain ⟨fs, hr, hrun, hended, hW, hsame⟩ := X_5.leave (v := none) (fun _ => rfl)
  refine ⟨_, _, pre0 _ ?_, hrun, hended, _, _, rfl, ?_, ⟨_, rfl⟩, hW, hsame.mono (by decide) (by decide)⟩
  · show oS pP eE below s₁ (mkF mM 0 #[.val (.ref a)] []) _
    refine XS.aloadN X0.here hx rfl (hb hby d_prog_33m1_0) rfl rfl ?_
    show oS pP eE below s₁ (mkF mM 1 #[.val (.ref a)] [(.ref a)]) _
    refine st_1 _ ?_
    show oS pP eE below T_1 (mkF mM 4 #[.val (.ref a)] []) _
    refine XS.aloadN X_1.here hx rfl (hb hby d_prog_33m1_4) rfl rfl ?_
    refine XS.bipush X_1.here hx rfl (hb hby d_prog_33m1_5) ?_
    show oS pP eE below T_1 (mkF mM 7 #[.val (.ref a)] [(.int (16 : Int32)), (.ref a)]) _
    refine st_2 _ ?_
    show oS pP eE below T_2 (mkF mM 9 #[.val (.ref a)] [(.ref b_2), (.ref a)]) _
    refine st_3 _ ?_
    show oS pP eE below T_3 (mkF mM 12 #[.val (.ref a)] []) _
    refine XS.aloadN X_3.here hx rfl (hb hby d_prog_33m1_12) rfl rfl ?_
    refine XS.bipush X_3.here hx rfl (hb hby d_prog_33m1_13) ?_
    show oS pP eE below T_3 (mkF mM 15 #[.val (.ref a)] [(.int (16 : Int32)), (.ref a)]) _
    refine st_4 _ ?_
    show oS pP eE below T_4 (mkF mM 17 #[.val (.ref a)] [(.ref b_4), (.ref a)]) _
    refine st_5 _ ?_
    show oS pP eE below T_5 (mkF mM 20 #[.val (.ref a)] []) _
    exact X_5.returnOut hx Bd.returns (hb hby d_prog_33m1_20) hr
  · show Q_init Z a h0 n0 _ T_5.heap _
    rw [e_5]
    exact ⟨b_2, b_4, k_2, k_4, rfl, N_5, K_5, sz_b_2, sz_b_4, (Nat.ne_of_lt (Nat.lt_of_lt_of_le (V_b_2.other W_3 (Ne.symm (Nat.ne_of_lt (Nat.lt_of_lt_of_le E_a.lt (Nat.le_of_eq g_2.symm))))).lt (Nat.le_of_eq g_4.symm))), ((((E_a.ext E_2).wr W_3).ext E_4).wr W_5), ((Fw_3.ext E_4).other W_5 (Or.inr (slot_ne (Or.inl (ow hw 12 rfl)) (Or.inl (ow hw 15 rfl)) (by decide) (t := (.array .long)) (t' := (.array .int)) (by decide) (by decide)))), Fw_5, ((((F_size_a.ext E_2).other W_3 (Or.inr (slot_ne (Or.inl (ow hw 22 rfl)) (Or.inl (ow hw 12 rfl)) (by decide) (t := .int) (t' := (.array .long)) (by decide) (by decide)))).ext E_4).other W_5 (Or.inr (slot_ne (Or.inl (ow hw 22 rfl)) (Or.inl (ow hw 15 rfl)) (by decide) (t := .int) (t' := (.array .int)) (by decide) (by decide)))), (((V_b_2.other W_3 (Ne.symm (Nat.ne_of_lt (Nat.lt_of_lt_of_le E_a.lt (Nat.le_of_eq g_2.symm))))).ext E_4).other W_5 (Ne.symm (Nat.ne_of_lt (Nat.lt_of_lt_of_le E_a.lt (Nat.le_of_eq g_2.symm))))), (V_b_4.other W_5 (Ne.symm (Nat.ne_of_lt (Nat.lt_of_lt_of_le ((E_a.ext E_2).wr W_3).lt (Nat.le_of_eq g_4.symm)))))⟩
def Q_add0 (Z : State) (a : Addr) (d : Addr) (g : Addr) (kd : ClassId) (kg : ClassId) (key : Int64) (nd : Int32) (x0 : Int64) (x1 : Int64) (x2 : Int64) (x3 : Int64) (y0 : Int32) (y1 : Int32) (y2 : Int32) (y3 : Int32) (h0 : Heap) (n0 : Nat) (v_ : Option Value) (h_ : Heap) (L_ : List Loc) : Prop := ∃ u0 : Int64, ∃ u1 : Int64, ∃ u2 : Int64, ∃ u3 : Int64, ∃ v0 : Int32, ∃ v1 : Int32, ∃ v2 : Int32, ∃ v3 : Int32, v_ = none ∧ Fr n0 L_ ∧ Keep h0 h_ [a, d, g] ∧ Fld Z h_ a "com/example/greenweft/greenweft/steiner/NodeHeap" "size" "I" (.int (1 : Int32)) ∧ Fld Z h_ a "com/example/greenweft/greenweft/steiner/NodeHeap" "keys" "[J" (.ref d) ∧ Fld Z h_ a "com/example/greenweft/greenweft/steiner/NodeHeap" "nodes" "[I" (.ref g) ∧ Exa Z h_ a "com/example/greenweft/greenweft/steiner/NodeHeap" ∧ Arv Z h_ d kd .long (16 : Int32) [(.long u0), (.long u1), (.long u2), (.long u3)] (.long (0 : Int64)) ∧ Arv Z h_ g kg .int (16 : Int32) [(.int v0), (.int v1), (.int v2), (.int v3)] (.int (0 : Int32))
theorem d_prog_33m4_0 : decode prog_33_method_4_code 0 = .ok (.aload_n 0, 1) := by decide +kernel
theorem d_prog_33m4_1 : decode prog_33_method_4_code 1 = .ok (.getfield 17, 3) := by decide +kernel
theorem d_prog_33m4_4 : decode prog_33_method_4_code 4 = .ok (.aload_n 0, 1) := by decide +kernel
theorem d_prog_33m4_5 : decode prog_33_method_4_code 5 = .ok (.getfield 7, 3) := by decide +kernel
theorem d_prog_33m4_8 : decode prog_33_method_4_code 8 = .ok (.arraylength, 1) := by decide +kernel
theorem d_prog_33m4_9 : decode prog_33_method_4_code 9 = .ok (.if_icmp .ne 37, 3) := by decide +kernel
theorem d_prog_33m4_46 : decode prog_33_method_4_code 46 = .ok (.aload_n 0, 1) := by decide +kernel
theorem d_prog_33m4_47 : decode prog_33_method_4_code 47 = .ok (.dup, 1) := by decide +kernel
theorem d_prog_33m4_48 : decode prog_33_method_4_code 48 = .ok (.getfield 17, 3) := by decide +kernel
theorem d_prog_33m4_51 : decode prog_33_method_4_code 51 = .ok (.dup_x1, 1) := by decide +kernel
theorem d_prog_33m4_52 : decode prog_33_method_4_code 52 = .ok (.iconst 1, 1) := by decide +kernel
theorem d_prog_33m4_53 : decode prog_33_method_4_code 53 = .ok (.iadd, 1) := by decide +kernel
theorem d_prog_33m4_54 : decode prog_33_method_4_code 54 = .ok (.putfield 17, 3) := by decide +kernel
theorem d_prog_33m4_57 : decode prog_33_method_4_code 57 = .ok (.istore 4, 2) := by decide +kernel
theorem d_prog_33m4_59 : decode prog_33_method_4_code 59 = .ok (.iload 4, 2) := by decide +kernel
theorem d_prog_33m4_61 : decode prog_33_method_4_code 61 = .ok (.ifCond .le 71, 3) := by decide +kernel
theorem d_prog_33m4_132 : decode prog_33_method_4_code 132 = .ok (.aload_n 0, 1) := by decide +kernel
theorem d_prog_33m4_133 : decode prog_33_method_4_code 133 = .ok (.getfield 7, 3) := by decide +kernel
theorem d_prog_33m4_136 : decode prog_33_method_4_code 136 = .ok (.iload 4, 2) := by decide +kernel
theorem d_prog_33m4_138 : decode prog_33_method_4_code 138 = .ok (.lload_n 1, 1) := by decide +kernel
theorem d_prog_33m4_139 : decode prog_33_method_4_code 139 = .ok (.lastore, 1) := by decide +kernel
theorem d_prog_33m4_140 : decode prog_33_method_4_code 140 = .ok (.aload_n 0, 1) := by decide +kernel
theorem d_prog_33m4_141 : decode prog_33_method_4_code 141 = .ok (.getfield 13, 3) := by decide +kernel
theorem d_prog_33m4_144 : decode prog_33_method_4_code 144 = .ok (.iload 4, 2) := by decide +kernel
theorem d_prog_33m4_146 : decode prog_33_method_4_code 146 = .ok (.iload_n 3, 1) := by decide +kernel
theorem d_prog_33m4_147 : decode prog_33_method_4_code 147 = .ok (.iastore, 1) := by decide +kernel
theorem d_prog_33m4_148 : decode prog_33_method_4_code 148 = .ok (.return_, 1) := by decide +kernel
theorem ef_add0_ (mM : MethodId) (x0 : Addr) (x1 : Int64) (x2 : Int32) : entryFrame mM #[(.ref x0), (.long x1), (.int x2)] 6 = mkF mM 0 #[.val (.ref x0), .val (.long x1), .second, .val (.int x2), .unset, .unset] [] := by first | (simp [entryFrame, mkF, argsToLocals, Value.category]; done) | rfl
set_option maxRecDepth 65536 in
set_option maxHeartbeats 40000000 in
theorem rm_add0_ (l : Launch) (Z : State) (a0 : Array Value) (hw : ∀ d ∈ tables_1, d.before a0 Z = true) (ws : List Jvm.Cond) (a : Addr) (d : Addr) (g : Addr) (kd : ClassId) (kg : ClassId) (key : Int64) (nd : Int32) (x0 : Int64) (x1 : Int64) (x2 : Int64) (x3 : Int64) (y0 : Int32) (y1 : Int32) (y2 : Int32) (y3 : Int32) (h0 : Heap) (n0 : Nat) (Z0 : n0 ≤ h0.size) (F_size_a : Fld Z h0 a "com/example/greenweft/greenweft/steiner/NodeHeap" "size" "I" (.int (0 : Int32))) (F_keys_a : Fld Z h0 a "com/example/greenweft/greenweft/steiner/NodeHeap" "keys" "[J" (.ref d)) (F_nodes_a : Fld Z h0 a "com/example/greenweft/greenweft/steiner/NodeHeap" "nodes" "[I" (.ref g)) (E_a : Exa Z h0 a "com/example/greenweft/greenweft/steiner/NodeHeap") (g_a : n0 ≤ a) (g_d : n0 ≤ d) (g_g : n0 ≤ g) (V_d : Arv Z h0 d kd .long (16 : Int32) [(.long x0), (.long x1), (.long x2), (.long x3)] (.long (0 : Int64))) (V_g : Arv Z h0 g kg .int (16 : Int32) [(.int y0), (.int y1), (.int y2), (.int y3)] (.int (0 : Int32))) (ndg : d ≠ g) (nad : a ≠ d) (nag : a ≠ g) :
    MetFree l (⟨"com/example/greenweft/greenweft/steiner/NodeHeap", "add", "(JI)V"⟩ : MethodName) (head1 (Jvm.Cond.code (⟨"com/example/greenweft/greenweft/steiner/NodeHeap", "add", "(JI)V"⟩ : MethodName) prog_33_method_4_code 6 none :: ws) ({ frames := 0, cells := 0, slots := 0, locals := 0 } : Room)) (fun aa_ U_ => aa_ = #[(.ref a), (.long key), (.int nd)] ∧ Z.Warmed39 U_.vm ∧ U_.heap = h0) (fun _ _ _ _ _ => True) (fun _ U_ o_ U'_ => ∃ v_ L_, o_ = .returned v_ ∧ Q_add0 Z a d g kd kg key nd x0 x1 x2 x3 y0 y1 y2 y3 h0 n0 v_ U'_.heap L_ ∧ FrameEnd U_ o_ U'_ L_ ({ frames := 0, cells := 0, slots := 0, locals := 0 } : Room).cells ({ frames := 0, cells := 0, slots := 0, locals := 0 } : Room).slots) := by
  refine MetFree.of_bodySF (plainFor_of_name pn_0) hisR ?_
  intro pP eE sS mM argsA below meth cC s₁ Bd hml0 hP hK
  obtain ⟨rfl, hZ, hh⟩ := hP
  have hx := Bd.exec
  have hby := Bd.bytes
  have hml : cC.maxLocals = 6 := hml0
  have hown : sS.vm.findClass "com/example/greenweft/greenweft/steiner/NodeHeap" = some mM.cls := findClass_of_methodNamed Bd.named
  have hnm := (name_of_methodNamed Bd.named Bd.method).1
  have X0 : Stand pP l eE ({ frames := 0, cells := 0, slots := 0, locals := 0 } : Room) sS mM #[(.ref a), (.long key), (.int nd)] below meth cC s₁ [] 0 0 := Stand.of_body Bd
  have e0 : s₁.heap = h0 := by rw [← hh, Bd.state]; rfl
  have N0 := Fr.nil n0
  have pre0 : ∀ t_, Steps pP.tables eE below (s₁.setTop (mkF mM 0 #[.val (.ref a), .val (.long key), .second, .val (.int nd), .unset, .unset] [])) t_ → Steps pP.tables eE below (s₁.setTop (entryFrame mM #[(.ref a), (.long key), (.int nd)] 6)) t_ := fun t_ k_ => castTop (ef_add0_ mM a key nd) k_
  obtain ⟨T_1, X_1, e_1, st_1⟩ := getF X0 hx hZ hown (host := "") (Or.inl (ow hw 21 rfl)) Via.refl e0 F_size_a (g := (mkF mM 1 #[.val (.ref a), .val (.long key), .second, .val (.int nd), .unset, .unset] [(.ref a)])) rfl rfl (hb hby d_prog_33m4_1)
  obtain ⟨T_2, X_2, e_2, st_2⟩ := getF X_1 hx hZ hown (host := "") (Or.inl (ow hw 11 rfl)) Via.refl e_1 F_keys_a (g := (mkF mM 5 #[.val (.ref a), .val (.long key), .second, .val (.int nd), .unset, .unset] [(.ref a), (.int (0 : Int32))])) rfl rfl (hb hby d_prog_33m4_5)
  obtain ⟨cl_3, Ar_3, -, Sa_3, Na_3, -, -⟩ := id V_d
  obtain ⟨T_4, X_4, e_4, st_4⟩ := getF X_2 hx hZ hown (host := "") (Or.inl (ow hw 21 rfl)) Via.refl e_2 F_size_a (g := (mkF mM 48 #[.val (.ref a), .val (.long key), .second, .val (.int nd), .unset, .unset] [(.ref a), (.ref a)])) rfl rfl (hb hby d_prog_33m4_48)
  obtain ⟨T_5, h_5, X_5, e_5, W_5, st_5⟩ := putF X_4 hx hZ hown (host := "") (Or.inl (ow hw 21 rfl)) Via.refl e_4 F_size_a E_a (Or.inl (ow hw 22 rfl)) (ow hw 2 rfl) (ty := .int) (by decide) rfl rfl (g := (mkF mM 54 #[.val (.ref a), .val (.long key), .second, .val (.int nd), .unset, .unset] [(.int (1 : Int32)), (.ref a), (.int (0 : Int32))])) rfl rfl (hb hby d_prog_33m4_54)
  have Fw_5 := F_size_a.same W_5
  have Z_5 : n0 ≤ h_5.size := (Nat.le_trans Z0 (Keep.of_wr W_5).1)
  have K_5 : Keep h0 h_5 [a, d, g] := (Keep.refl h0 [a, d, g]).wr W_5 (Or.inl (List.mem_of_getElem? (i := 0) rfl))
  have N_5 := Fr.snoc X_5 N0 g_a
  obtain ⟨T_6, X_6, e_6, st_6⟩ := getF X_5 hx hZ hown (host := "") (Or.inl (ow hw 11 rfl)) Via.refl e_5 (F_keys_a.other W_5 (Or.inr (slot_ne (Or.inl (ow hw 12 rfl)) (Or.inl (ow hw 22 rfl)) (by decide) (t := (.array .long)) (t' := .int) (by decide) (by decide)))) (g := (mkF mM 133 #[.val (.ref a), .val (.long key), .second, .val (.int nd), .val (.int (0 : Int32)), .unset] [(.ref a)])) rfl rfl (hb hby d_prog_33m4_133)
  obtain ⟨cl_7, Ar_7, qa_7, Sa_7, Na_7, Ha_7, Ga_7⟩ := id (V_d.other W_5 (Ne.symm nad))
  have hin_7 : ¬ ((0 : Int32) < 0 ∨ cl_7.slots.size ≤ ((0 : Int32)).toNatClampNeg) := inb_of Sa_7 ⟨by decide, by decide⟩
  obtain ⟨T_7, h_7, X_7, e_7, W_7, st_7⟩ := stJ X_6 hx hZ e_6 Ar_7 (j := (0 : Int32)) hin_7 (g := (mkF mM 139 #[.val (.ref a), .val (.long key), .second, .val (.int nd), .val (.int (0 : Int32)), .unset] [(.long key), (.int (0 : Int32)), (.ref d)])) rfl rfl (hb hby d_prog_33m4_139)
  have V_7 : Arv Z h_7 d kd .long (16 : Int32) [(.long key), (.long x1), (.long x2), (.long x3)] (.long (0 : Int64)) := Arv.set Ar_7 qa_7 Sa_7 Na_7 Ha_7 Ga_7 rfl W_7 0 rfl (Nat.le_of_ble_eq_true rfl)
  have Z_7 : n0 ≤ h_7.size := (Nat.le_trans Z_5 (Keep.of_wr W_7).1)
  have K_7 : Keep h0 h_7 [a, d, g] := K_5.wr W_7 (Or.inl (List.mem_of_getElem? (i := 1) rfl))
  have N_7 := Fr.snoc X_7 N_5 g_d
  obtain ⟨T_8, X_8, e_8, st_8⟩ := getF X_7 hx hZ hown (host := "") (Or.inl (ow hw 14 rfl)) Via.refl e_7 ((F_nodes_a.other W_5 (Or.inr (slot_ne (Or.inl (ow hw 15 rfl)) (Or.inl (ow hw 22 rfl)) (by decide) (t := (.array .int)) (t' := .int) (by decide) (by decide)))).other W_7 (Or.inl nad)) (g := (mkF mM 141 #[.val (.ref a), .val (.long key), .second, .val (.int nd), .val (.int (0 : Int32)), .unset] [(.ref a)])) rfl rfl (hb hby d_prog_33m4_141)
  obtain ⟨cl_9, Ar_9, qa_9, Sa_9, Na_9, Ha_9, Ga_9⟩ := id ((V_g.other W_5 (Ne.symm nag)).other W_7 (Ne.symm ndg))
  have hin_9 : ¬ ((0 : Int32) < 0 ∨ cl_9.slots.size ≤ ((0 : Int32)).toNatClampNeg) := inb_of Sa_9 ⟨by decide, by decide⟩
  obtain ⟨T_9, h_9, X_9, e_9, W_9, st_9⟩ := stI X_8 hx hZ e_8 Ar_9 (j := (0 : Int32)) hin_9 (g := (mkF mM 147 #[.val (.ref a), .val (.long key), .second, .val (.int nd), .val (.int (0 : Int32)), .unset] [(.int nd), (.int (0 : Int32)), (.ref g)])) rfl rfl (hb hby d_prog_33m4_147)
  have V_9 : Arv Z h_9 g kg .int (16 : Int32) [(.int nd), (.int y1), (.int y2), (.int y3)] (.int (0 : Int32)) := Arv.set Ar_9 qa_9 Sa_9 Na_9 Ha_9 Ga_9 rfl W_9 0 rfl (Nat.le_of_ble_eq_true rfl)
  have Z_9 : n0 ≤ h_9.size := (Nat.le_trans Z_7 (Keep.of_wr W_9).1)
  have K_9 : Keep h0 h_9 [a, d, g] := K_7.wr W_9 (Or.inl (List.mem_of_getElem? (i := 2) rfl))
  have N_9 := Fr.snoc X_9 N_7 g_g
  obtain ⟨fs, hr, hrun, hended, hW, hsame⟩ := X_9.leave (v := none) (fun _ => rfl)
  refine ⟨_, _, pre0 _ ?_, hrun, hended, _, _, rfl, ?_, ⟨_, rfl⟩, hW, hsame.mono (by decide) (by decide)⟩
  · show oS pP eE below s₁ (mkF mM 0 #[.val (.ref a), .val (.long key), .second, .val (.int nd), .unset, .unset] []) _
    refine XS.aloadN X0.here hx rfl (hb hby d_prog_33m4_0) rfl rfl ?_
    show oS pP eE below s₁ (mkF mM 1 #[.val (.ref a), .val (.long key), .second, .val (.int nd), .unset, .unset] [(.ref a)]) _
    refine st_1 _ ?_
    show oS pP eE below T_1 (mkF mM 4 #[.val (.ref a), .val (.long key), .second, .val (.int nd), .unset, .unset] [(.int (0 : Int32))]) _
    refine XS.aloadN X_1.here hx rfl (hb hby d_prog_33m4_4) rfl rfl ?_
    show oS pP eE below T_1 (mkF mM 5 #[.val (.ref a), .val (.long key), .second, .val (.int nd), .unset, .unset] [(.ref a), (.int (0 : Int32))]) _
    refine st_2 _ ?_
    show oS pP eE below T_2 (mkF mM 8 #[.val (.ref a), .val (.long key), .second, .val (.int nd), .unset, .unset] [(.ref d), (.int (0 : Int32))]) _
    refine X_2.arraylength hx (by rw [e_2]; exact Ar_3.1) (State.isArrayOf_alike hZ.alike Ar_3.2.1) (g := (mkF mM 8 #[.val (.ref a), .val (.long key), .second, .val (.int nd), .unset, .unset] [(.ref d), (.int (0 : Int32))])) rfl rfl (hb hby d_prog_33m4_8) _ ?_
    rw [len_of Sa_3 Na_3]
    refine XS.icmpYes X_2.here hx rfl (pc0 := 9) (pc' := 46) rfl (hb hby d_prog_33m4_9) rfl (by decide) (by decide) (by decide) ?_
    refine XS.aloadN X_2.here hx rfl (hb hby d_prog_33m4_46) rfl rfl ?_
    refine XS.dup X_2.here hx rfl (hb hby d_prog_33m4_47) rfl rfl ?_
    show oS pP eE below T_2 (mkF mM 48 #[.val (.ref a), .val (.long key), .second, .val (.int nd), .unset, .unset] [(.ref a), (.ref a)]) _
    refine st_4 _ ?_
    show oS pP eE below T_4 (mkF mM 51 #[.val (.ref a), .val (.long key), .second, .val (.int nd), .unset, .unset] [(.int (0 : Int32)), (.ref a)]) _
    refine XT.dupX1 X_4.here hx rfl (hb hby d_prog_33m4_51) rfl rfl rfl ?_
    refine XS.iconst X_4.here hx rfl (hb hby d_prog_33m4_52) ?_
    show oS pP eE below T_4 (mkF mM 53 #[.val (.ref a), .val (.long key), .second, .val (.int nd), .unset, .unset] [(.int (1 : Int32)), (.int (0 : Int32)), (.ref a), (.int (0 : Int32))]) _
    refine XS.iadd X_4.here hx rfl (hb hby d_prog_33m4_53) rfl ?_
    show oS pP eE below T_4 (mkF mM 54 #[.val (.ref a), .val (.long key), .second, .val (.int nd), .unset, .unset] [(.int ((0 : Int32) + (1 : Int32))), (.ref a), (.int (0 : Int32))]) _
    rw [(by decide : ((0 : Int32) + (1 : Int32)) = (1 : Int32))]
    show oS pP eE below T_4 (mkF mM 54 #[.val (.ref a), .val (.long key), .second, .val (.int nd), .unset, .unset] [(.int (1 : Int32)), (.ref a), (.int (0 : Int32))]) _
    refine st_5 _ ?_
    show oS pP eE below T_5 (mkF mM 57 #[.val (.ref a), .val (.long key), .second, .val (.int nd), .unset, .unset] [(.int (0 : Int32))]) _
    refine XS.istore X_5.here hx rfl (hb hby d_prog_33m4_57) rfl (l' := #[.val (.ref a), .val (.long key), .second, .val (.int nd), .val (.int (0 : Int32)), .unset]) rfl ?_
    refine XS.iload X_5.here hx rfl (hb hby d_prog_33m4_59) rfl ?_
    refine XS.ifYes X_5.here hx rfl (pc0 := 61) (pc' := 132) rfl (hb hby d_prog_33m4_61) rfl (by decide) (by decide) (by decide) ?_
    refine XS.aloadN X_5.here hx rfl (hb hby d_prog_33m4_132) rfl rfl ?_
    show oS pP eE below T_5 (mkF mM 133 #[.val (.ref a), .val (.long key), .second, .val (.int nd), .val (.int (0 : Int32)), .unset] [(.ref a)]) _
    refine st_6 _ ?_
    show oS pP eE below T_6 (mkF mM 136 #[.val (.ref a), .val (.long key), .second, .val (.int nd), .val (.int (0 : Int32)), .unset] [(.ref d)]) _
    refine XS.iload X_6.here hx rfl (hb hby d_prog_33m4_136) rfl ?_
    refine XT.lloadN X_6.here hx rfl (hb hby d_prog_33m4_138) rfl ?_
    show oS pP eE below T_6 (mkF mM 139 #[.val (.ref a), .val (.long key), .second, .val (.int nd), .val (.int (0 : Int32)), .unset] [(.long key), (.int (0 : Int32)), (.ref d)]) _
    refine st_7 _ ?_
    show oS pP eE below T_7 (mkF mM 140 #[.val (.ref a), .val (.long key), .second, .val (.int nd), .val (.int (0 : Int32)), .unset] []) _
    refine XS.aloadN X_7.here hx rfl (hb hby d_prog_33m4_140) rfl rfl ?_
    show oS pP eE below T_7 (mkF mM 141 #[.val (.ref a), .val (.long key), .second, .val (.int nd), .val (.int (0 : Int32)), .unset] [(.ref a)]) _
    refine st_8 _ ?_
    show oS pP eE below T_8 (mkF mM 144 #[.val (.ref a), .val (.long key), .second, .val (.int nd), .val (.int (0 : Int32)), .unset] [(.ref g)]) _
    refine XS.iload X_8.here hx rfl (hb hby d_prog_33m4_144) rfl ?_
    refine XS.iloadN X_8.here hx rfl (hb hby d_prog_33m4_146) rfl ?_
    show oS pP eE below T_8 (mkF mM 147 #[.val (.ref a), .val (.long key), .second, .val (.int nd), .val (.int (0 : Int32)), .unset] [(.int nd), (.int (0 : Int32)), (.ref g)]) _
    refine st_9 _ ?_
    show oS pP eE below T_9 (mkF mM 148 #[.val (.ref a), .val (.long key), .second, .val (.int nd), .val (.int (0 : Int32)), .unset] []) _
    exact X_9.returnOut hx Bd.returns (hb hby d_prog_33m4_148) hr
  · show Q_add0 Z a d g kd kg key nd x0 x1 x2 x3 y0 y1 y2 y3 h0 n0 _ T_9.heap _
    rw [e_9]
    exact ⟨key, x1, x2, x3, nd, y1, y2, y3, rfl, N_9, K_9, ((Fw_5.other W_7 (Or.inl nad)).other W_9 (Or.inl nag)), (((F_keys_a.other W_5 (Or.inr (slot_ne (Or.inl (ow hw 12 rfl)) (Or.inl (ow hw 22 rfl)) (by decide) (t := (.array .long)) (t' := .int) (by decide) (by decide)))).other W_7 (Or.inl nad)).other W_9 (Or.inl nag)), (((F_nodes_a.other W_5 (Or.inr (slot_ne (Or.inl (ow hw 15 rfl)) (Or.inl (ow hw 22 rfl)) (by decide) (t := (.array .int)) (t' := .int) (by decide) (by decide)))).other W_7 (Or.inl nad)).other W_9 (Or.inl nag)), (((E_a.wr W_5).wr W_7).wr W_9), (V_7.other W_9 ndg), V_9⟩
set_option maxRecDepth 65536 in
set_option maxHeartbeats 40000000 in
theorem rm_add0 (l : Launch) (Z : State) (a0 : Array Value) (hw : ∀ d ∈ tables_1, d.before a0 Z = true) (ws : List Jvm.Cond) (a : Addr) (d : Addr) (g : Addr) (kd : ClassId) (kg : ClassId) (key : Int64) (nd : Int32) (x0 : Int64) (x1 : Int64) (x2 : Int64) (x3 : Int64) (y0 : Int32) (y1 : Int32) (y2 : Int32) (y3 : Int32) (h0 : Heap) (n0 : Nat) (Z0 : n0 ≤ h0.size) (F_size_a : Fld Z h0 a "com/example/greenweft/greenweft/steiner/NodeHeap" "size" "I" (.int (0 : Int32))) (F_keys_a : Fld Z h0 a "com/example/greenweft/greenweft/steiner/NodeHeap" "keys" "[J" (.ref d)) (F_nodes_a : Fld Z h0 a "com/example/greenweft/greenweft/steiner/NodeHeap" "nodes" "[I" (.ref g)) (E_a : Exa Z h0 a "com/example/greenweft/greenweft/steiner/NodeHeap") (g_a : n0 ≤ a) (g_d : n0 ≤ d) (g_g : n0 ≤ g) (V_d : Arv Z h0 d kd .long (16 : Int32) [(.long x0), (.long x1), (.long x2), (.long x3)] (.long (0 : Int64))) (V_g : Arv Z h0 g kg .int (16 : Int32) [(.int y0), (.int y1), (.int y2), (.int y3)] (.int (0 : Int32))) (ndg : d ≠ g) (nad : a ≠ d) (nag : a ≠ g) :
    MetFree l (⟨"com/example/greenweft/greenweft/steiner/NodeHeap", "add", "(JI)V"⟩ : MethodName) (head1 (Jvm.Cond.code (⟨"com/example/greenweft/greenweft/steiner/NodeHeap", "add", "(JI)V"⟩ : MethodName) prog_33_method_4_code 6 none :: ws) ({ frames := 0, cells := 0, slots := 0, locals := 0 } : Room)) (fun aa_ U_ => aa_ = #[(.ref a), (.long key), (.int nd)] ∧ Z.Warmed39 U_.vm ∧ U_.heap = h0) (fun _ _ _ _ _ => True) (fun _ U_ o_ U'_ => ∃ v_ L_, o_ = .returned v_ ∧ Q_add0 Z a d g kd kg key nd x0 x1 x2 x3 y0 y1 y2 y3 h0 n0 v_ U'_.heap L_ ∧ FrameEnd U_ o_ U'_ L_ ({ frames := 0, cells := 0, slots := 0, locals := 0 } : Room).cells ({ frames := 0, cells := 0, slots := 0, locals := 0 } : Room).slots) := by
  exact rm_add0_ l Z a0 hw ws a d g kd kg key nd x0 x1 x2 x3 y0 y1 y2 y3 h0 n0 Z0 F_size_a F_keys_a F_nodes_a E_a g_a g_d g_g V_d V_g ndg nad nag
def Q_add1 (Z : State) (a : Addr) (d : Addr) (g : Addr) (kd : ClassId) (kg : ClassId) (key : Int64) (nd : Int32) (x0 : Int64) (x1 : Int64) (x2 : Int64) (x3 : Int64) (y0 : Int32) (y1 : Int32) (y2 : Int32) (y3 : Int32) (h0 : Heap) (n0 : Nat) (v_ : Option Value) (h_ : Heap) (L_ : List Loc) : Prop := ∃ u0 : Int64, ∃ u1 : Int64, ∃ u2 : Int64, ∃ u3 : Int64, ∃ v0 : Int32, ∃ v1 : Int32, ∃ v2 : Int32, ∃ v3 : Int32, v_ = none ∧ Fr n0 L_ ∧ Keep h0 h_ [a, d, g] ∧ Fld Z h_ a "com/example/greenweft/greenweft/steiner/NodeHeap" "size" "I" (.int (2 : Int32)) ∧ Fld Z h_ a "com/example/greenweft/greenweft/steiner/NodeHeap" "keys" "[J" (.ref d) ∧ Fld Z h_ a "com/example/greenweft/greenweft/steiner/NodeHeap" "nodes" "[I" (.ref g) ∧ Exa Z h_ a "com/example/greenweft/greenweft/steiner/NodeHeap" ∧ Arv Z h_ d kd .long (16 : Int32) [(.long u0), (.long u1), (.long u2), (.long u3)] (.long (0 : Int64)) ∧ Arv Z h_ g kg .int (16 : Int32) [(.int v0), (.int v1), (.int v2), (.int v3)] (.int (0 : Int32))
theorem d_prog_33m4_64 : decode prog_33_method_4_code 64 = .ok (.iload 4, 2) := by decide +kernel
theorem d_prog_33m4_66 : decode prog_33_method_4_code 66 = .ok (.iconst 1, 1) := by decide +kernel
theorem d_prog_33m4_67 : decode prog_33_method_4_code 67 = .ok (.isub, 1) := by decide +kernel
theorem d_prog_33m4_68 : decode prog_33_method_4_code 68 = .ok (.iconst 2, 1) := by decide +kernel
theorem d_prog_33m4_69 : decode prog_33_method_4_code 69 = .ok (.idiv, 1) := by decide +kernel
theorem d_prog_33m4_70 : decode prog_33_method_4_code 70 = .ok (.istore 5, 2) := by decide +kernel
theorem d_prog_33m4_72 : decode prog_33_method_4_code 72 = .ok (.lload_n 1, 1) := by decide +kernel
theorem d_prog_33m4_73 : decode prog_33_method_4_code 73 = .ok (.iload_n 3, 1) := by decide +kernel
theorem d_prog_33m4_74 : decode prog_33_method_4_code 74 = .ok (.aload_n 0, 1) := by decide +kernel
theorem d_prog_33m4_75 : decode prog_33_method_4_code 75 = .ok (.getfield 7, 3) := by decide +kernel
theorem d_prog_33m4_78 : decode prog_33_method_4_code 78 = .ok (.iload 5, 2) := by decide +kernel
theorem d_prog_33m4_80 : decode prog_33_method_4_code 80 = .ok (.laload, 1) := by decide +kernel
theorem d_prog_33m4_81 : decode prog_33_method_4_code 81 = .ok (.aload_n 0, 1) := by decide +kernel
theorem d_prog_33m4_82 : decode prog_33_method_4_code 82 = .ok (.getfield 13, 3) := by decide +kernel
theorem d_prog_33m4_85 : decode prog_33_method_4_code 85 = .ok (.iload 5, 2) := by decide +kernel
theorem d_prog_33m4_87 : decode prog_33_method_4_code 87 = .ok (.iaload, 1) := by decide +kernel
theorem d_prog_33m4_88 : decode prog_33_method_4_code 88 = .ok (.invokestatic 30, 3) := by decide +kernel
theorem pd_0 : parseMethodDescriptor "(JIJI)Z" = some ⟨[.long, .int, .long, .int], some .boolean⟩ := by decide +kernel
abbrev MN0 : MethodName := ⟨"com/example/greenweft/greenweft/steiner/NodeHeap", "precedes", "(JIJI)Z"⟩
theorem d_prog_33m4_91 : decode prog_33_method_4_code 91 = .ok (.ifCond .ne 6, 3) := by decide +kernel
theorem d_prog_33m4_94 : decode prog_33_method_4_code 94 = .ok (.goto 38, 3) := by decide +kernel
theorem ef_add1n_ (mM : MethodId) (x0 : Addr) (x1 : Int64) (x2 : Int32) : entryFrame mM #[(.ref x0), (.long x1), (.int x2)] 6 = mkF mM 0 #[.val (.ref x0), .val (.long x1), .second, .val (.int x2), .unset, .unset] [] := by first | (simp [entryFrame, mkF, argsToLocals, Value.category]; done) | rfl
set_option maxRecDepth 65536 in
set_option maxHeartbeats 40000000 in
theorem rm_add1n_ (l : Launch) (Z : State) (a0 : Array Value) (hw : ∀ d ∈ tables_1, d.before a0 Z = true) (ws : List Jvm.Cond) (a : Addr) (d : Addr) (g : Addr) (kd : ClassId) (kg : ClassId) (key : Int64) (nd : Int32) (x0 : Int64) (x1 : Int64) (x2 : Int64) (x3 : Int64) (y0 : Int32) (y1 : Int32) (y2 : Int32) (y3 : Int32) (h0 : Heap) (n0 : Nat) (Z0 : n0 ≤ h0.size) (F_size_a : Fld Z h0 a "com/example/greenweft/greenweft/steiner/NodeHeap" "size" "I" (.int (1 : Int32))) (F_keys_a : Fld Z h0 a "com/example/greenweft/greenweft/steiner/NodeHeap" "keys" "[J" (.ref d)) (F_nodes_a : Fld Z h0 a "com/example/greenweft/greenweft/steiner/NodeHeap" "nodes" "[I" (.ref g)) (E_a : Exa Z h0 a "com/example/greenweft/greenweft/steiner/NodeHeap") (g_a : n0 ≤ a) (g_d : n0 ≤ d) (g_g : n0 ≤ g) (V_d : Arv Z h0 d kd .long (16 : Int32) [(.long x0), (.long x1), (.long x2), (.long x3)] (.long (0 : Int64))) (V_g : Arv Z h0 g kg .int (16 : Int32) [(.int y0), (.int y1), (.int y2), (.int y3)] (.int (0 : Int32))) (ndg : d ≠ g) (nad : a ≠ d) (nag : a ≠ g) (hr0 : ¬ own_pre key nd x0 y0) :
    MetFree l (⟨"com/example/greenweft/greenweft/steiner/NodeHeap", "add", "(JI)V"⟩ : MethodName) (head1 (Jvm.Cond.code (⟨"com/example/greenweft/greenweft/steiner/NodeHeap", "add", "(JI)V"⟩ : MethodName) prog_33_method_4_code 6 none :: ws) ({ frames := 1, cells := 0, slots := 0, locals := 17 } : Room)) (fun aa_ U_ => aa_ = #[(.ref a), (.long key), (.int nd)] ∧ Z.Warmed39 U_.vm ∧ U_.heap = h0) (fun _ _ _ _ _ => True) (fun _ U_ o_ U'_ => ∃ v_ L_, o_ = .returned v_ ∧ Q_add1 Z a d g kd kg key nd x0 x1 x2 x3 y0 y1 y2 y3 h0 n0 v_ U'_.heap L_ ∧ FrameEnd U_ o_ U'_ L_ ({ frames := 1, cells := 0, slots := 0, locals := 17 } : Room).cells ({ frames := 1, cells := 0, slots := 0, locals := 17 } : Room).slots) := by
  refine MetFree.of_bodySF (plainFor_of_name pn_0) hisR ?_
  intro pP eE sS mM argsA below meth cC s₁ Bd hml0 hP hK
  obtain ⟨rfl, hZ, hh⟩ := hP
  have hx := Bd.exec
  have hby := Bd.bytes
  have hml : cC.maxLocals = 6 := hml0
  have hown : sS.vm.findClass "com/example/greenweft/greenweft/steiner/NodeHeap" = some mM.cls := findClass_of_methodNamed Bd.named
  have hnm := (name_of_methodNamed Bd.named Bd.method).1
  have X0 : Stand pP l eE ({ frames := 1, cells := 0, slots := 0, locals := 17 } : Room) sS mM #[(.ref a), (.long key), (.int nd)] below meth cC s₁ [] 0 0 := Stand.of_body Bd
  have e0 : s₁.heap = h0 := by rw [← hh, Bd.state]; rfl
  have N0 := Fr.nil n0
  have pre0 : ∀ t_, Steps pP.tables eE below (s₁.setTop (mkF mM 0 #[.val (.ref a), .val (.long key), .second, .val (.int nd), .unset, .unset] [])) t_ → Steps pP.tables eE below (s₁.setTop (entryFrame mM #[(.ref a), (.long key), (.int nd)] 6)) t_ := fun t_ k_ => castTop (ef_add1n_ mM a key nd) k_
  obtain ⟨T_1, X_1, e_1, st_1⟩ := getF X0 hx hZ hown (host := "") (Or.inl (ow hw 21 rfl)) Via.refl e0 F_size_a (g := (mkF mM 1 #[.val (.ref a), .val (.long key), .second, .val (.int nd), .unset, .unset] [(.ref a)])) rfl rfl (hb hby d_prog_33m4_1)
  obtain ⟨T_2, X_2, e_2, st_2⟩ := getF X_1 hx hZ hown (host := "") (Or.inl (ow hw 11 rfl)) Via.refl e_1 F_keys_a (g := (mkF mM 5 #[.val (.ref a), .val (.long key), .second, .val (.int nd), .unset, .unset] [(.ref a), (.int (1 : Int32))])) rfl rfl (hb hby d_prog_33m4_5)
  obtain ⟨cl_3, Ar_3, -, Sa_3, Na_3, -, -⟩ := id V_d
  obtain ⟨T_4, X_4, e_4, st_4⟩ := getF X_2 hx hZ hown (host := "") (Or.inl (ow hw 21 rfl)) Via.refl e_2 F_size_a (g := (mkF mM 48 #[.val (.ref a), .val (.long key), .second, .val (.int nd), .unset, .unset] [(.ref a), (.ref a)])) rfl rfl (hb hby d_prog_33m4_48)
  obtain ⟨T_5, h_5, X_5, e_5, W_5, st_5⟩ := putF X_4 hx hZ hown (host := "") (Or.inl (ow hw 21 rfl)) Via.refl e_4 F_size_a E_a (Or.inl (ow hw 22 rfl)) (ow hw 2 rfl) (ty := .int) (by decide) rfl rfl (g := (mkF mM 54 #[.val (.ref a), .val (.long key), .second, .val (.int nd), .unset, .unset] [(.int (2 : Int32)), (.ref a), (.int (1 : Int32))])) rfl rfl (hb hby d_prog_33m4_54)
  have Fw_5 := F_size_a.same W_5
  have Z_5 : n0 ≤ h_5.size := (Nat.le_trans Z0 (Keep.of_wr W_5).1)
  have K_5 : Keep h0 h_5 [a, d, g] := (Keep.refl h0 [a, d, g]).wr W_5 (Or.inl (List.mem_of_getElem? (i := 0) rfl))
  have N_5 := Fr.snoc X_5 N0 g_a
  obtain ⟨T_6, X_6, e_6, st_6⟩ := getF X_5 hx hZ hown (host := "") (Or.inl (ow hw 11 rfl)) Via.refl e_5 (F_keys_a.other W_5 (Or.inr (slot_ne (Or.inl (ow hw 12 rfl)) (Or.inl (ow hw 22 rfl)) (by decide) (t := (.array .long)) (t' := .int) (by decide) (by decide)))) (g := (mkF mM 75 #[.val (.ref a), .val (.long key), .second, .val (.int nd), .val (.int (1 : Int32)), .val (.int (0 : Int32))] [(.ref a), (.int nd), (.long key)])) rfl rfl (hb hby d_prog_33m4_75)
  obtain ⟨cl_7, Ar_7, qa_7, Sa_7, Na_7, Ha_7, Ga_7⟩ := id (V_d.other W_5 (Ne.symm nad))
  have hin_7 : ¬ ((0 : Int32) < 0 ∨ cl_7.slots.size ≤ ((0 : Int32)).toNatClampNeg) := inb_of Sa_7 ⟨by decide, by decide⟩
  have hat_7 : cl_7.slots[((0 : Int32)).toNatClampNeg]? = some (.long x0) := Has.at Ha_7 hin_7 rfl
  obtain ⟨T_8, X_8, e_8, st_8⟩ := getF X_6 hx hZ hown (host := "") (Or.inl (ow hw 14 rfl)) Via.refl e_6 (F_nodes_a.other W_5 (Or.inr (slot_ne (Or.inl (ow hw 15 rfl)) (Or.inl (ow hw 22 rfl)) (by decide) (t := (.array .int)) (t' := .int) (by decide) (by decide)))) (g := (mkF mM 82 #[.val (.ref a), .val (.long key), .second, .val (.int nd), .val (.int (1 : Int32)), .val (.int (0 : Int32))] [(.ref a), (.long x0), (.int nd), (.long key)])) rfl rfl (hb hby d_prog_33m4_82)
  obtain ⟨cl_9, Ar_9, qa_9, Sa_9, Na_9, Ha_9, Ga_9⟩ := id (V_g.other W_5 (Ne.symm nag))
  have hin_9 : ¬ ((0 : Int32) < 0 ∨ cl_9.slots.size ≤ ((0 : Int32)).toNatClampNeg) := inb_of Sa_9 ⟨by decide, by decide⟩
  have hat_9 : cl_9.slots[((0 : Int32)).toNatClampNeg]? = some (.int y0) := Has.at Ha_9 hin_9 rfl
  obtain ⟨_, _, ⟨T_10, L_10, k_10, n_10⟩, -, X_10, ⟨Lc_10, hQ_10, l_10, y_10, z_10⟩, st_10⟩ := Jvm.LawKit.callS X_8 hx (y := MN0) hown (mvT hZ (ow hw 33 rfl)) (mvT hZ (ow hw 34 rfl)) (mvT hZ (ow hw 3 rfl)) (mvT hZ (ow hw 35 rfl)) (by decide) (backOf (W := 0) (rm_prc0 l Z a0 hw [] key nd x0 y0 h_5 n0 Z_5 hr0) hZ (ow hw 35 rfl) (ow hw 3 rfl) (by decide) (by decide)) (g := (mkF mM 88 #[.val (.ref a), .val (.long key), .second, .val (.int nd), .val (.int (1 : Int32)), .val (.int (0 : Int32))] [(.int y0), (.long x0), (.int nd), (.long key)])) rfl (by rw [hml]; rfl) (argsL := [(.long key), (.int nd), (.long x0), (.int y0)]) (rest := []) (lenOf pd_0 rfl) rfl (by show 2 * 0 + _ ≤ _; exact Nat.le_of_eq rfl) (hb hby d_prog_33m4_88) (fun _ _ => ⟨rfl, e_8, (by decide : 0 + 0 ≤ _), (by decide : 0 + 0 ≤ _)⟩)
  dsimp only [Pt.U, Pt.locs, Pt.cells, Pt.slots] at X_10 l_10 y_10 z_10 st_10 hQ_10
  subst l_10 y_10 z_10
  obtain ⟨rfl, N_10q, eh_10⟩ := hQ_10
  have N_10 := Fr.app N_5 N_10q
  obtain ⟨T_11, X_11, e_11, st_11⟩ := getF X_10 hx hZ hown (host := "") (Or.inl (ow hw 11 rfl)) Via.refl eh_10 (F_keys_a.other W_5 (Or.inr (slot_ne (Or.inl (ow hw 12 rfl)) (Or.inl (ow hw 22 rfl)) (by decide) (t := (.array .long)) (t' := .int) (by decide) (by decide)))) (g := (mkF mM 133 #[.val (.ref a), .val (.long key), .second, .val (.int nd), .val (.int (1 : Int32)), .val (.int (0 : Int32))] [(.ref a)])) rfl rfl (hb hby d_prog_33m4_133)
  obtain ⟨cl_12, Ar_12, qa_12, Sa_12, Na_12, Ha_12, Ga_12⟩ := id (V_d.other W_5 (Ne.symm nad))
  have hin_12 : ¬ ((1 : Int32) < 0 ∨ cl_12.slots.size ≤ ((1 : Int32)).toNatClampNeg) := inb_of Sa_12 ⟨by decide, by decide⟩
  obtain ⟨T_12, h_12, X_12, e_12, W_12, st_12⟩ := stJ X_11 hx hZ e_11 Ar_12 (j := (1 : Int32)) hin_12 (g := (mkF mM 139 #[.val (.ref a), .val (.long key), .second, .val (.int nd), .val (.int (1 : Int32)), .val (.int (0 : Int32))] [(.long key), (.int (1 : Int32)), (.ref d)])) rfl rfl (hb hby d_prog_33m4_139)
  have V_12 : Arv Z h_12 d kd .long (16 : Int32) [(.long x0), (.long key), (.long x2), (.long x3)] (.long (0 : Int64)) := Arv.set Ar_12 qa_12 Sa_12 Na_12 Ha_12 Ga_12 rfl W_12 1 rfl (Nat.le_of_ble_eq_true rfl)
  have Z_12 : n0 ≤ h_12.size := (Nat.le_trans Z_5 (Keep.of_wr W_12).1)
  have K_12 : Keep h0 h_12 [a, d, g] := K_5.wr W_12 (Or.inl (List.mem_of_getElem? (i := 1) rfl))
  have N_12 := Fr.snoc X_12 N_10 g_d
  obtain ⟨T_13, X_13, e_13, st_13⟩ := getF X_12 hx hZ hown (host := "") (Or.inl (ow hw 14 rfl)) Via.refl e_12 ((F_nodes_a.other W_5 (Or.inr (slot_ne (Or.inl (ow hw 15 rfl)) (Or.inl (ow hw 22 rfl)) (by decide) (t := (.array .int)) (t' := .int) (by decide) (by decide)))).other W_12 (Or.inl nad)) (g := (mkF mM 141 #[.val (.ref a), .val (.long key), .second, .val (.int nd), .val (.int (1 : Int32)), .val (.int (0 : Int32))] [(.ref a)])) rfl rfl (hb hby d_prog_33m4_141)
  obtain ⟨cl_14, Ar_14, qa_14, Sa_14, Na_14, Ha_14, Ga_14⟩ := id ((V_g.other W_5 (Ne.symm nag)).other W_12 (Ne.symm ndg))
  have hin_14 : ¬ ((1 : Int32) < 0 ∨ cl_14.slots.size ≤ ((1 : Int32)).toNatClampNeg) := inb_of Sa_14 ⟨by decide, by decide⟩
  obtain ⟨T_14, h_14, X_14, e_14, W_14, st_14⟩ := stI X_13 hx hZ e_13 Ar_14 (j := (1 : Int32)) hin_14 (g := (mkF mM 147 #[.val (.ref a), .val (.long key), .second, .val (.int nd), .val (.int (1 : Int32)), .val (.int (0 : Int32))] [(.int nd), (.int (1 : Int32)), (.ref g)])) rfl rfl (hb hby d_prog_33m4_147)
  have V_14 : Arv Z h_14 g kg .int (16 : Int32) [(.int y0), (.int nd), (.int y2), (.int y3)] (.int (0 : Int32)) := Arv.set Ar_14 qa_14 Sa_14 Na_14 Ha_14 Ga_14 rfl W_14 1 rfl (Nat.le_of_ble_eq_true rfl)
  have Z_14 : n0 ≤ h_14.size := (Nat.le_trans Z_12 (Keep.of_wr W_14).1)
  have K_14 : Keep h0 h_14 [a, d, g] := K_12.wr W_14 (Or.inl (List.mem_of_getElem? (i := 2) rfl))
  have N_14 := Fr.snoc X_14 N_12 g_g
  obtain ⟨fs, hr, hrun, hended, hW, hsame⟩ := X_14.leave (v := none) (fun _ => rfl)
  refine ⟨_, _, pre0 _ ?_, hrun, hended, _, _, rfl, ?_, ⟨_, rfl⟩, hW, hsame.mono (by decide) (by decide)⟩
  · show oS pP eE below s₁ (mkF mM 0 #[.val (.ref a), .val (.long key), .second, .val (.int nd), .unset, .unset] []) _
    refine XS.aloadN X0.here hx rfl (hb hby d_prog_33m4_0) rfl rfl ?_
    show oS pP eE below s₁ (mkF mM 1 #[.val (.ref a), .val (.long key), .second, .val (.int nd), .unset, .unset] [(.ref a)]) _
    refine st_1 _ ?_
    show oS pP eE below T_1 (mkF mM 4 #[.val (.ref a), .val (.long key), .second, .val (.int nd), .unset, .unset] [(.int (1 : Int32))]) _
    refine XS.aloadN X_1.here hx rfl (hb hby d_prog_33m4_4) rfl rfl ?_
    show oS pP eE below T_1 (mkF mM 5 #[.val (.ref a), .val (.long key), .second, .val (.int nd), .unset, .unset] [(.ref a), (.int (1 : Int32))]) _
    refine st_2 _ ?_
    show oS pP eE below T_2 (mkF mM 8 #[.val (.ref a), .val (.long key), .second, .val (.int nd), .unset, .unset] [(.ref d), (.int (1 : Int32))]) _
    refine X_2.arraylength hx (by rw [e_2]; exact Ar_3.1) (State.isArrayOf_alike hZ.alike Ar_3.2.1) (g := (mkF mM 8 #[.val (.ref a), .val (.long key), .second, .val (.int nd), .unset, .unset] [(.ref d), (.int (1 : Int32))])) rfl rfl (hb hby d_prog_33m4_8) _ ?_
    rw [len_of Sa_3 Na_3]
    refine XS.icmpYes X_2.here hx rfl (pc0 := 9) (pc' := 46) rfl (hb hby d_prog_33m4_9) rfl (by decide) (by decide) (by decide) ?_
    refine XS.aloadN X_2.here hx rfl (hb hby d_prog_33m4_46) rfl rfl ?_
    refine XS.dup X_2.here hx rfl (hb hby d_prog_33m4_47) rfl rfl ?_
    show oS pP eE below T_2 (mkF mM 48 #[.val (.ref a), .val (.long key), .second, .val (.int nd), .unset, .unset] [(.ref a), (.ref a)]) _
    refine st_4 _ ?_
    show oS pP eE below T_4 (mkF mM 51 #[.val (.ref a), .val (.long key), .second, .val (.int nd), .unset, .unset] [(.int (1 : Int32)), (.ref a)]) _
    refine XT.dupX1 X_4.here hx rfl (hb hby d_prog_33m4_51) rfl rfl rfl ?_
    refine XS.iconst X_4.here hx rfl (hb hby d_prog_33m4_52) ?_
    show oS pP eE below T_4 (mkF mM 53 #[.val (.ref a), .val (.long key), .second, .val (.int nd), .unset, .unset] [(.int (1 : Int32)), (.int (1 : Int32)), (.ref a), (.int (1 : Int32))]) _
    refine XS.iadd X_4.here hx rfl (hb hby d_prog_33m4_53) rfl ?_
    show oS pP eE below T_4 (mkF mM 54 #[.val (.ref a), .val (.long key), .second, .val (.int nd), .unset, .unset] [(.int ((1 : Int32) + (1 : Int32))), (.ref a), (.int (1 : Int32))]) _
    rw [(by decide : ((1 : Int32) + (1 : Int32)) = (2 : Int32))]
    show oS pP eE below T_4 (mkF mM 54 #[.val (.ref a), .val (.long key), .second, .val (.int nd), .unset, .unset] [(.int (2 : Int32)), (.ref a), (.int (1 : Int32))]) _
    refine st_5 _ ?_
    show oS pP eE below T_5 (mkF mM 57 #[.val (.ref a), .val (.long key), .second, .val (.int nd), .unset, .unset] [(.int (1 : Int32))]) _
    refine XS.istore X_5.here hx rfl (hb hby d_prog_33m4_57) rfl (l' := #[.val (.ref a), .val (.long key), .second, .val (.int nd), .val (.int (1 : Int32)), .unset]) rfl ?_
    refine XS.iload X_5.here hx rfl (hb hby d_prog_33m4_59) rfl ?_
    refine XS.ifNo X_5.here hx rfl (hb hby d_prog_33m4_61) rfl (by decide) ?_
    refine XS.iload X_5.here hx rfl (hb hby d_prog_33m4_64) rfl ?_
    refine XS.iconst X_5.here hx rfl (hb hby d_prog_33m4_66) ?_
    show oS pP eE below T_5 (mkF mM 67 #[.val (.ref a), .val (.long key), .second, .val (.int nd), .val (.int (1 : Int32)), .unset] [(.int (1 : Int32)), (.int (1 : Int32))]) _
    refine XS.isub X_5.here hx rfl (hb hby d_prog_33m4_67) rfl ?_
    show oS pP eE below T_5 (mkF mM 68 #[.val (.ref a), .val (.long key), .second, .val (.int nd), .val (.int (1 : Int32)), .unset] [(.int ((1 : Int32) - (1 : Int32)))]) _
    rw [(by decide : ((1 : Int32) - (1 : Int32)) = (0 : Int32))]
    refine XS.iconst X_5.here hx rfl (hb hby d_prog_33m4_68) ?_
    show oS pP eE below T_5 (mkF mM 69 #[.val (.ref a), .val (.long key), .second, .val (.int nd), .val (.int (1 : Int32)), .unset] [(.int (2 : Int32)), (.int (0 : Int32))]) _
    refine XS.idiv X_5.here hx rfl (hb hby d_prog_33m4_69) rfl (by decide) ?_
    show oS pP eE below T_5 (mkF mM 70 #[.val (.ref a), .val (.long key), .second, .val (.int nd), .val (.int (1 : Int32)), .unset] [(.int ((0 : Int32) / (2 : Int32)))]) _
    rw [(by decide : ((0 : Int32) / (2 : Int32)) = (0 : Int32))]
    refine XS.istore X_5.here hx rfl (hb hby d_prog_33m4_70) rfl (l' := #[.val (.ref a), .val (.long key), .second, .val (.int nd), .val (.int (1 : Int32)), .val (.int (0 : Int32))]) rfl ?_
    refine XT.lloadN X_5.here hx rfl (hb hby d_prog_33m4_72) rfl ?_
    refine XS.iloadN X_5.here hx rfl (hb hby d_prog_33m4_73) rfl ?_
    refine XS.aloadN X_5.here hx rfl (hb hby d_prog_33m4_74) rfl rfl ?_
    show oS pP eE below T_5 (mkF mM 75 #[.val (.ref a), .val (.long key), .second, .val (.int nd), .val (.int (1 : Int32)), .val (.int (0 : Int32))] [(.ref a), (.int nd), (.long key)]) _
    refine st_6 _ ?_
    show oS pP eE below T_6 (mkF mM 78 #[.val (.ref a), .val (.long key), .second, .val (.int nd), .val (.int (1 : Int32)), .val (.int (0 : Int32))] [(.ref d), (.int nd), (.long key)]) _
    refine XS.iload X_6.here hx rfl (hb hby d_prog_33m4_78) rfl ?_
    show oS pP eE below T_6 (mkF mM 80 #[.val (.ref a), .val (.long key), .second, .val (.int nd), .val (.int (1 : Int32)), .val (.int (0 : Int32))] [(.int (0 : Int32)), (.ref d), (.int nd), (.long key)]) _
    refine X_6.laload hx (j := (0 : Int32)) (v := (.long x0)) (by rw [e_6]; exact Ar_7.1) (State.isArrayOf_alike hZ.alike Ar_7.2.1) Ar_7.2.2 hin_7 hat_7 (g := (mkF mM 80 #[.val (.ref a), .val (.long key), .second, .val (.int nd), .val (.int (1 : Int32)), .val (.int (0 : Int32))] [(.int (0 : Int32)), (.ref d), (.int nd), (.long key)])) rfl rfl (hb hby d_prog_33m4_80) _ ?_
    refine XS.aloadN X_6.here hx rfl (hb hby d_prog_33m4_81) rfl rfl ?_
    show oS pP eE below T_6 (mkF mM 82 #[.val (.ref a), .val (.long key), .second, .val (.int nd), .val (.int (1 : Int32)), .val (.int (0 : Int32))] [(.ref a), (.long x0), (.int nd), (.long key)]) _
    refine st_8 _ ?_
    show oS pP eE below T_8 (mkF mM 85 #[.val (.ref a), .val (.long key), .second, .val (.int nd), .val (.int (1 : Int32)), .val (.int (0 : Int32))] [(.ref g), (.long x0), (.int nd), (.long key)]) _
    refine XS.iload X_8.here hx rfl (hb hby d_prog_33m4_85) rfl ?_
    show oS pP eE below T_8 (mkF mM 87 #[.val (.ref a), .val (.long key), .second, .val (.int nd), .val (.int (1 : Int32)), .val (.int (0 : Int32))] [(.int (0 : Int32)), (.ref g), (.long x0), (.int nd), (.long key)]) _
    refine X_8.iaload hx (j := (0 : Int32)) (v := (.int y0)) (by rw [e_8]; exact Ar_9.1) (State.isArrayOf_alike hZ.alike Ar_9.2.1) Ar_9.2.2 hin_9 hat_9 (g := (mkF mM 87 #[.val (.ref a), .val (.long key), .second, .val (.int nd), .val (.int (1 : Int32)), .val (.int (0 : Int32))] [(.int (0 : Int32)), (.ref g), (.long x0), (.int nd), (.long key)])) rfl rfl (hb hby d_prog_33m4_87) _ ?_
    show oS pP eE below T_8 (mkF mM 88 #[.val (.ref a), .val (.long key), .second, .val (.int nd), .val (.int (1 : Int32)), .val (.int (0 : Int32))] [(.int y0), (.long x0), (.int nd), (.long key)]) _
    refine st_10 _ ?_
    show oS pP eE below T_10 (mkF mM 91 #[.val (.ref a), .val (.long key), .second, .val (.int nd), .val (.int (1 : Int32)), .val (.int (0 : Int32))] [(.int (0 : Int32))]) _
    refine XS.ifNo X_10.here hx rfl (hb hby d_prog_33m4_91) rfl (by decide) ?_
    refine XS.goto X_10.here hx rfl (pc0 := 94) (pc' := 132) rfl (hb hby d_prog_33m4_94) (by decide) (by decide) ?_
    refine XS.aloadN X_10.here hx rfl (hb hby d_prog_33m4_132) rfl rfl ?_
    show oS pP eE below T_10 (mkF mM 133 #[.val (.ref a), .val (.long key), .second, .val (.int nd), .val (.int (1 : Int32)), .val (.int (0 : Int32))] [(.ref a)]) _
    refine st_11 _ ?_
    show oS pP eE below T_11 (mkF mM 136 #[.val (.ref a), .val (.long key), .second, .val (.int nd), .val (.int (1 : Int32)), .val (.int (0 : Int32))] [(.ref d)]) _
    refine XS.iload X_11.here hx rfl (hb hby d_prog_33m4_136) rfl ?_
    refine XT.lloadN X_11.here hx rfl (hb hby d_prog_33m4_138) rfl ?_
    show oS pP eE below T_11 (mkF mM 139 #[.val (.ref a), .val (.long key), .second, .val (.int nd), .val (.int (1 : Int32)), .val (.int (0 : Int32))] [(.long key), (.int (1 : Int32)), (.ref d)]) _
    refine st_12 _ ?_
    show oS pP eE below T_12 (mkF mM 140 #[.val (.ref a), .val (.long key), .second, .val (.int nd), .val (.int (1 : Int32)), .val (.int (0 : Int32))] []) _
    refine XS.aloadN X_12.here hx rfl (hb hby d_prog_33m4_140) rfl rfl ?_
    show oS pP eE below T_12 (mkF mM 141 #[.val (.ref a), .val (.long key), .second, .val (.int nd), .val (.int (1 : Int32)), .val (.int (0 : Int32))] [(.ref a)]) _
    refine st_13 _ ?_
    show oS pP eE below T_13 (mkF mM 144 #[.val (.ref a), .val (.long key), .second, .val (.int nd), .val (.int (1 : Int32)), .val (.int (0 : Int32))] [(.ref g)]) _
    refine XS.iload X_13.here hx rfl (hb hby d_prog_33m4_144) rfl ?_
    refine XS.iloadN X_13.here hx rfl (hb hby d_prog_33m4_146) rfl ?_
    show oS pP eE below T_13 (mkF mM 147 #[.val (.ref a), .val (.long key), .second, .val (.int nd), .val (.int (1 : Int32)), .val (.int (0 : Int32))] [(.int nd), (.int (1 : Int32)), (.ref g)]) _
    refine st_14 _ ?_
    show oS pP eE below T_14 (mkF mM 148 #[.val (.ref a), .val (.long key), .second, .val (.int nd), .val (.int (1 : Int32)), .val (.int (0 : Int32))] []) _
    exact X_14.returnOut hx Bd.returns (hb hby d_prog_33m4_148) hr
  · show Q_add1 Z a d g kd kg key nd x0 x1 x2 x3 y0 y1 y2 y3 h0 n0 _ T_14.heap _
    rw [e_14]
    exact ⟨x0, key, x2, x3, y0, nd, y2, y3, rfl, N_14, K_14, ((Fw_5.other W_12 (Or.inl nad)).other W_14 (Or.inl nag)), (((F_keys_a.other W_5 (Or.inr (slot_ne (Or.inl (ow hw 12 rfl)) (Or.inl (ow hw 22 rfl)) (by decide) (t := (.array .long)) (t' := .int) (by decide) (by decide)))).other W_12 (Or.inl nad)).other W_14 (Or.inl nag)), (((F_nodes_a.other W_5 (Or.inr (slot_ne (Or.inl (ow hw 15 rfl)) (Or.inl (ow hw 22 rfl)) (by decide) (t := (.array .int)) (t' := .int) (by decide) (by decide)))).other W_12 (Or.inl nad)).other W_14 (Or.inl nag)), (((E_a.wr W_5).wr W_12).wr W_14), (V_12.other W_14 ndg), V_14⟩
theorem d_prog_33m4_97 : decode prog_33_method_4_code 97 = .ok (.aload_n 0, 1) := by decide +kernel
theorem d_prog_33m4_98 : decode prog_33_method_4_code 98 = .ok (.getfield 7, 3) := by decide +kernel
theorem d_prog_33m4_101 : decode prog_33_method_4_code 101 = .ok (.iload 4, 2) := by decide +kernel
theorem d_prog_33m4_103 : decode prog_33_method_4_code 103 = .ok (.aload_n 0, 1) := by decide +kernel
theorem d_prog_33m4_104 : decode prog_33_method_4_code 104 = .ok (.getfield 7, 3) := by decide +kernel
theorem d_prog_33m4_107 : decode prog_33_method_4_code 107 = .ok (.iload 5, 2) := by decide +kernel
theorem d_prog_33m4_109 : decode prog_33_method_4_code 109 = .ok (.laload, 1) := by decide +kernel
theorem d_prog_33m4_110 : decode prog_33_method_4_code 110 = .ok (.lastore, 1) := by decide +kernel
theorem d_prog_33m4_111 : decode prog_33_method_4_code 111 = .ok (.aload_n 0, 1) := by decide +kernel
theorem d_prog_33m4_112 : decode prog_33_method_4_code 112 = .ok (.getfield 13, 3) := by decide +kernel
theorem d_prog_33m4_115 : decode prog_33_method_4_code 115 = .ok (.iload 4, 2) := by decide +kernel
theorem d_prog_33m4_117 : decode prog_33_method_4_code 117 = .ok (.aload_n 0, 1) := by decide +kernel
theorem d_prog_33m4_118 : decode prog_33_method_4_code 118 = .ok (.getfield 13, 3) := by decide +kernel
theorem d_prog_33m4_121 : decode prog_33_method_4_code 121 = .ok (.iload 5, 2) := by decide +kernel
theorem d_prog_33m4_123 : decode prog_33_method_4_code 123 = .ok (.iaload, 1) := by decide +kernel
theorem d_prog_33m4_124 : decode prog_33_method_4_code 124 = .ok (.iastore, 1) := by decide +kernel
theorem d_prog_33m4_125 : decode prog_33_method_4_code 125 = .ok (.iload 5, 2) := by decide +kernel
theorem d_prog_33m4_127 : decode prog_33_method_4_code 127 = .ok (.istore 4, 2) := by decide +kernel
theorem d_prog_33m4_129 : decode prog_33_method_4_code 129 = .ok (.goto (-70), 3) := by decide +kernel
theorem ef_add1y_ (mM : MethodId) (x0 : Addr) (x1 : Int64) (x2 : Int32) : entryFrame mM #[(.ref x0), (.long x1), (.int x2)] 6 = mkF mM 0 #[.val (.ref x0), .val (.long x1), .second, .val (.int x2), .unset, .unset] [] := by first | (simp [entryFrame, mkF, argsToLocals, Value.category]; done) | rfl
set_option maxRecDepth 65536 in
set_option maxHeartbeats 40000000 in
theorem rm_add1y_ (l : Launch) (Z : State) (a0 : Array Value) (hw : ∀ d ∈ tables_1, d.before a0 Z = true) (ws : List Jvm.Cond) (a : Addr) (d : Addr) (g : Addr) (kd : ClassId) (kg : ClassId) (key : Int64) (nd : Int32) (x0 : Int64) (x1 : Int64) (x2 : Int64) (x3 : Int64) (y0 : Int32) (y1 : Int32) (y2 : Int32) (y3 : Int32) (h0 : Heap) (n0 : Nat) (Z0 : n0 ≤ h0.size) (F_size_a : Fld Z h0 a "com/example/greenweft/greenweft/steiner/NodeHeap" "size" "I" (.int (1 : Int32))) (F_keys_a : Fld Z h0 a "com/example/greenweft/greenweft/steiner/NodeHeap" "keys" "[J" (.ref d)) (F_nodes_a : Fld Z h0 a "com/example/greenweft/greenweft/steiner/NodeHeap" "nodes" "[I" (.ref g)) (E_a : Exa Z h0 a "com/example/greenweft/greenweft/steiner/NodeHeap") (g_a : n0 ≤ a) (g_d : n0 ≤ d) (g_g : n0 ≤ g) (V_d : Arv Z h0 d kd .long (16 : Int32) [(.long x0), (.long x1), (.long x2), (.long x3)] (.long (0 : Int64))) (V_g : Arv Z h0 g kg .int (16 : Int32) [(.int y0), (.int y1), (.int y2), (.int y3)] (.int (0 : Int32))) (ndg : d ≠ g) (nad : a ≠ d) (nag : a ≠ g) (hr0 : own_pre key nd x0 y0) :
    MetFree l (⟨"com/example/greenweft/greenweft/steiner/NodeHeap", "add", "(JI)V"⟩ : MethodName) (head1 (Jvm.Cond.code (⟨"com/example/greenweft/greenweft/steiner/NodeHeap", "add", "(JI)V"⟩ : MethodName) prog_33_method_4_code 6 none :: ws) ({ frames := 1, cells := 0, slots := 0, locals := 17 } : Room)) (fun aa_ U_ => aa_ = #[(.ref a), (.long key), (.int nd)] ∧ Z.Warmed39 U_.vm ∧ U_.heap = h0) (fun _ _ _ _ _ => True) (fun _ U_ o_ U'_ => ∃ v_ L_, o_ = .returned v_ ∧ Q_add1 Z a d g kd kg key nd x0 x1 x2 x3 y0 y1 y2 y3 h0 n0 v_ U'_.heap L_ ∧ FrameEnd U_ o_ U'_ L_ ({ frames := 1, cells := 0, slots := 0, locals := 17 } : Room).cells ({ frames := 1, cells := 0, slots := 0, locals := 17 } : Room).slots) := by
  refine MetFree.of_bodySF (plainFor_of_name pn_0) hisR ?_
  intro pP eE sS mM argsA below meth cC s₁ Bd hml0 hP hK
  obtain ⟨rfl, hZ, hh⟩ := hP
  have hx := Bd.exec
  have hby := Bd.bytes
  have hml : cC.maxLocals = 6 := hml0
  have hown : sS.vm.findClass "com/example/greenweft/greenweft/steiner/NodeHeap" = some mM.cls := findClass_of_methodNamed Bd.named
  have hnm := (name_of_methodNamed Bd.named Bd.method).1
  have X0 : Stand pP l eE ({ frames := 1, cells := 0, slots := 0, locals := 17 } : Room) sS mM #[(.ref a), (.long key), (.int nd)] below meth cC s₁ [] 0 0 := Stand.of_body Bd
  have e0 : s₁.heap = h0 := by rw [← hh, Bd.state]; rfl
  have N0 := Fr.nil n0
  have pre0 : ∀ t_, Steps pP.tables eE below (s₁.setTop (mkF mM 0 #[.val (.ref a), .val (.long key), .second, .val (.int nd), .unset, .unset] [])) t_ → Steps pP.tables eE below (s₁.setTop (entryFrame mM #[(.ref a), (.long key), (.int nd)] 6)) t_ := fun t_ k_ => castTop (ef_add1y_ mM a key nd) k_
  obtain ⟨T_1, X_1, e_1, st_1⟩ := getF X0 hx hZ hown (host := "") (Or.inl (ow hw 21 rfl)) Via.refl e0 F_size_a (g := (mkF mM 1 #[.val (.ref a), .val (.long key), .second, .val (.int nd), .unset, .unset] [(.ref a)])) rfl rfl (hb hby d_prog_33m4_1)
  obtain ⟨T_2, X_2, e_2, st_2⟩ := getF X_1 hx hZ hown (host := "") (Or.inl (ow hw 11 rfl)) Via.refl e_1 F_keys_a (g := (mkF mM 5 #[.val (.ref a), .val (.long key), .second, .val (.int nd), .unset, .unset] [(.ref a), (.int (1 : Int32))])) rfl rfl (hb hby d_prog_33m4_5)
  obtain ⟨cl_3, Ar_3, -, Sa_3, Na_3, -, -⟩ := id V_d
  obtain ⟨T_4, X_4, e_4, st_4⟩ := getF X_2 hx hZ hown (host := "") (Or.inl (ow hw 21 rfl)) Via.refl e_2 F_size_a (g := (mkF mM 48 #[.val (.ref a), .val (.long key), .second, .val (.int nd), .unset, .unset] [(.ref a), (.ref a)])) rfl rfl (hb hby d_prog_33m4_48)
  obtain ⟨T_5, h_5, X_5, e_5, W_5, st_5⟩ := putF X_4 hx hZ hown (host := "") (Or.inl (ow hw 21 rfl)) Via.refl e_4 F_size_a E_a (Or.inl (ow hw 22 rfl)) (ow hw 2 rfl) (ty := .int) (by decide) rfl rfl (g := (mkF mM 54 #[.val (.ref a), .val (.long key), .second, .val (.int nd), .unset, .unset] [(.int (2 : Int32)), (.ref a), (.int (1 : Int32))])) rfl rfl (hb hby d_prog_33m4_54)
  have Fw_5 := F_size_a.same W_5
  have Z_5 : n0 ≤ h_5.size := (Nat.le_trans Z0 (Keep.of_wr W_5).1)
  have K_5 : Keep h0 h_5 [a, d, g] := (Keep.refl h0 [a, d, g]).wr W_5 (Or.inl (List.mem_of_getElem? (i := 0) rfl))
  have N_5 := Fr.snoc X_5 N0 g_a
  obtain ⟨T_6, X_6, e_6, st_6⟩ := getF X_5 hx hZ hown (host := "") (Or.inl (ow hw 11 rfl)) Via.refl e_5 (F_keys_a.other W_5 (Or.inr (slot_ne (Or.inl (ow hw 12 rfl)) (Or.inl (ow hw 22 rfl)) (by decide) (t := (.array .long)) (t' := .int) (by decide) (by decide)))) (g := (mkF mM 75 #[.val (.ref a), .val (.long key), .second, .val (.int nd), .val (.int (1 : Int32)), .val (.int (0 : Int32))] [(.ref a), (.int nd), (.long key)])) rfl rfl (hb hby d_prog_33m4_75)
  obtain ⟨cl_7, Ar_7, qa_7, Sa_7, Na_7, Ha_7, Ga_7⟩ := id (V_d.other W_5 (Ne.symm nad))
  have hin_7 : ¬ ((0 : Int32) < 0 ∨ cl_7.slots.size ≤ ((0 : Int32)).toNatClampNeg) := inb_of Sa_7 ⟨by decide, by decide⟩
  have hat_7 : cl_7.slots[((0 : Int32)).toNatClampNeg]? = some (.long x0) := Has.at Ha_7 hin_7 rfl
  obtain ⟨T_8, X_8, e_8, st_8⟩ := getF X_6 hx hZ hown (host := "") (Or.inl (ow hw 14 rfl)) Via.refl e_6 (F_nodes_a.other W_5 (Or.inr (slot_ne (Or.inl (ow hw 15 rfl)) (Or.inl (ow hw 22 rfl)) (by decide) (t := (.array .int)) (t' := .int) (by decide) (by decide)))) (g := (mkF mM 82 #[.val (.ref a), .val (.long key), .second, .val (.int nd), .val (.int (1 : Int32)), .val (.int (0 : Int32))] [(.ref a), (.long x0), (.int nd), (.long key)])) rfl rfl (hb hby d_prog_33m4_82)
  obtain ⟨cl_9, Ar_9, qa_9, Sa_9, Na_9, Ha_9, Ga_9⟩ := id (V_g.other W_5 (Ne.symm nag))
  have hin_9 : ¬ ((0 : Int32) < 0 ∨ cl_9.slots.size ≤ ((0 : Int32)).toNatClampNeg) := inb_of Sa_9 ⟨by decide, by decide⟩
  have hat_9 : cl_9.slots[((0 : Int32)).toNatClampNeg]? = some (.int y0) := Has.at Ha_9 hin_9 rfl
  obtain ⟨_, _, ⟨T_10, L_10, k_10, n_10⟩, -, X_10, ⟨Lc_10, hQ_10, l_10, y_10, z_10⟩, st_10⟩ := Jvm.LawKit.callS X_8 hx (y := MN0) hown (mvT hZ (ow hw 33 rfl)) (mvT hZ (ow hw 34 rfl)) (mvT hZ (ow hw 3 rfl)) (mvT hZ (ow hw 35 rfl)) (by decide) (backOf (W := 0) (rm_prc1 l Z a0 hw [] key nd x0 y0 h_5 n0 Z_5 hr0) hZ (ow hw 35 rfl) (ow hw 3 rfl) (by decide) (by decide)) (g := (mkF mM 88 #[.val (.ref a), .val (.long key), .second, .val (.int nd), .val (.int (1 : Int32)), .val (.int (0 : Int32))] [(.int y0), (.long x0), (.int nd), (.long key)])) rfl (by rw [hml]; rfl) (argsL := [(.long key), (.int nd), (.long x0), (.int y0)]) (rest := []) (lenOf pd_0 rfl) rfl (by show 2 * 0 + _ ≤ _; exact Nat.le_of_eq rfl) (hb hby d_prog_33m4_88) (fun _ _ => ⟨rfl, e_8, (by decide : 0 + 0 ≤ _), (by decide : 0 + 0 ≤ _)⟩)
  dsimp only [Pt.U, Pt.locs, Pt.cells, Pt.slots] at X_10 l_10 y_10 z_10 st_10 hQ_10
  subst l_10 y_10 z_10
  obtain ⟨rfl, N_10q, eh_10⟩ := hQ_10
  have N_10 := Fr.app N_5 N_10q
  obtain ⟨T_11, X_11, e_11, st_11⟩ := getF X_10 hx hZ hown (host := "") (Or.inl (ow hw 11 rfl)) Via.refl eh_10 (F_keys_a.other W_5 (Or.inr (slot_ne (Or.inl (ow hw 12 rfl)) (Or.inl (ow hw 22 rfl)) (by decide) (t := (.array .long)) (t' := .int) (by decide) (by decide)))) (g := (mkF mM 98 #[.val (.ref a), .val (.long key), .second, .val (.int nd), .val (.int (1 : Int32)), .val (.int (0 : Int32))] [(.ref a)])) rfl rfl (hb hby d_prog_33m4_98)
  obtain ⟨T_12, X_12, e_12, st_12⟩ := getF X_11 hx hZ hown (host := "") (Or.inl (ow hw 11 rfl)) Via.refl e_11 (F_keys_a.other W_5 (Or.inr (slot_ne (Or.inl (ow hw 12 rfl)) (Or.inl (ow hw 22 rfl)) (by decide) (t := (.array .long)) (t' := .int) (by decide) (by decide)))) (g := (mkF mM 104 #[.val (.ref a), .val (.long key), .second, .val (.int nd), .val (.int (1 : Int32)), .val (.int (0 : Int32))] [(.ref a), (.int (1 : Int32)), (.ref d)])) rfl rfl (hb hby d_prog_33m4_104)
  obtain ⟨cl_13, Ar_13, qa_13, Sa_13, Na_13, Ha_13, Ga_13⟩ := id (V_d.other W_5 (Ne.symm nad))
  have hin_13 : ¬ ((0 : Int32) < 0 ∨ cl_13.slots.size ≤ ((0 : Int32)).toNatClampNeg) := inb_of Sa_13 ⟨by decide, by decide⟩
  have hat_13 : cl_13.slots[((0 : Int32)).toNatClampNeg]? = some (.long x0) := Has.at Ha_13 hin_13 rfl
  obtain ⟨cl_14, Ar_14, qa_14, Sa_14, Na_14, Ha_14, Ga_14⟩ := id (V_d.other W_5 (Ne.symm nad))
  have hin_14 : ¬ ((1 : Int32) < 0 ∨ cl_14.slots.size ≤ ((1 : Int32)).toNatClampNeg) := inb_of Sa_14 ⟨by decide, by decide⟩
  obtain ⟨T_14, h_14, X_14, e_14, W_14, st_14⟩ := stJ X_12 hx hZ e_12 Ar_14 (j := (1 : Int32)) hin_14 (g := (mkF mM 110 #[.val (.ref a), .val (.long key), .second, .val (.int nd), .val (.int (1 : Int32)), .val (.int (0 : Int32))] [(.long x0), (.int (1 : Int32)), (.ref d)])) rfl rfl (hb hby d_prog_33m4_110)
  have V_14 : Arv Z h_14 d kd .long (16 : Int32) [(.long x0), (.long x0), (.long x2), (.long x3)] (.long (0 : Int64)) := Arv.set Ar_14 qa_14 Sa_14 Na_14 Ha_14 Ga_14 rfl W_14 1 rfl (Nat.le_of_ble_eq_true rfl)
  have Z_14 : n0 ≤ h_14.size := (Nat.le_trans Z_5 (Keep.of_wr W_14).1)
  have K_14 : Keep h0 h_14 [a, d, g] := K_5.wr W_14 (Or.inl (List.mem_of_getElem? (i := 1) rfl))
  have N_14 := Fr.snoc X_14 N_10 g_d
  obtain ⟨T_15, X_15, e_15, st_15⟩ := getF X_14 hx hZ hown (host := "") (Or.inl (ow hw 14 rfl)) Via.refl e_14 ((F_nodes_a.other W_5 (Or.inr (slot_ne (Or.inl (ow hw 15 rfl)) (Or.inl (ow hw 22 rfl)) (by decide) (t := (.array .int)) (t' := .int) (by decide) (by decide)))).other W_14 (Or.inl nad)) (g := (mkF mM 112 #[.val (.ref a), .val (.long key), .second, .val (.int nd), .val (.int (1 : Int32)), .val (.int (0 : Int32))] [(.ref a)])) rfl rfl (hb hby d_prog_33m4_112)
  obtain ⟨T_16, X_16, e_16, st_16⟩ := getF X_15 hx hZ hown (host := "") (Or.inl (ow hw 14 rfl)) Via.refl e_15 ((F_nodes_a.other W_5 (Or.inr (slot_ne (Or.inl (ow hw 15 rfl)) (Or.inl (ow hw 22 rfl)) (by decide) (t := (.array .int)) (t' := .int) (by decide) (by decide)))).other W_14 (Or.inl nad)) (g := (mkF mM 118 #[.val (.ref a), .val (.long key), .second, .val (.int nd), .val (.int (1 : Int32)), .val (.int (0 : Int32))] [(.ref a), (.int (1 : Int32)), (.ref g)])) rfl rfl (hb hby d_prog_33m4_118)
  obtain ⟨cl_17, Ar_17, qa_17, Sa_17, Na_17, Ha_17, Ga_17⟩ := id ((V_g.other W_5 (Ne.symm nag)).other W_14 (Ne.symm ndg))
  have hin_17 : ¬ ((0 : Int32) < 0 ∨ cl_17.slots.size ≤ ((0 : Int32)).toNatClampNeg) := inb_of Sa_17 ⟨by decide, by decide⟩
  have hat_17 : cl_17.slots[((0 : Int32)).toNatClampNeg]? = some (.int y0) := Has.at Ha_17 hin_17 rfl
  obtain ⟨cl_18, Ar_18, qa_18, Sa_18, Na_18, Ha_18, Ga_18⟩ := id ((V_g.other W_5 (Ne.symm nag)).other W_14 (Ne.symm ndg))
  have hin_18 : ¬ ((1 : Int32) < 0 ∨ cl_18.slots.size ≤ ((1 : Int32)).toNatClampNeg) := inb_of Sa_18 ⟨by decide, by decide⟩
  obtain ⟨T_18, h_18, X_18, e_18, W_18, st_18⟩ := stI X_16 hx hZ e_16 Ar_18 (j := (1 : Int32)) hin_18 (g := (mkF mM 124 #[.val (.ref a), .val (.long key), .second, .val (.int nd), .val (.int (1 : Int32)), .val (.int (0 : Int32))] [(.int y0), (.int (1 : Int32)), (.ref g)])) rfl rfl (hb hby d_prog_33m4_124)
  have V_18 : Arv Z h_18 g kg .int (16 : Int32) [(.int y0), (.int y0), (.int y2), (.int y3)] (.int (0 : Int32)) := Arv.set Ar_18 qa_18 Sa_18 Na_18 Ha_18 Ga_18 rfl W_18 1 rfl (Nat.le_of_ble_eq_true rfl)
  have Z_18 : n0 ≤ h_18.size := (Nat.le_trans Z_14 (Keep.of_wr W_18).1)
  have K_18 : Keep h0 h_18 [a, d, g] := K_14.wr W_18 (Or.inl (List.mem_of_getElem? (i := 2) rfl))
  have N_18 := Fr.snoc X_18 N_14 g_g
  obtain ⟨T_19, X_19, e_19, st_19⟩ := getF X_18 hx hZ hown (host := "") (Or.inl (ow hw 11 rfl)) Via.refl e_18 (((F_keys_a.other W_5 (Or.inr (slot_ne (Or.inl (ow hw 12 rfl)) (Or.inl (ow hw 22 rfl)) (by decide) (t := (.array .long)) (t' := .int) (by decide) (by decide)))).other W_14 (Or.inl nad)).other W_18 (Or.inl nag)) (g := (mkF mM 133 #[.val (.ref a), .val (.long key), .second, .val (.int nd), .val (.int (0 : Int32)), .val (.int (0 : Int32))] [(.ref a)])) rfl rfl (hb hby d_prog_33m4_133)
  obtain ⟨cl_20, Ar_20, qa_20, Sa_20, Na_20, Ha_20, Ga_20⟩ := id (V_14.other W_18 ndg)
  have hin_20 : ¬ ((0 : Int32) < 0 ∨ cl_20.slots.size ≤ ((0 : Int32)).toNatClampNeg) := inb_of Sa_20 ⟨by decide, by decide⟩
  obtain ⟨T_20, h_20, X_20, e_20, W_20, st_20⟩ := stJ X_19 hx hZ e_19 Ar_20 (j := (0 : Int32)) hin_20 (g := (mkF mM 139 #[.val (.ref a), .val (.long key), .second, .val (.int nd), .val (.int (0 : Int32)), .val (.int (0 : Int32))] [(.long key), (.int (0 : Int32)), (.ref d)])) rfl rfl (hb hby d_prog_33m4_139)
  have V_20 : Arv Z h_20 d kd .long (16 : Int32) [(.long key), (.long x0), (.long x2), (.long x3)] (.long (0 : Int64)) := Arv.set Ar_20 qa_20 Sa_20 Na_20 Ha_20 Ga_20 rfl W_20 0 rfl (Nat.le_of_ble_eq_true rfl)
  have Z_20 : n0 ≤ h_20.size := (Nat.le_trans Z_18 (Keep.of_wr W_20).1)
  have K_20 : Keep h0 h_20 [a, d, g] := K_18.wr W_20 (Or.inl (List.mem_of_getElem? (i := 1) rfl))
  have N_20 := Fr.snoc X_20 N_18 g_d
  obtain ⟨T_21, X_21, e_21, st_21⟩ := getF X_20 hx hZ hown (host := "") (Or.inl (ow hw 14 rfl)) Via.refl e_20 ((((F_nodes_a.other W_5 (Or.inr (slot_ne (Or.inl (ow hw 15 rfl)) (Or.inl (ow hw 22 rfl)) (by decide) (t := (.array .int)) (t' := .int) (by decide) (by decide)))).other W_14 (Or.inl nad)).other W_18 (Or.inl nag)).other W_20 (Or.inl nad)) (g := (mkF mM 141 #[.val (.ref a), .val (.long key), .second, .val (.int nd), .val (.int (0 : Int32)), .val (.int (0 : Int32))] [(.ref a)])) rfl rfl (hb hby d_prog_33m4_141)
  obtain ⟨cl_22, Ar_22, qa_22, Sa_22, Na_22, Ha_22, Ga_22⟩ := id (V_18.other W_20 (Ne.symm ndg))
  have hin_22 : ¬ ((0 : Int32) < 0 ∨ cl_22.slots.size ≤ ((0 : Int32)).toNatClampNeg) := inb_of Sa_22 ⟨by decide, by decide⟩
  obtain ⟨T_22, h_22, X_22, e_22, W_22, st_22⟩ := stI X_21 hx hZ e_21 Ar_22 (j := (0 : Int32)) hin_22 (g := (mkF mM 147 #[.val (.ref a), .val (.long key), .second, .val (.int nd), .val (.int (0 : Int32)), .val (.int (0 : Int32))] [(.int nd), (.int (0 : Int32)), (.ref g)])) rfl rfl (hb hby d_prog_33m4_147)
  have V_22 : Arv Z h_22 g kg .int (16 : Int32) [(.int nd), (.int y0), (.int y2), (.int y3)] (.int (0 : Int32)) := Arv.set Ar_22 qa_22 Sa_22 Na_22 Ha_22 Ga_22 rfl W_22 0 rfl (Nat.le_of_ble_eq_true rfl)
  have Z_22 : n0 ≤ h_22.size := (Nat.le_trans Z_20 (Keep.of_wr W_22).1)
  have K_22 : Keep h0 h_22 [a, d, g] := K_20.wr W_22 (Or.inl (List.mem_of_getElem? (i := 2) rfl))
  have N_22 := Fr.snoc X_22 N_20 g_g
  obtain ⟨fs, hr, hrun, hended, hW, hsame⟩ := X_22.leave (v := none) (fun _ => rfl)
  refine ⟨_, _, pre0 _ ?_, hrun, hended, _, _, rfl, ?_, ⟨_, rfl⟩, hW, hsame.mono (by decide) (by decide)⟩
  · show oS pP eE below s₁ (mkF mM 0 #[.val (.ref a), .val (.long key), .second, .val (.int nd), .unset, .unset] []) _
    refine XS.aloadN X0.here hx rfl (hb hby d_prog_33m4_0) rfl rfl ?_
    show oS pP eE below s₁ (mkF mM 1 #[.val (.ref a), .val (.long key), .second, .val (.int nd), .unset, .unset] [(.ref a)]) _
    refine st_1 _ ?_
    show oS pP eE below T_1 (mkF mM 4 #[.val (.ref a), .val (.long key), .second, .val (.int nd), .unset, .unset] [(.int (1 : Int32))]) _
    refine XS.aloadN X_1.here hx rfl (hb hby d_prog_33m4_4) rfl rfl ?_
    show oS pP eE below T_1 (mkF mM 5 #[.val (.ref a), .val (.long key), .second, .val (.int nd), .unset, .unset] [(.ref a), (.int (1 : Int32))]) _
    refine st_2 _ ?_
    show oS pP eE below T_2 (mkF mM 8 #[.val (.ref a), .val (.long key), .second, .val (.int nd), .unset, .unset] [(.ref d), (.int (1 : Int32))]) _
    refine X_2.arraylength hx (by rw [e_2]; exact Ar_3.1) (State.isArrayOf_alike hZ.alike Ar_3.2.1) (g := (mkF mM 8 #[.val (.ref a), .val (.long key), .second, .val (.int nd), .unset, .unset] [(.ref d), (.int (1 : Int32))])) rfl rfl (hb hby d_prog_33m4_8) _ ?_
    rw [len_of Sa_3 Na_3]
    refine XS.icmpYes X_2.here hx rfl (pc0 := 9) (pc' := 46) rfl (hb hby d_prog_33m4_9) rfl (by decide) (by decide) (by decide) ?_
    refine XS.aloadN X_2.here hx rfl (hb hby d_prog_33m4_46) rfl rfl ?_
    refine XS.dup X_2.here hx rfl (hb hby d_prog_33m4_47) rfl rfl ?_
    show oS pP eE below T_2 (mkF mM 48 #[.val (.ref a), .val (.long key), .second, .val (.int nd), .unset, .unset] [(.ref a), (.ref a)]) _
    refine st_4 _ ?_
    show oS pP eE below T_4 (mkF mM 51 #[.val (.ref a), .val (.long key), .second, .val (.int nd), .unset, .unset] [(.int (1 : Int32)), (.ref a)]) _
    refine XT.dupX1 X_4.here hx rfl (hb hby d_prog_33m4_51) rfl rfl rfl ?_
    refine XS.iconst X_4.here hx rfl (hb hby d_prog_33m4_52) ?_
    show oS pP eE below T_4 (mkF mM 53 #[.val (.ref a), .val (.long key), .second, .val (.int nd), .unset, .unset] [(.int (1 : Int32)), (.int (1 : Int32)), (.ref a), (.int (1 : Int32))]) _
    refine XS.iadd X_4.here hx rfl (hb hby d_prog_33m4_53) rfl ?_
    show oS pP eE below T_4 (mkF mM 54 #[.val (.ref a), .val (.long key), .second, .val (.int nd), .unset, .unset] [(.int ((1 : Int32) + (1 : Int32))), (.ref a), (.int (1 : Int32))]) _
    rw [(by decide : ((1 : Int32) + (1 : Int32)) = (2 : Int32))]
    show oS pP eE below T_4 (mkF mM 54 #[.val (.ref a), .val (.long key), .second, .val (.int nd), .unset, .unset] [(.int (2 : Int32)), (.ref a), (.int (1 : Int32))]) _
    refine st_5 _ ?_
    show oS pP eE below T_5 (mkF mM 57 #[.val (.ref a), .val (.long key), .second, .val (.int nd), .unset, .unset] [(.int (1 : Int32))]) _
    refine XS.istore X_5.here hx rfl (hb hby d_prog_33m4_57) rfl (l' := #[.val (.ref a), .val (.long key), .second, .val (.int nd), .val (.int (1 : Int32)), .unset]) rfl ?_
    refine XS.iload X_5.here hx rfl (hb hby d_prog_33m4_59) rfl ?_
    refine XS.ifNo X_5.here hx rfl (hb hby d_prog_33m4_61) rfl (by decide) ?_
    refine XS.iload X_5.here hx rfl (hb hby d_prog_33m4_64) rfl ?_
    refine XS.iconst X_5.here hx rfl (hb hby d_prog_33m4_66) ?_
    show oS pP eE below T_5 (mkF mM 67 #[.val (.ref a), .val (.long key), .second, .val (.int nd), .val (.int (1 : Int32)), .unset] [(.int (1 : Int32)), (.int (1 : Int32))]) _
    refine XS.isub X_5.here hx rfl (hb hby d_prog_33m4_67) rfl ?_
    show oS pP eE below T_5 (mkF mM 68 #[.val (.ref a), .val (.long key), .second, .val (.int nd), .val (.int (1 : Int32)), .unset] [(.int ((1 : Int32) - (1 : Int32)))]) _
    rw [(by decide : ((1 : Int32) - (1 : Int32)) = (0 : Int32))]
    refine XS.iconst X_5.here hx rfl (hb hby d_prog_33m4_68) ?_
    show oS pP eE below T_5 (mkF mM 69 #[.val (.ref a), .val (.long key), .second, .val (.int nd), .val (.int (1 : Int32)), .unset] [(.int (2 : Int32)), (.int (0 : Int32))]) _
    refine XS.idiv X_5.here hx rfl (hb hby d_prog_33m4_69) rfl (by decide) ?_
    show oS pP eE below T_5 (mkF mM 70 #[.val (.ref a), .val (.long key), .second, .val (.int nd), .val (.int (1 : Int32)), .unset] [(.int ((0 : Int32) / (2 : Int32)))]) _
    rw [(by decide : ((0 : Int32) / (2 : Int32)) = (0 : Int32))]
    refine XS.istore X_5.here hx rfl (hb hby d_prog_33m4_70) rfl (l' := #[.val (.ref a), .val (.long key), .second, .val (.int nd), .val (.int (1 : Int32)), .val (.int (0 : Int32))]) rfl ?_
    refine XT.lloadN X_5.here hx rfl (hb hby d_prog_33m4_72) rfl ?_
    refine XS.iloadN X_5.here hx rfl (hb hby d_prog_33m4_73) rfl ?_
    refine XS.aloadN X_5.here hx rfl (hb hby d_prog_33m4_74) rfl rfl ?_
    show oS pP eE below T_5 (mkF mM 75 #[.val (.ref a), .val (.long key), .second, .val (.int nd), .val (.int (1 : Int32)), .val (.int (0 : Int32))] [(.ref a), (.int nd), (.long key)]) _
    refine st_6 _ ?_
    show oS pP eE below T_6 (mkF mM 78 #[.val (.ref a), .val (.long key), .second, .val (.int nd), .val (.int (1 : Int32)), .val (.int (0 : Int32))] [(.ref d), (.int nd), (.long key)]) _
    refine XS.iload X_6.here hx rfl (hb hby d_prog_33m4_78) rfl ?_
    show oS pP eE below T_6 (mkF mM 80 #[.val (.ref a), .val (.long key), .second, .val (.int nd), .val (.int (1 : Int32)), .val (.int (0 : Int32))] [(.int (0 : Int32)), (.ref d), (.int nd), (.long key)]) _
    refine X_6.laload hx (j := (0 : Int32)) (v := (.long x0)) (by rw [e_6]; exact Ar_7.1) (State.isArrayOf_alike hZ.alike Ar_7.2.1) Ar_7.2.2 hin_7 hat_7 (g := (mkF mM 80 #[.val (.ref a), .val (.long key), .second, .val (.int nd), .val (.int (1 : Int32)), .val (.int (0 : Int32))] [(.int (0 : Int32)), (.ref d), (.int nd), (.long key)])) rfl rfl (hb hby d_prog_33m4_80) _ ?_
    refine XS.aloadN X_6.here hx rfl (hb hby d_prog_33m4_81) rfl rfl ?_
    show oS pP eE below T_6 (mkF mM 82 #[.val (.ref a), .val (.long key), .second, .val (.int nd), .val (.int (1 : Int32)), .val (.int (0 : Int32))] [(.ref a), (.long x0), (.int nd), (.long key)]) _
    refine st_8 _ ?_
    show oS pP eE below T_8 (mkF mM 85 #[.val (.ref a), .val (.long key), .second, .val (.int nd), .val (.int (1 : Int32)), .val (.int (0 : Int32))] [(.ref g), (.long x0), (.int nd), (.long key)]) _
    refine XS.iload X_8.here hx rfl (hb hby d_prog_33m4_85) rfl ?_
    show oS pP eE below T_8 (mkF mM 87 #[.val (.ref a), .val (.long key), .second, .val (.int nd), .val (.int (1 : Int32)), .val (.int (0 : Int32))] [(.int (0 : Int32)), (.ref g), (.long x0), (.int nd), (.long key)]) _
    refine X_8.iaload hx (j := (0 : Int32)) (v := (.int y0)) (by rw [e_8]; exact Ar_9.1) (State.isArrayOf_alike hZ.alike Ar_9.2.1) Ar_9.2.2 hin_9 hat_9 (g := (mkF mM 87 #[.val (.ref a), .val (.long key), .second, .val (.int nd), .val (.int (1 : Int32)), .val (.int (0 : Int32))] [(.int (0 : Int32)), (.ref g), (.long x0), (.int nd), (.long key)])) rfl rfl (hb hby d_prog_33m4_87) _ ?_
    show oS pP eE below T_8 (mkF mM 88 #[.val (.ref a), .val (.long key), .second, .val (.int nd), .val (.int (1 : Int32)), .val (.int (0 : Int32))] [(.int y0), (.long x0), (.int nd), (.long key)]) _
    refine st_10 _ ?_
    show oS pP eE below T_10 (mkF mM 91 #[.val (.ref a), .val (.long key), .second, .val (.int nd), .val (.int (1 : Int32)), .val (.int (0 : Int32))] [(.int (1 : Int32))]) _
    refine XS.ifYes X_10.here hx rfl (pc0 := 91) (pc' := 97) rfl (hb hby d_prog_33m4_91) rfl (by decide) (by decide) (by decide) ?_
    refine XS.aloadN X_10.here hx rfl (hb hby d_prog_33m4_97) rfl rfl ?_
    show oS pP eE below T_10 (mkF mM 98 #[.val (.ref a), .val (.long key), .second, .val (.int nd), .val (.int (1 : Int32)), .val (.int (0 : Int32))] [(.ref a)]) _
    refine st_11 _ ?_
    show oS pP eE below T_11 (mkF mM 101 #[.val (.ref a), .val (.long key), .second, .val (.int nd), .val (.int (1 : Int32)), .val (.int (0 : Int32))] [(.ref d)]) _
    refine XS.iload X_11.here hx rfl (hb hby d_prog_33m4_101) rfl ?_
    refine XS.aloadN X_11.here hx rfl (hb hby d_prog_33m4_103) rfl rfl ?_
    show oS pP eE below T_11 (mkF mM 104 #[.val (.ref a), .val (.long key), .second, .val (.int nd), .val (.int (1 : Int32)), .val (.int (0 : Int32))] [(.ref a), (.int (1 : Int32)), (.ref d)]) _
    refine st_12 _ ?_
    show oS pP eE below T_12 (mkF mM 107 #[.val (.ref a), .val (.long key), .second, .val (.int nd), .val (.int (1 : Int32)), .val (.int (0 : Int32))] [(.ref d), (.int (1 : Int32)), (.ref d)]) _
    refine XS.iload X_12.here hx rfl (hb hby d_prog_33m4_107) rfl ?_
    show oS pP eE below T_12 (mkF mM 109 #[.val (.ref a), .val (.long key), .second, .val (.int nd), .val (.int (1 : Int32)), .val (.int (0 : Int32))] [(.int (0 : Int32)), (.ref d), (.int (1 : Int32)), (.ref d)]) _
    refine X_12.laload hx (j := (0 : Int32)) (v := (.long x0)) (by rw [e_12]; exact Ar_13.1) (State.isArrayOf_alike hZ.alike Ar_13.2.1) Ar_13.2.2 hin_13 hat_13 (g := (mkF mM 109 #[.val (.ref a), .val (.long key), .second, .val (.int nd), .val (.int (1 : Int32)), .val (.int (0 : Int32))] [(.int (0 : Int32)), (.ref d), (.int (1 : Int32)), (.ref d)])) rfl rfl (hb hby d_prog_33m4_109) _ ?_
    show oS pP eE below T_12 (mkF mM 110 #[.val (.ref a), .val (.long key), .second, .val (.int nd), .val (.int (1 : Int32)), .val (.int (0 : Int32))] [(.long x0), (.int (1 : Int32)), (.ref d)]) _
    refine st_14 _ ?_
    show oS pP eE below T_14 (mkF mM 111 #[.val (.ref a), .val (.long key), .second, .val (.int nd), .val (.int (1 : Int32)), .val (.int (0 : Int32))] []) _
    refine XS.aloadN X_14.here hx rfl (hb hby d_prog_33m4_111) rfl rfl ?_
    show oS pP eE below T_14 (mkF mM 112 #[.val (.ref a), .val (.long key), .second, .val (.int nd), .val (.int (1 : Int32)), .val (.int (0 : Int32))] [(.ref a)]) _
    refine st_15 _ ?_
    show oS pP eE below T_15 (mkF mM 115 #[.val (.ref a), .val (.long key), .second, .val (.int nd), .val (.int (1 : Int32)), .val (.int (0 : Int32))] [(.ref g)]) _
    refine XS.iload X_15.here hx rfl (hb hby d_prog_33m4_115) rfl ?_
    refine XS.aloadN X_15.here hx rfl (hb hby d_prog_33m4_117) rfl rfl ?_
    show oS pP eE below T_15 (mkF mM 118 #[.val (.ref a), .val (.long key), .second, .val (.int nd), .val (.int (1 : Int32)), .val (.int (0 : Int32))] [(.ref a), (.int (1 : Int32)), (.ref g)]) _
    refine st_16 _ ?_
    show oS pP eE below T_16 (mkF mM 121 #[.val (.ref a), .val (.long key), .second, .val (.int nd), .val (.int (1 : Int32)), .val (.int (0 : Int32))] [(.ref g), (.int (1 : Int32)), (.ref g)]) _
    refine XS.iload X_16.here hx rfl (hb hby d_prog_33m4_121) rfl ?_
    show oS pP eE below T_16 (mkF mM 123 #[.val (.ref a), .val (.long key), .second, .val (.int nd), .val (.int (1 : Int32)), .val (.int (0 : Int32))] [(.int (0 : Int32)), (.ref g), (.int (1 : Int32)), (.ref g)]) _
    refine X_16.iaload hx (j := (0 : Int32)) (v := (.int y0)) (by rw [e_16]; exact Ar_17.1) (State.isArrayOf_alike hZ.alike Ar_17.2.1) Ar_17.2.2 hin_17 hat_17 (g := (mkF mM 123 #[.val (.ref a), .val (.long key), .second, .val (.int nd), .val (.int (1 : Int32)), .val (.int (0 : Int32))] [(.int (0 : Int32)), (.ref g), (.int (1 : Int32)), (.ref g)])) rfl rfl (hb hby d_prog_33m4_123) _ ?_
    show oS pP eE below T_16 (mkF mM 124 #[.val (.ref a), .val (.long key), .second, .val (.int nd), .val (.int (1 : Int32)), .val (.int (0 : Int32))] [(.int y0), (.int (1 : Int32)), (.ref g)]) _
    refine st_18 _ ?_
    show oS pP eE below T_18 (mkF mM 125 #[.val (.ref a), .val (.long key), .second, .val (.int nd), .val (.int (1 : Int32)), .val (.int (0 : Int32))] []) _
    refine XS.iload X_18.here hx rfl (hb hby d_prog_33m4_125) rfl ?_
    refine XS.istore X_18.here hx rfl (hb hby d_prog_33m4_127) rfl (l' := #[.val (.ref a), .val (.long key), .second, .val (.int nd), .val (.int (0 : Int32)), .val (.int (0 : Int32))]) rfl ?_
    refine XS.goto X_18.here hx rfl (pc0 := 129) (pc' := 59) rfl (hb hby d_prog_33m4_129) (by decide) (by decide) ?_
    refine XS.iload X_18.here hx rfl (hb hby d_prog_33m4_59) rfl ?_
    refine XS.ifYes X_18.here hx rfl (pc0 := 61) (pc' := 132) rfl (hb hby d_prog_33m4_61) rfl (by decide) (by decide) (by decide) ?_
    refine XS.aloadN X_18.here hx rfl (hb hby d_prog_33m4_132) rfl rfl ?_
    show oS pP eE below T_18 (mkF mM 133 #[.val (.ref a), .val (.long key), .second, .val (.int nd), .val (.int (0 : Int32)), .val (.int (0 : Int32))] [(.ref a)]) _
    refine st_19 _ ?_
    show oS pP eE below T_19 (mkF mM 136 #[.val (.ref a), .val (.long key), .second, .val (.int nd), .val (.int (0 : Int32)), .val (.int (0 : Int32))] [(.ref d)]) _
    refine XS.iload X_19.here hx rfl (hb hby d_prog_33m4_136) rfl ?_
    refine XT.lloadN X_19.here hx rfl (hb hby d_prog_33m4_138) rfl ?_
    show oS pP eE below T_19 (mkF mM 139 #[.val (.ref a), .val (.long key), .second, .val (.int nd), .val (.int (0 : Int32)), .val (.int (0 : Int32))] [(.long key), (.int (0 : Int32)), (.ref d)]) _
    refine st_20 _ ?_
    show oS pP eE below T_20 (mkF mM 140 #[.val (.ref a), .val (.long key), .second, .val (.int nd), .val (.int (0 : Int32)), .val (.int (0 : Int32))] []) _
    refine XS.aloadN X_20.here hx rfl (hb hby d_prog_33m4_140) rfl rfl ?_
    show oS pP eE below T_20 (mkF mM 141 #[.val (.ref a), .val (.long key), .second, .val (.int nd), .val (.int (0 : Int32)), .val (.int (0 : Int32))] [(.ref a)]) _
    refine st_21 _ ?_
    show oS pP eE below T_21 (mkF mM 144 #[.val (.ref a), .val (.long key), .second, .val (.int nd), .val (.int (0 : Int32)), .val (.int (0 : Int32))] [(.ref g)]) _
    refine XS.iload X_21.here hx rfl (hb hby d_prog_33m4_144) rfl ?_
    refine XS.iloadN X_21.here hx rfl (hb hby d_prog_33m4_146) rfl ?_
    show oS pP eE below T_21 (mkF mM 147 #[.val (.ref a), .val (.long key), .second, .val (.int nd), .val (.int (0 : Int32)), .val (.int (0 : Int32))] [(.int nd), (.int (0 : Int32)), (.ref g)]) _
    refine st_22 _ ?_
    show oS pP eE below T_22 (mkF mM 148 #[.val (.ref a), .val (.long key), .second, .val (.int nd), .val (.int (0 : Int32)), .val (.int (0 : Int32))] []) _
    exact X_22.returnOut hx Bd.returns (hb hby d_prog_33m4_148) hr
  · show Q_add1 Z a d g kd kg key nd x0 x1 x2 x3 y0 y1 y2 y3 h0 n0 _ T_22.heap _
    rw [e_22]
    exact ⟨key, x0, x2, x3, nd, y0, y2, y3, rfl, N_22, K_22, ((((Fw_5.other W_14 (Or.inl nad)).other W_18 (Or.inl nag)).other W_20 (Or.inl nad)).other W_22 (Or.inl nag)), (((((F_keys_a.other W_5 (Or.inr (slot_ne (Or.inl (ow hw 12 rfl)) (Or.inl (ow hw 22 rfl)) (by decide) (t := (.array .long)) (t' := .int) (by decide) (by decide)))).other W_14 (Or.inl nad)).other W_18 (Or.inl nag)).other W_20 (Or.inl nad)).other W_22 (Or.inl nag)), (((((F_nodes_a.other W_5 (Or.inr (slot_ne (Or.inl (ow hw 15 rfl)) (Or.inl (ow hw 22 rfl)) (by decide) (t := (.array .int)) (t' := .int) (by decide) (by decide)))).other W_14 (Or.inl nad)).other W_18 (Or.inl nag)).other W_20 (Or.inl nad)).other W_22 (Or.inl nag)), (((((E_a.wr W_5).wr W_14).wr W_18).wr W_20).wr W_22), (V_20.other W_22 ndg), V_22⟩
set_option maxRecDepth 65536 in
set_option maxHeartbeats 40000000 in
theorem rm_add1 (l : Launch) (Z : State) (a0 : Array Value) (hw : ∀ d ∈ tables_1, d.before a0 Z = true) (ws : List Jvm.Cond) (a : Addr) (d : Addr) (g : Addr) (kd : ClassId) (kg : ClassId) (key : Int64) (nd : Int32) (x0 : Int64) (x1 : Int64) (x2 : Int64) (x3 : Int64) (y0 : Int32) (y1 : Int32) (y2 : Int32) (y3 : Int32) (h0 : Heap) (n0 : Nat) (Z0 : n0 ≤ h0.size) (F_size_a : Fld Z h0 a "com/example/greenweft/greenweft/steiner/NodeHeap" "size" "I" (.int (1 : Int32))) (F_keys_a : Fld Z h0 a "com/example/greenweft/greenweft/steiner/NodeHeap" "keys" "[J" (.ref d)) (F_nodes_a : Fld Z h0 a "com/example/greenweft/greenweft/steiner/NodeHeap" "nodes" "[I" (.ref g)) (E_a : Exa Z h0 a "com/example/greenweft/greenweft/steiner/NodeHeap") (g_a : n0 ≤ a) (g_d : n0 ≤ d) (g_g : n0 ≤ g) (V_d : Arv Z h0 d kd .long (16 : Int32) [(.long x0), (.long x1), (.long x2), (.long x3)] (.long (0 : Int64))) (V_g : Arv Z h0 g kg .int (16 : Int32) [(.int y0), (.int y1), (.int y2), (.int y3)] (.int (0 : Int32))) (ndg : d ≠ g) (nad : a ≠ d) (nag : a ≠ g) :
    MetFree l (⟨"com/example/greenweft/greenweft/steiner/NodeHeap", "add", "(JI)V"⟩ : MethodName) (head1 (Jvm.Cond.code (⟨"com/example/greenweft/greenweft/steiner/NodeHeap", "add", "(JI)V"⟩ : MethodName) prog_33_method_4_code 6 none :: ws) ({ frames := 1, cells := 0, slots := 0, locals := 17 } : Room)) (fun aa_ U_ => aa_ = #[(.ref a), (.long key), (.int nd)] ∧ Z.Warmed39 U_.vm ∧ U_.heap = h0) (fun _ _ _ _ _ => True) (fun _ U_ o_ U'_ => ∃ v_ L_, o_ = .returned v_ ∧ Q_add1 Z a d g kd kg key nd x0 x1 x2 x3 y0 y1 y2 y3 h0 n0 v_ U'_.heap L_ ∧ FrameEnd U_ o_ U'_ L_ ({ frames := 1, cells := 0, slots := 0, locals := 17 } : Room).cells ({ frames := 1, cells := 0, slots := 0, locals := 17 } : Room).slots) := by
  by_cases hr0 : own_pre key nd x0 y0
  · exact rm_add1y_ l Z a0 hw ws a d g kd kg key nd x0 x1 x2 x3 y0 y1 y2 y3 h0 n0 Z0 F_size_a F_keys_a F_nodes_a E_a g_a g_d g_g V_d V_g ndg nad nag hr0
  · exact rm_add1n_ l Z a0 hw ws a d g kd kg key nd x0 x1 x2 x3 y0 y1 y2 y3 h0 n0 Z0 F_size_a F_keys_a F_nodes_a E_a g_a g_d g_g V_d V_g ndg nad nag hr0
def Q_add2 (Z : State) (a : Addr) (d : Addr) (g : Addr) (kd : ClassId) (kg : ClassId) (key : Int64) (nd : Int32) (x0 : Int64) (x1 : Int64) (x2 : Int64) (x3 : Int64) (y0 : Int32) (y1 : Int32) (y2 : Int32) (y3 : Int32) (h0 : Heap) (n0 : Nat) (v_ : Option Value) (h_ : Heap) (L_ : List Loc) : Prop := ∃ u0 : Int64, ∃ u1 : Int64, ∃ u2 : Int64, ∃ u3 : Int64, ∃ v0 : Int32, ∃ v1 : Int32, ∃ v2 : Int32, ∃ v3 : Int32, v_ = none ∧ Fr n0 L_ ∧ Keep h0 h_ [a, d, g] ∧ Fld Z h_ a "com/example/greenweft/greenweft/steiner/NodeHeap" "size" "I" (.int (3 : Int32)) ∧ Fld Z h_ a "com/example/greenweft/greenweft/steiner/NodeHeap" "keys" "[J" (.ref d) ∧ Fld Z h_ a "com/example/greenweft/greenweft/steiner/NodeHeap" "nodes" "[I" (.ref g) ∧ Exa Z h_ a "com/example/greenweft/greenweft/steiner/NodeHeap" ∧ Arv Z h_ d kd .long (16 : Int32) [(.long u0), (.long u1), (.long u2), (.long u3)] (.long (0 : Int64)) ∧ Arv Z h_ g kg .int (16 : Int32) [(.int v0), (.int v1), (.int v2), (.int v3)] (.int (0 : Int32))
theorem ef_add2n_ (mM : MethodId) (x0 : Addr) (x1 : Int64) (x2 : Int32) : entryFrame mM #[(.ref x0), (.long x1), (.int x2)] 6 = mkF mM 0 #[.val (.ref x0), .val (.long x1), .second, .val (.int x2), .unset, .unset] [] := by first | (simp [entryFrame, mkF, argsToLocals, Value.category]; done) | rfl
set_option maxRecDepth 65536 in
set_option maxHeartbeats 40000000 in
theorem rm_add2n_ (l : Launch) (Z : State) (a0 : Array Value) (hw : ∀ d ∈ tables_1, d.before a0 Z = true) (ws : List Jvm.Cond) (a : Addr) (d : Addr) (g : Addr) (kd : ClassId) (kg : ClassId) (key : Int64) (nd : Int32) (x0 : Int64) (x1 : Int64) (x2 : Int64) (x3 : Int64) (y0 : Int32) (y1 : Int32) (y2 : Int32) (y3 : Int32) (h0 : Heap) (n0 : Nat) (Z0 : n0 ≤ h0.size) (F_size_a : Fld Z h0 a "com/example/greenweft/greenweft/steiner/NodeHeap" "size" "I" (.int (2 : Int32))) (F_keys_a : Fld Z h0 a "com/example/greenweft/greenweft/steiner/NodeHeap" "keys" "[J" (.ref d)) (F_nodes_a : Fld Z h0 a "com/example/greenweft/greenweft/steiner/NodeHeap" "nodes" "[I" (.ref g)) (E_a : Exa Z h0 a "com/example/greenweft/greenweft/steiner/NodeHeap") (g_a : n0 ≤ a) (g_d : n0 ≤ d) (g_g : n0 ≤ g) (V_d : Arv Z h0 d kd .long (16 : Int32) [(.long x0), (.long x1), (.long x2), (.long x3)] (.long (0 : Int64))) (V_g : Arv Z h0 g kg .int (16 : Int32) [(.int y0), (.int y1), (.int y2), (.int y3)] (.int (0 : Int32))) (ndg : d ≠ g) (nad : a ≠ d) (nag : a ≠ g) (hr0 : ¬ own_pre key nd x0 y0) :
    MetFree l (⟨"com/example/greenweft/greenweft/steiner/NodeHeap", "add", "(JI)V"⟩ : MethodName) (head1 (Jvm.Cond.code (⟨"com/example/greenweft/greenweft/steiner/NodeHeap", "add", "(JI)V"⟩ : MethodName) prog_33_method_4_code 6 none :: ws) ({ frames := 1, cells := 0, slots := 0, locals := 17 } : Room)) (fun aa_ U_ => aa_ = #[(.ref a), (.long key), (.int nd)] ∧ Z.Warmed39 U_.vm ∧ U_.heap = h0) (fun _ _ _ _ _ => True) (fun _ U_ o_ U'_ => ∃ v_ L_, o_ = .returned v_ ∧ Q_add2 Z a d g kd kg key nd x0 x1 x2 x3 y0 y1 y2 y3 h0 n0 v_ U'_.heap L_ ∧ FrameEnd U_ o_ U'_ L_ ({ frames := 1, cells := 0, slots := 0, locals := 17 } : Room).cells ({ frames := 1, cells := 0, slots := 0, locals := 17 } : Room).slots) := by
  refine MetFree.of_bodySF (plainFor_of_name pn_0) hisR ?_
  intro pP eE sS mM argsA below meth cC s₁ Bd hml0 hP hK
  obtain ⟨rfl, hZ, hh⟩ := hP
  have hx := Bd.exec
  have hby := Bd.bytes
  have hml : cC.maxLocals = 6 := hml0
  have hown : sS.vm.findClass "com/example/greenweft/greenweft/steiner/NodeHeap" = some mM.cls := findClass_of_methodNamed Bd.named
  have hnm := (name_of_methodNamed Bd.named Bd.method).1
  have X0 : Stand pP l eE ({ frames := 1, cells := 0, slots := 0, locals := 17 } : Room) sS mM #[(.ref a), (.long key), (.int nd)] below meth cC s₁ [] 0 0 := Stand.of_body Bd
  have e0 : s₁.heap = h0 := by rw [← hh, Bd.state]; rfl
  have N0 := Fr.nil n0
  have pre0 : ∀ t_, Steps pP.tables eE below (s₁.setTop (mkF mM 0 #[.val (.ref a), .val (.long key), .second, .val (.int nd), .unset, .unset] [])) t_ → Steps pP.tables eE below (s₁.setTop (entryFrame mM #[(.ref a), (.long key), (.int nd)] 6)) t_ := fun t_ k_ => castTop (ef_add2n_ mM a key nd) k_
  obtain ⟨T_1, X_1, e_1, st_1⟩ := getF X0 hx hZ hown (host := "") (Or.inl (ow hw 21 rfl)) Via.refl e0 F_size_a (g := (mkF mM 1 #[.val (.ref a), .val (.long key), .second, .val (.int nd), .unset, .unset] [(.ref a)])) rfl rfl (hb hby d_prog_33m4_1)
  obtain ⟨T_2, X_2, e_2, st_2⟩ := getF X_1 hx hZ hown (host := "") (Or.inl (ow hw 11 rfl)) Via.refl e_1 F_keys_a (g := (mkF mM 5 #[.val (.ref a), .val (.long key), .second, .val (.int nd), .unset, .unset] [(.ref a), (.int (2 : Int32))])) rfl rfl (hb hby d_prog_33m4_5)
  obtain ⟨cl_3, Ar_3, -, Sa_3, Na_3, -, -⟩ := id V_d
  obtain ⟨T_4, X_4, e_4, st_4⟩ := getF X_2 hx hZ hown (host := "") (Or.inl (ow hw 21 rfl)) Via.refl e_2 F_size_a (g := (mkF mM 48 #[.val (.ref a), .val (.long key), .second, .val (.int nd), .unset, .unset] [(.ref a), (.ref a)])) rfl rfl (hb hby d_prog_33m4_48)
  obtain ⟨T_5, h_5, X_5, e_5, W_5, st_5⟩ := putF X_4 hx hZ hown (host := "") (Or.inl (ow hw 21 rfl)) Via.refl e_4 F_size_a E_a (Or.inl (ow hw 22 rfl)) (ow hw 2 rfl) (ty := .int) (by decide) rfl rfl (g := (mkF mM 54 #[.val (.ref a), .val (.long key), .second, .val (.int nd), .unset, .unset] [(.int (3 : Int32)), (.ref a), (.int (2 : Int32))])) rfl rfl (hb hby d_prog_33m4_54)
  have Fw_5 := F_size_a.same W_5
  have Z_5 : n0 ≤ h_5.size := (Nat.le_trans Z0 (Keep.of_wr W_5).1)
  have K_5 : Keep h0 h_5 [a, d, g] := (Keep.refl h0 [a, d, g]).wr W_5 (Or.inl (List.mem_of_getElem? (i := 0) rfl))
  have N_5 := Fr.snoc X_5 N0 g_a
  obtain ⟨T_6, X_6, e_6, st_6⟩ := getF X_5 hx hZ hown (host := "") (Or.inl (ow hw 11 rfl)) Via.refl e_5 (F_keys_a.other W_5 (Or.inr (slot_ne (Or.inl (ow hw 12 rfl)) (Or.inl (ow hw 22 rfl)) (by decide) (t := (.array .long)) (t' := .int) (by decide) (by decide)))) (g := (mkF mM 75 #[.val (.ref a), .val (.long key), .second, .val (.int nd), .val (.int (2 : Int32)), .val (.int (0 : Int32))] [(.ref a), (.int nd), (.long key)])) rfl rfl (hb hby d_prog_33m4_75)
  obtain ⟨cl_7, Ar_7, qa_7, Sa_7, Na_7, Ha_7, Ga_7⟩ := id (V_d.other W_5 (Ne.symm nad))
  have hin_7 : ¬ ((0 : Int32) < 0 ∨ cl_7.slots.size ≤ ((0 : Int32)).toNatClampNeg) := inb_of Sa_7 ⟨by decide, by decide⟩
  have hat_7 : cl_7.slots[((0 : Int32)).toNatClampNeg]? = some (.long x0) := Has.at Ha_7 hin_7 rfl
  obtain ⟨T_8, X_8, e_8, st_8⟩ := getF X_6 hx hZ hown (host := "") (Or.inl (ow hw 14 rfl)) Via.refl e_6 (F_nodes_a.other W_5 (Or.inr (slot_ne (Or.inl (ow hw 15 rfl)) (Or.inl (ow hw 22 rfl)) (by decide) (t := (.array .int)) (t' := .int) (by decide) (by decide)))) (g := (mkF mM 82 #[.val (.ref a), .val (.long key), .second, .val (.int nd), .val (.int (2 : Int32)), .val (.int (0 : Int32))] [(.ref a), (.long x0), (.int nd), (.long key)])) rfl rfl (hb hby d_prog_33m4_82)
  obtain ⟨cl_9, Ar_9, qa_9, Sa_9, Na_9, Ha_9, Ga_9⟩ := id (V_g.other W_5 (Ne.symm nag))
  have hin_9 : ¬ ((0 : Int32) < 0 ∨ cl_9.slots.size ≤ ((0 : Int32)).toNatClampNeg) := inb_of Sa_9 ⟨by decide, by decide⟩
  have hat_9 : cl_9.slots[((0 : Int32)).toNatClampNeg]? = some (.int y0) := Has.at Ha_9 hin_9 rfl
  obtain ⟨_, _, ⟨T_10, L_10, k_10, n_10⟩, -, X_10, ⟨Lc_10, hQ_10, l_10, y_10, z_10⟩, st_10⟩ := Jvm.LawKit.callS X_8 hx (y := MN0) hown (mvT hZ (ow hw 33 rfl)) (mvT hZ (ow hw 34 rfl)) (mvT hZ (ow hw 3 rfl)) (mvT hZ (ow hw 35 rfl)) (by decide) (backOf (W := 0) (rm_prc0 l Z a0 hw [] key nd x0 y0 h_5 n0 Z_5 hr0) hZ (ow hw 35 rfl) (ow hw 3 rfl) (by decide) (by decide)) (g := (mkF mM 88 #[.val (.ref a), .val (.long key), .second, .val (.int nd), .val (.int (2 : Int32)), .val (.int (0 : Int32))] [(.int y0), (.long x0), (.int nd), (.long key)])) rfl (by rw [hml]; rfl) (argsL := [(.long key), (.int nd), (.long x0), (.int y0)]) (rest := []) (lenOf pd_0 rfl) rfl (by show 2 * 0 + _ ≤ _; exact Nat.le_of_eq rfl) (hb hby d_prog_33m4_88) (fun _ _ => ⟨rfl, e_8, (by decide : 0 + 0 ≤ _), (by decide : 0 + 0 ≤ _)⟩)
  dsimp only [Pt.U, Pt.locs, Pt.cells, Pt.slots] at X_10 l_10 y_10 z_10 st_10 hQ_10
  subst l_10 y_10 z_10
  obtain ⟨rfl, N_10q, eh_10⟩ := hQ_10
  have N_10 := Fr.app N_5 N_10q
  obtain ⟨T_11, X_11, e_11, st_11⟩ := getF X_10 hx hZ hown (host := "") (Or.inl (ow hw 11 rfl)) Via.refl eh_10 (F_keys_a.other W_5 (Or.inr (slot_ne (Or.inl (ow hw 12 rfl)) (Or.inl (ow hw 22 rfl)) (by decide) (t := (.array .long)) (t' := .int) (by decide) (by decide)))) (g := (mkF mM 133 #[.val (.ref a), .val (.long key), .second, .val (.int nd), .val (.int (2 : Int32)), .val (.int (0 : Int32))] [(.ref a)])) rfl rfl (hb hby d_prog_33m4_133)
  obtain ⟨cl_12, Ar_12, qa_12, Sa_12, Na_12, Ha_12, Ga_12⟩ := id (V_d.other W_5 (Ne.symm nad))
  have hin_12 : ¬ ((2 : Int32) < 0 ∨ cl_12.slots.size ≤ ((2 : Int32)).toNatClampNeg) := inb_of Sa_12 ⟨by decide, by decide⟩
  obtain ⟨T_12, h_12, X_12, e_12, W_12, st_12⟩ := stJ X_11 hx hZ e_11 Ar_12 (j := (2 : Int32)) hin_12 (g := (mkF mM 139 #[.val (.ref a), .val (.long key), .second, .val (.int nd), .val (.int (2 : Int32)), .val (.int (0 : Int32))] [(.long key), (.int (2 : Int32)), (.ref d)])) rfl rfl (hb hby d_prog_33m4_139)
  have V_12 : Arv Z h_12 d kd .long (16 : Int32) [(.long x0), (.long x1), (.long key), (.long x3)] (.long (0 : Int64)) := Arv.set Ar_12 qa_12 Sa_12 Na_12 Ha_12 Ga_12 rfl W_12 2 rfl (Nat.le_of_ble_eq_true rfl)
  have Z_12 : n0 ≤ h_12.size := (Nat.le_trans Z_5 (Keep.of_wr W_12).1)
  have K_12 : Keep h0 h_12 [a, d, g] := K_5.wr W_12 (Or.inl (List.mem_of_getElem? (i := 1) rfl))
  have N_12 := Fr.snoc X_12 N_10 g_d
  obtain ⟨T_13, X_13, e_13, st_13⟩ := getF X_12 hx hZ hown (host := "") (Or.inl (ow hw 14 rfl)) Via.refl e_12 ((F_nodes_a.other W_5 (Or.inr (slot_ne (Or.inl (ow hw 15 rfl)) (Or.inl (ow hw 22 rfl)) (by decide) (t := (.array .int)) (t' := .int) (by decide) (by decide)))).other W_12 (Or.inl nad)) (g := (mkF mM 141 #[.val (.ref a), .val (.long key), .second, .val (.int nd), .val (.int (2 : Int32)), .val (.int (0 : Int32))] [(.ref a)])) rfl rfl (hb hby d_prog_33m4_141)
  obtain ⟨cl_14, Ar_14, qa_14, Sa_14, Na_14, Ha_14, Ga_14⟩ := id ((V_g.other W_5 (Ne.symm nag)).other W_12 (Ne.symm ndg))
  have hin_14 : ¬ ((2 : Int32) < 0 ∨ cl_14.slots.size ≤ ((2 : Int32)).toNatClampNeg) := inb_of Sa_14 ⟨by decide, by decide⟩
  obtain ⟨T_14, h_14, X_14, e_14, W_14, st_14⟩ := stI X_13 hx hZ e_13 Ar_14 (j := (2 : Int32)) hin_14 (g := (mkF mM 147 #[.val (.ref a), .val (.long key), .second, .val (.int nd), .val (.int (2 : Int32)), .val (.int (0 : Int32))] [(.int nd), (.int (2 : Int32)), (.ref g)])) rfl rfl (hb hby d_prog_33m4_147)
  have V_14 : Arv Z h_14 g kg .int (16 : Int32) [(.int y0), (.int y1), (.int nd), (.int y3)] (.int (0 : Int32)) := Arv.set Ar_14 qa_14 Sa_14 Na_14 Ha_14 Ga_14 rfl W_14 2 rfl (Nat.le_of_ble_eq_true rfl)
  have Z_14 : n0 ≤ h_14.size := (Nat.le_trans Z_12 (Keep.of_wr W_14).1)
  have K_14 : Keep h0 h_14 [a, d, g] := K_12.wr W_14 (Or.inl (List.mem_of_getElem? (i := 2) rfl))
  have N_14 := Fr.snoc X_14 N_12 g_g
  obtain ⟨fs, hr, hrun, hended, hW, hsame⟩ := X_14.leave (v := none) (fun _ => rfl)
  refine ⟨_, _, pre0 _ ?_, hrun, hended, _, _, rfl, ?_, ⟨_, rfl⟩, hW, hsame.mono (by decide) (by decide)⟩
  · show oS pP eE below s₁ (mkF mM 0 #[.val (.ref a), .val (.long key), .second, .val (.int nd), .unset, .unset] []) _
    refine XS.aloadN X0.here hx rfl (hb hby d_prog_33m4_0) rfl rfl ?_
    show oS pP eE below s₁ (mkF mM 1 #[.val (.ref a), .val (.long key), .second, .val (.int nd), .unset, .unset] [(.ref a)]) _
    refine st_1 _ ?_
    show oS pP eE below T_1 (mkF mM 4 #[.val (.ref a), .val (.long key), .second, .val (.int nd), .unset, .unset] [(.int (2 : Int32))]) _
    refine XS.aloadN X_1.here hx rfl (hb hby d_prog_33m4_4) rfl rfl ?_
    show oS pP eE below T_1 (mkF mM 5 #[.val (.ref a), .val (.long key), .second, .val (.int nd), .unset, .unset] [(.ref a), (.int (2 : Int32))]) _
    refine st_2 _ ?_
    show oS pP eE below T_2 (mkF mM 8 #[.val (.ref a), .val (.long key), .second, .val (.int nd), .unset, .unset] [(.ref d), (.int (2 : Int32))]) _
    refine X_2.arraylength hx (by rw [e_2]; exact Ar_3.1) (State.isArrayOf_alike hZ.alike Ar_3.2.1) (g := (mkF mM 8 #[.val (.ref a), .val (.long key), .second, .val (.int nd), .unset, .unset] [(.ref d), (.int (2 : Int32))])) rfl rfl (hb hby d_prog_33m4_8) _ ?_
    rw [len_of Sa_3 Na_3]
    refine XS.icmpYes X_2.here hx rfl (pc0 := 9) (pc' := 46) rfl (hb hby d_prog_33m4_9) rfl (by decide) (by decide) (by decide) ?_
    refine XS.aloadN X_2.here hx rfl (hb hby d_prog_33m4_46) rfl rfl ?_
    refine XS.dup X_2.here hx rfl (hb hby d_prog_33m4_47) rfl rfl ?_
    show oS pP eE below T_2 (mkF mM 48 #[.val (.ref a), .val (.long key), .second, .val (.int nd), .unset, .unset] [(.ref a), (.ref a)]) _
    refine st_4 _ ?_
    show oS pP eE below T_4 (mkF mM 51 #[.val (.ref a), .val (.long key), .second, .val (.int nd), .unset, .unset] [(.int (2 : Int32)), (.ref a)]) _
    refine XT.dupX1 X_4.here hx rfl (hb hby d_prog_33m4_51) rfl rfl rfl ?_
    refine XS.iconst X_4.here hx rfl (hb hby d_prog_33m4_52) ?_
    show oS pP eE below T_4 (mkF mM 53 #[.val (.ref a), .val (.long key), .second, .val (.int nd), .unset, .unset] [(.int (1 : Int32)), (.int (2 : Int32)), (.ref a), (.int (2 : Int32))]) _
    refine XS.iadd X_4.here hx rfl (hb hby d_prog_33m4_53) rfl ?_
    show oS pP eE below T_4 (mkF mM 54 #[.val (.ref a), .val (.long key), .second, .val (.int nd), .unset, .unset] [(.int ((2 : Int32) + (1 : Int32))), (.ref a), (.int (2 : Int32))]) _
    rw [(by decide : ((2 : Int32) + (1 : Int32)) = (3 : Int32))]
    show oS pP eE below T_4 (mkF mM 54 #[.val (.ref a), .val (.long key), .second, .val (.int nd), .unset, .unset] [(.int (3 : Int32)), (.ref a), (.int (2 : Int32))]) _
    refine st_5 _ ?_
    show oS pP eE below T_5 (mkF mM 57 #[.val (.ref a), .val (.long key), .second, .val (.int nd), .unset, .unset] [(.int (2 : Int32))]) _
    refine XS.istore X_5.here hx rfl (hb hby d_prog_33m4_57) rfl (l' := #[.val (.ref a), .val (.long key), .second, .val (.int nd), .val (.int (2 : Int32)), .unset]) rfl ?_
    refine XS.iload X_5.here hx rfl (hb hby d_prog_33m4_59) rfl ?_
    refine XS.ifNo X_5.here hx rfl (hb hby d_prog_33m4_61) rfl (by decide) ?_
    refine XS.iload X_5.here hx rfl (hb hby d_prog_33m4_64) rfl ?_
    refine XS.iconst X_5.here hx rfl (hb hby d_prog_33m4_66) ?_
    show oS pP eE below T_5 (mkF mM 67 #[.val (.ref a), .val (.long key), .second, .val (.int nd), .val (.int (2 : Int32)), .unset] [(.int (1 : Int32)), (.int (2 : Int32))]) _
    refine XS.isub X_5.here hx rfl (hb hby d_prog_33m4_67) rfl ?_
    show oS pP eE below T_5 (mkF mM 68 #[.val (.ref a), .val (.long key), .second, .val (.int nd), .val (.int (2 : Int32)), .unset] [(.int ((2 : Int32) - (1 : Int32)))]) _
    rw [(by decide : ((2 : Int32) - (1 : Int32)) = (1 : Int32))]
    refine XS.iconst X_5.here hx rfl (hb hby d_prog_33m4_68) ?_
    show oS pP eE below T_5 (mkF mM 69 #[.val (.ref a), .val (.long key), .second, .val (.int nd), .val (.int (2 : Int32)), .unset] [(.int (2 : Int32)), (.int (1 : Int32))]) _
    refine XS.idiv X_5.here hx rfl (hb hby d_prog_33m4_69) rfl (by decide) ?_
    show oS pP eE below T_5 (mkF mM 70 #[.val (.ref a), .val (.long key), .second, .val (.int nd), .val (.int (2 : Int32)), .unset] [(.int ((1 : Int32) / (2 : Int32)))]) _
    rw [(by decide : ((1 : Int32) / (2 : Int32)) = (0 : Int32))]
    refine XS.istore X_5.here hx rfl (hb hby d_prog_33m4_70) rfl (l' := #[.val (.ref a), .val (.long key), .second, .val (.int nd), .val (.int (2 : Int32)), .val (.int (0 : Int32))]) rfl ?_
    refine XT.lloadN X_5.here hx rfl (hb hby d_prog_33m4_72) rfl ?_
    refine XS.iloadN X_5.here hx rfl (hb hby d_prog_33m4_73) rfl ?_
    refine XS.aloadN X_5.here hx rfl (hb hby d_prog_33m4_74) rfl rfl ?_
    show oS pP eE below T_5 (mkF mM 75 #[.val (.ref a), .val (.long key), .second, .val (.int nd), .val (.int (2 : Int32)), .val (.int (0 : Int32))] [(.ref a), (.int nd), (.long key)]) _
    refine st_6 _ ?_
    show oS pP eE below T_6 (mkF mM 78 #[.val (.ref a), .val (.long key), .second, .val (.int nd), .val (.int (2 : Int32)), .val (.int (0 : Int32))] [(.ref d), (.int nd), (.long key)]) _
    refine XS.iload X_6.here hx rfl (hb hby d_prog_33m4_78) rfl ?_
    show oS pP eE below T_6 (mkF mM 80 #[.val (.ref a), .val (.long key), .second, .val (.int nd), .val (.int (2 : Int32)), .val (.int (0 : Int32))] [(.int (0 : Int32)), (.ref d), (.int nd), (.long key)]) _
    refine X_6.laload hx (j := (0 : Int32)) (v := (.long x0)) (by rw [e_6]; exact Ar_7.1) (State.isArrayOf_alike hZ.alike Ar_7.2.1) Ar_7.2.2 hin_7 hat_7 (g := (mkF mM 80 #[.val (.ref a), .val (.long key), .second, .val (.int nd), .val (.int (2 : Int32)), .val (.int (0 : Int32))] [(.int (0 : Int32)), (.ref d), (.int nd), (.long key)])) rfl rfl (hb hby d_prog_33m4_80) _ ?_
    refine XS.aloadN X_6.here hx rfl (hb hby d_prog_33m4_81) rfl rfl ?_
    show oS pP eE below T_6 (mkF mM 82 #[.val (.ref a), .val (.long key), .second, .val (.int nd), .val (.int (2 : Int32)), .val (.int (0 : Int32))] [(.ref a), (.long x0), (.int nd), (.long key)]) _
    refine st_8 _ ?_
    show oS pP eE below T_8 (mkF mM 85 #[.val (.ref a), .val (.long key), .second, .val (.int nd), .val (.int (2 : Int32)), .val (.int (0 : Int32))] [(.ref g), (.long x0), (.int nd), (.long key)]) _
    refine XS.iload X_8.here hx rfl (hb hby d_prog_33m4_85) rfl ?_
    show oS pP eE below T_8 (mkF mM 87 #[.val (.ref a), .val (.long key), .second, .val (.int nd), .val (.int (2 : Int32)), .val (.int (0 : Int32))] [(.int (0 : Int32)), (.ref g), (.long x0), (.int nd), (.long key)]) _
    refine X_8.iaload hx (j := (0 : Int32)) (v := (.int y0)) (by rw [e_8]; exact Ar_9.1) (State.isArrayOf_alike hZ.alike Ar_9.2.1) Ar_9.2.2 hin_9 hat_9 (g := (mkF mM 87 #[.val (.ref a), .val (.long key), .second, .val (.int nd), .val (.int (2 : Int32)), .val (.int (0 : Int32))] [(.int (0 : Int32)), (.ref g), (.long x0), (.int nd), (.long key)])) rfl rfl (hb hby d_prog_33m4_87) _ ?_
    show oS pP eE below T_8 (mkF mM 88 #[.val (.ref a), .val (.long key), .second, .val (.int nd), .val (.int (2 : Int32)), .val (.int (0 : Int32))] [(.int y0), (.long x0), (.int nd), (.long key)]) _
    refine st_10 _ ?_
    show oS pP eE below T_10 (mkF mM 91 #[.val (.ref a), .val (.long key), .second, .val (.int nd), .val (.int (2 : Int32)), .val (.int (0 : Int32))] [(.int (0 : Int32))]) _
    refine XS.ifNo X_10.here hx rfl (hb hby d_prog_33m4_91) rfl (by decide) ?_
    refine XS.goto X_10.here hx rfl (pc0 := 94) (pc' := 132) rfl (hb hby d_prog_33m4_94) (by decide) (by decide) ?_
    refine XS.aloadN X_10.here hx rfl (hb hby d_prog_33m4_132) rfl rfl ?_
    show oS pP eE below T_10 (mkF mM 133 #[.val (.ref a), .val (.long key), .second, .val (.int nd), .val (.int (2 : Int32)), .val (.int (0 : Int32))] [(.ref a)]) _
    refine st_11 _ ?_
    show oS pP eE below T_11 (mkF mM 136 #[.val (.ref a), .val (.long key), .second, .val (.int nd), .val (.int (2 : Int32)), .val (.int (0 : Int32))] [(.ref d)]) _
    refine XS.iload X_11.here hx rfl (hb hby d_prog_33m4_136) rfl ?_
    refine XT.lloadN X_11.here hx rfl (hb hby d_prog_33m4_138) rfl ?_
    show oS pP eE below T_11 (mkF mM 139 #[.val (.ref a), .val (.long key), .second, .val (.int nd), .val (.int (2 : Int32)), .val (.int (0 : Int32))] [(.long key), (.int (2 : Int32)), (.ref d)]) _
    refine st_12 _ ?_
    show oS pP eE below T_12 (mkF mM 140 #[.val (.ref a), .val (.long key), .second, .val (.int nd), .val (.int (2 : Int32)), .val (.int (0 : Int32))] []) _
    refine XS.aloadN X_12.here hx rfl (hb hby d_prog_33m4_140) rfl rfl ?_
    show oS pP eE below T_12 (mkF mM 141 #[.val (.ref a), .val (.long key), .second, .val (.int nd), .val (.int (2 : Int32)), .val (.int (0 : Int32))] [(.ref a)]) _
    refine st_13 _ ?_
    show oS pP eE below T_13 (mkF mM 144 #[.val (.ref a), .val (.long key), .second, .val (.int nd), .val (.int (2 : Int32)), .val (.int (0 : Int32))] [(.ref g)]) _
    refine XS.iload X_13.here hx rfl (hb hby d_prog_33m4_144) rfl ?_
    refine XS.iloadN X_13.here hx rfl (hb hby d_prog_33m4_146) rfl ?_
    show oS pP eE below T_13 (mkF mM 147 #[.val (.ref a), .val (.long key), .second, .val (.int nd), .val (.int (2 : Int32)), .val (.int (0 : Int32))] [(.int nd), (.int (2 : Int32)), (.ref g)]) _
    refine st_14 _ ?_
    show oS pP eE below T_14 (mkF mM 148 #[.val (.ref a), .val (.long key), .second, .val (.int nd), .val (.int (2 : Int32)), .val (.int (0 : Int32))] []) _
    exact X_14.returnOut hx Bd.returns (hb hby d_prog_33m4_148) hr
  · show Q_add2 Z a d g kd kg key nd x0 x1 x2 x3 y0 y1 y2 y3 h0 n0 _ T_14.heap _
    rw [e_14]
    exact ⟨x0, x1, key, x3, y0, y1, nd, y3, rfl, N_14, K_14, ((Fw_5.other W_12 (Or.inl nad)).other W_14 (Or.inl nag)), (((F_keys_a.other W_5 (Or.inr (slot_ne (Or.inl (ow hw 12 rfl)) (Or.inl (ow hw 22 rfl)) (by decide) (t := (.array .long)) (t' := .int) (by decide) (by decide)))).other W_12 (Or.inl nad)).other W_14 (Or.inl nag)), (((F_nodes_a.other W_5 (Or.inr (slot_ne (Or.inl (ow hw 15 rfl)) (Or.inl (ow hw 22 rfl)) (by decide) (t := (.array .int)) (t' := .int) (by decide) (by decide)))).other W_12 (Or.inl nad)).other W_14 (Or.inl nag)), (((E_a.wr W_5).wr W_12).wr W_14), (V_12.other W_14 ndg), V_14⟩
theorem ef_add2y_ (mM : MethodId) (x0 : Addr) (x1 : Int64) (x2 : Int32) : entryFrame mM #[(.ref x0), (.long x1), (.int x2)] 6 = mkF mM 0 #[.val (.ref x0), .val (.long x1), .second, .val (.int x2), .unset, .unset] [] := by first | (simp [entryFrame, mkF, argsToLocals, Value.category]; done) | rfl
set_option maxRecDepth 65536 in
set_option maxHeartbeats 40000000 in
theorem rm_add2y_ (l : Launch) (Z : State) (a0 : Array Value) (hw : ∀ d ∈ tables_1, d.before a0 Z = true) (ws : List Jvm.Cond) (a : Addr) (d : Addr) (g : Addr) (kd : ClassId) (kg : ClassId) (key : Int64) (nd : Int32) (x0 : Int64) (x1 : Int64) (x2 : Int64) (x3 : Int64) (y0 : Int32) (y1 : Int32) (y2 : Int32) (y3 : Int32) (h0 : Heap) (n0 : Nat) (Z0 : n0 ≤ h0.size) (F_size_a : Fld Z h0 a "com/example/greenweft/greenweft/steiner/NodeHeap" "size" "I" (.int (2 : Int32))) (F_keys_a : Fld Z h0 a "com/example/greenweft/greenweft/steiner/NodeHeap" "keys" "[J" (.ref d)) (F_nodes_a : Fld Z h0 a "com/example/greenweft/greenweft/steiner/NodeHeap" "nodes" "[I" (.ref g)) (E_a : Exa Z h0 a "com/example/greenweft/greenweft/steiner/NodeHeap") (g_a : n0 ≤ a) (g_d : n0 ≤ d) (g_g : n0 ≤ g) (V_d : Arv Z h0 d kd .long (16 : Int32) [(.long x0), (.long x1), (.long x2), (.long x3)] (.long (0 : Int64))) (V_g : Arv Z h0 g kg .int (16 : Int32) [(.int y0), (.int y1), (.int y2), (.int y3)] (.int (0 : Int32))) (ndg : d ≠ g) (nad : a ≠ d) (nag : a ≠ g) (hr0 : own_pre key nd x0 y0) :
    MetFree l (⟨"com/example/greenweft/greenweft/steiner/NodeHeap", "add", "(JI)V"⟩ : MethodName) (head1 (Jvm.Cond.code (⟨"com/example/greenweft/greenweft/steiner/NodeHeap", "add", "(JI)V"⟩ : MethodName) prog_33_method_4_code 6 none :: ws) ({ frames := 1, cells := 0, slots := 0, locals := 17 } : Room)) (fun aa_ U_ => aa_ = #[(.ref a), (.long key), (.int nd)] ∧ Z.Warmed39 U_.vm ∧ U_.heap = h0) (fun _ _ _ _ _ => True) (fun _ U_ o_ U'_ => ∃ v_ L_, o_ = .returned v_ ∧ Q_add2 Z a d g kd kg key nd x0 x1 x2 x3 y0 y1 y2 y3 h0 n0 v_ U'_.heap L_ ∧ FrameEnd U_ o_ U'_ L_ ({ frames := 1, cells := 0, slots := 0, locals := 17 } : Room).cells ({ frames := 1, cells := 0, slots := 0, locals := 17 } : Room).slots) := by
  refine MetFree.of_bodySF (plainFor_of_name pn_0) hisR ?_
  intro pP eE sS mM argsA below meth cC s₁ Bd hml0 hP hK
  obtain ⟨rfl, hZ, hh⟩ := hP
  have hx := Bd.exec
  have hby := Bd.bytes
  have hml : cC.maxLocals = 6 := hml0
  have hown : sS.vm.findClass "com/example/greenweft/greenweft/steiner/NodeHeap" = some mM.cls := findClass_of_methodNamed Bd.named
  have hnm := (name_of_methodNamed Bd.named Bd.method).1
  have X0 : Stand pP l eE ({ frames := 1, cells := 0, slots := 0, locals := 17 } : Room) sS mM #[(.ref a), (.long key), (.int nd)] below meth cC s₁ [] 0 0 := Stand.of_body Bd
  have e0 : s₁.heap = h0 := by rw [← hh, Bd.state]; rfl
  have N0 := Fr.nil n0
  have pre0 : ∀ t_, Steps pP.tables eE below (s₁.setTop (mkF mM 0 #[.val (.ref a), .val (.long key), .second, .val (.int nd), .unset, .unset] [])) t_ → Steps pP.tables eE below (s₁.setTop (entryFrame mM #[(.ref a), (.long key), (.int nd)] 6)) t_ := fun t_ k_ => castTop (ef_add2y_ mM a key nd) k_
  obtain ⟨T_1, X_1, e_1, st_1⟩ := getF X0 hx hZ hown (host := "") (Or.inl (ow hw 21 rfl)) Via.refl e0 F_size_a (g := (mkF mM 1 #[.val (.ref a), .val (.long key), .second, .val (.int nd), .unset, .unset] [(.ref a)])) rfl rfl (hb hby d_prog_33m4_1)
  obtain ⟨T_2, X_2, e_2, st_2⟩ := getF X_1 hx hZ hown (host := "") (Or.inl (ow hw 11 rfl)) Via.refl e_1 F_keys_a (g := (mkF mM 5 #[.val (.ref a), .val (.long key), .second, .val (.int nd), .unset, .unset] [(.ref a), (.int (2 : Int32))])) rfl rfl (hb hby d_prog_33m4_5)
  obtain ⟨cl_3, Ar_3, -, Sa_3, Na_3, -, -⟩ := id V_d
  obtain ⟨T_4, X_4, e_4, st_4⟩ := getF X_2 hx hZ hown (host := "") (Or.inl (ow hw 21 rfl)) Via.refl e_2 F_size_a (g := (mkF mM 48 #[.val (.ref a), .val (.long key), .second, .val (.int nd), .unset, .unset] [(.ref a), (.ref a)])) rfl rfl (hb hby d_prog_33m4_48)
  obtain ⟨T_5, h_5, X_5, e_5, W_5, st_5⟩ := putF X_4 hx hZ hown (host := "") (Or.inl (ow hw 21 rfl)) Via.refl e_4 F_size_a E_a (Or.inl (ow hw 22 rfl)) (ow hw 2 rfl) (ty := .int) (by decide) rfl rfl (g := (mkF mM 54 #[.val (.ref a), .val (.long key), .second, .val (.int nd), .unset, .unset] [(.int (3 : Int32)), (.ref a), (.int (2 : Int32))])) rfl rfl (hb hby d_prog_33m4_54)
  have Fw_5 := F_size_a.same W_5
  have Z_5 : n0 ≤ h_5.size := (Nat.le_trans Z0 (Keep.of_wr W_5).1)
  have K_5 : Keep h0 h_5 [a, d, g] := (Keep.refl h0 [a, d, g]).wr W_5 (Or.inl (List.mem_of_getElem? (i := 0) rfl))
  have N_5 := Fr.snoc X_5 N0 g_a
  obtain ⟨T_6, X_6, e_6, st_6⟩ := getF X_5 hx hZ hown (host := "") (Or.inl (ow hw 11 rfl)) Via.refl e_5 (F_keys_a.other W_5 (Or.inr (slot_ne (Or.inl (ow hw 12 rfl)) (Or.inl (ow hw 22 rfl)) (by decide) (t := (.array .long)) (t' := .int) (by decide) (by decide)))) (g := (mkF mM 75 #[.val (.ref a), .val (.long key), .second, .val (.int nd), .val (.int (2 : Int32)), .val (.int (0 : Int32))] [(.ref a), (.int nd), (.long key)])) rfl rfl (hb hby d_prog_33m4_75)
  obtain ⟨cl_7, Ar_7, qa_7, Sa_7, Na_7, Ha_7, Ga_7⟩ := id (V_d.other W_5 (Ne.symm nad))
  have hin_7 : ¬ ((0 : Int32) < 0 ∨ cl_7.slots.size ≤ ((0 : Int32)).toNatClampNeg) := inb_of Sa_7 ⟨by decide, by decide⟩
  have hat_7 : cl_7.slots[((0 : Int32)).toNatClampNeg]? = some (.long x0) := Has.at Ha_7 hin_7 rfl
  obtain ⟨T_8, X_8, e_8, st_8⟩ := getF X_6 hx hZ hown (host := "") (Or.inl (ow hw 14 rfl)) Via.refl e_6 (F_nodes_a.other W_5 (Or.inr (slot_ne (Or.inl (ow hw 15 rfl)) (Or.inl (ow hw 22 rfl)) (by decide) (t := (.array .int)) (t' := .int) (by decide) (by decide)))) (g := (mkF mM 82 #[.val (.ref a), .val (.long key), .second, .val (.int nd), .val (.int (2 : Int32)), .val (.int (0 : Int32))] [(.ref a), (.long x0), (.int nd), (.long key)])) rfl rfl (hb hby d_prog_33m4_82)
  obtain ⟨cl_9, Ar_9, qa_9, Sa_9, Na_9, Ha_9, Ga_9⟩ := id (V_g.other W_5 (Ne.symm nag))
  have hin_9 : ¬ ((0 : Int32) < 0 ∨ cl_9.slots.size ≤ ((0 : Int32)).toNatClampNeg) := inb_of Sa_9 ⟨by decide, by decide⟩
  have hat_9 : cl_9.slots[((0 : Int32)).toNatClampNeg]? = some (.int y0) := Has.at Ha_9 hin_9 rfl
  obtain ⟨_, _, ⟨T_10, L_10, k_10, n_10⟩, -, X_10, ⟨Lc_10, hQ_10, l_10, y_10, z_10⟩, st_10⟩ := Jvm.LawKit.callS X_8 hx (y := MN0) hown (mvT hZ (ow hw 33 rfl)) (mvT hZ (ow hw 34 rfl)) (mvT hZ (ow hw 3 rfl)) (mvT hZ (ow hw 35 rfl)) (by decide) (backOf (W := 0) (rm_prc1 l Z a0 hw [] key nd x0 y0 h_5 n0 Z_5 hr0) hZ (ow hw 35 rfl) (ow hw 3 rfl) (by decide) (by decide)) (g := (mkF mM 88 #[.val (.ref a), .val (.long key), .second, .val (.int nd), .val (.int (2 : Int32)), .val (.int (0 : Int32))] [(.int y0), (.long x0), (.int nd), (.long key)])) rfl (by rw [hml]; rfl) (argsL := [(.long key), (.int nd), (.long x0), (.int y0)]) (rest := []) (lenOf pd_0 rfl) rfl (by show 2 * 0 + _ ≤ _; exact Nat.le_of_eq rfl) (hb hby d_prog_33m4_88) (fun _ _ => ⟨rfl, e_8, (by decide : 0 + 0 ≤ _), (by decide : 0 + 0 ≤ _)⟩)
  dsimp only [Pt.U, Pt.locs, Pt.cells, Pt.slots] at X_10 l_10 y_10 z_10 st_10 hQ_10
  subst l_10 y_10 z_10
  obtain ⟨rfl, N_10q, eh_10⟩ := hQ_10
  have N_10 := Fr.app N_5 N_10q
  obtain ⟨T_11, X_11, e_11, st_11⟩ := getF X_10 hx hZ hown (host := "") (Or.inl (ow hw 11 rfl)) Via.refl eh_10 (F_keys_a.other W_5 (Or.inr (slot_ne (Or.inl (ow hw 12 rfl)) (Or.inl (ow hw 22 rfl)) (by decide) (t := (.array .long)) (t' := .int) (by decide) (by decide)))) (g := (mkF mM 98 #[.val (.ref a), .val (.long key), .second, .val (.int nd), .val (.int (2 : Int32)), .val (.int (0 : Int32))] [(.ref a)])) rfl rfl (hb hby d_prog_33m4_98)
  obtain ⟨T_12, X_12, e_12, st_12⟩ := getF X_11 hx hZ hown (host := "") (Or.inl (ow hw 11 rfl)) Via.refl e_11 (F_keys_a.other W_5 (Or.inr (slot_ne (Or.inl (ow hw 12 rfl)) (Or.inl (ow hw 22 rfl)) (by decide) (t := (.array .long)) (t' := .int) (by decide) (by decide)))) (g := (mkF mM 104 #[.val (.ref a), .val (.long key), .second, .val (.int nd), .val (.int (2 : Int32)), .val (.int (0 : Int32))] [(.ref a), (.int (2 : Int32)), (.ref d)])) rfl rfl (hb hby d_prog_33m4_104)
  obtain ⟨cl_13, Ar_13, qa_13, Sa_13, Na_13, Ha_13, Ga_13⟩ := id (V_d.other W_5 (Ne.symm nad))
  have hin_13 : ¬ ((0 : Int32) < 0 ∨ cl_13.slots.size ≤ ((0 : Int32)).toNatClampNeg) := inb_of Sa_13 ⟨by decide, by decide⟩
  have hat_13 : cl_13.slots[((0 : Int32)).toNatClampNeg]? = some (.long x0) := Has.at Ha_13 hin_13 rfl
  obtain ⟨cl_14, Ar_14, qa_14, Sa_14, Na_14, Ha_14, Ga_14⟩ := id (V_d.other W_5 (Ne.symm nad))
  have hin_14 : ¬ ((2 : Int32) < 0 ∨ cl_14.slots.size ≤ ((2 : Int32)).toNatClampNeg) := inb_of Sa_14 ⟨by decide, by decide⟩
  obtain ⟨T_14, h_14, X_14, e_14, W_14, st_14⟩ := stJ X_12 hx hZ e_12 Ar_14 (j := (2 : Int32)) hin_14 (g := (mkF mM 110 #[.val (.ref a), .val (.long key), .second, .val (.int nd), .val (.int (2 : Int32)), .val (.int (0 : Int32))] [(.long x0), (.int (2 : Int32)), (.ref d)])) rfl rfl (hb hby d_prog_33m4_110)
  have V_14 : Arv Z h_14 d kd .long (16 : Int32) [(.long x0), (.long x1), (.long x0), (.long x3)] (.long (0 : Int64)) := Arv.set Ar_14 qa_14 Sa_14 Na_14 Ha_14 Ga_14 rfl W_14 2 rfl (Nat.le_of_ble_eq_true rfl)
  have Z_14 : n0 ≤ h_14.size := (Nat.le_trans Z_5 (Keep.of_wr W_14).1)
  have K_14 : Keep h0 h_14 [a, d, g] := K_5.wr W_14 (Or.inl (List.mem_of_getElem? (i := 1) rfl))
  have N_14 := Fr.snoc X_14 N_10 g_d
  obtain ⟨T_15, X_15, e_15, st_15⟩ := getF X_14 hx hZ hown (host := "") (Or.inl (ow hw 14 rfl)) Via.refl e_14 ((F_nodes_a.other W_5 (Or.inr (slot_ne (Or.inl (ow hw 15 rfl)) (Or.inl (ow hw 22 rfl)) (by decide) (t := (.array .int)) (t' := .int) (by decide) (by decide)))).other W_14 (Or.inl nad)) (g := (mkF mM 112 #[.val (.ref a), .val (.long key), .second, .val (.int nd), .val (.int (2 : Int32)), .val (.int (0 : Int32))] [(.ref a)])) rfl rfl (hb hby d_prog_33m4_112)
  obtain ⟨T_16, X_16, e_16, st_16⟩ := getF X_15 hx hZ hown (host := "") (Or.inl (ow hw 14 rfl)) Via.refl e_15 ((F_nodes_a.other W_5 (Or.inr (slot_ne (Or.inl (ow hw 15 rfl)) (Or.inl (ow hw 22 rfl)) (by decide) (t := (.array .int)) (t' := .int) (by decide) (by decide)))).other W_14 (Or.inl nad)) (g := (mkF mM 118 #[.val (.ref a), .val (.long key), .second, .val (.int nd), .val (.int (2 : Int32)), .val (.int (0 : Int32))] [(.ref a), (.int (2 : Int32)), (.ref g)])) rfl rfl (hb hby d_prog_33m4_118)
  obtain ⟨cl_17, Ar_17, qa_17, Sa_17, Na_17, Ha_17, Ga_17⟩ := id ((V_g.other W_5 (Ne.symm nag)).other W_14 (Ne.symm ndg))
  have hin_17 : ¬ ((0 : Int32) < 0 ∨ cl_17.slots.size ≤ ((0 : Int32)).toNatClampNeg) := inb_of Sa_17 ⟨by decide, by decide⟩
  have hat_17 : cl_17.slots[((0 : Int32)).toNatClampNeg]? = some (.int y0) := Has.at Ha_17 hin_17 rfl
  obtain ⟨cl_18, Ar_18, qa_18, Sa_18, Na_18, Ha_18, Ga_18⟩ := id ((V_g.other W_5 (Ne.symm nag)).other W_14 (Ne.symm ndg))
  have hin_18 : ¬ ((2 : Int32) < 0 ∨ cl_18.slots.size ≤ ((2 : Int32)).toNatClampNeg) := inb_of Sa_18 ⟨by decide, by decide⟩
  obtain ⟨T_18, h_18, X_18, e_18, W_18, st_18⟩ := stI X_16 hx hZ e_16 Ar_18 (j := (2 : Int32)) hin_18 (g := (mkF mM 124 #[.val (.ref a), .val (.long key), .second, .val (.int nd), .val (.int (2 : Int32)), .val (.int (0 : Int32))] [(.int y0), (.int (2 : Int32)), (.ref g)])) rfl rfl (hb hby d_prog_33m4_124)
  have V_18 : Arv Z h_18 g kg .int (16 : Int32) [(.int y0), (.int y1), (.int y0), (.int y3)] (.int (0 : Int32)) := Arv.set Ar_18 qa_18 Sa_18 Na_18 Ha_18 Ga_18 rfl W_18 2 rfl (Nat.le_of_ble_eq_true rfl)
  have Z_18 : n0 ≤ h_18.size := (Nat.le_trans Z_14 (Keep.of_wr W_18).1)
  have K_18 : Keep h0 h_18 [a, d, g] := K_14.wr W_18 (Or.inl (List.mem_of_getElem? (i := 2) rfl))
  have N_18 := Fr.snoc X_18 N_14 g_g
  obtain ⟨T_19, X_19, e_19, st_19⟩ := getF X_18 hx hZ hown (host := "") (Or.inl (ow hw 11 rfl)) Via.refl e_18 (((F_keys_a.other W_5 (Or.inr (slot_ne (Or.inl (ow hw 12 rfl)) (Or.inl (ow hw 22 rfl)) (by decide) (t := (.array .long)) (t' := .int) (by decide) (by decide)))).other W_14 (Or.inl nad)).other W_18 (Or.inl nag)) (g := (mkF mM 133 #[.val (.ref a), .val (.long key), .second, .val (.int nd), .val (.int (0 : Int32)), .val (.int (0 : Int32))] [(.ref a)])) rfl rfl (hb hby d_prog_33m4_133)
  obtain ⟨cl_20, Ar_20, qa_20, Sa_20, Na_20, Ha_20, Ga_20⟩ := id (V_14.other W_18 ndg)
  have hin_20 : ¬ ((0 : Int32) < 0 ∨ cl_20.slots.size ≤ ((0 : Int32)).toNatClampNeg) := inb_of Sa_20 ⟨by decide, by decide⟩
  obtain ⟨T_20, h_20, X_20, e_20, W_20, st_20⟩ := stJ X_19 hx hZ e_19 Ar_20 (j := (0 : Int32)) hin_20 (g := (mkF mM 139 #[.val (.ref a), .val (.long key), .second, .val (.int nd), .val (.int (0 : Int32)), .val (.int (0 : Int32))] [(.long key), (.int (0 : Int32)), (.ref d)])) rfl rfl (hb hby d_prog_33m4_139)
  have V_20 : Arv Z h_20 d kd .long (16 : Int32) [(.long key), (.long x1), (.long x0), (.long x3)] (.long (0 : Int64)) := Arv.set Ar_20 qa_20 Sa_20 Na_20 Ha_20 Ga_20 rfl W_20 0 rfl (Nat.le_of_ble_eq_true rfl)
  have Z_20 : n0 ≤ h_20.size := (Nat.le_trans Z_18 (Keep.of_wr W_20).1)
  have K_20 : Keep h0 h_20 [a, d, g] := K_18.wr W_20 (Or.inl (List.mem_of_getElem? (i := 1) rfl))
  have N_20 := Fr.snoc X_20 N_18 g_d
  obtain ⟨T_21, X_21, e_21, st_21⟩ := getF X_20 hx hZ hown (host := "") (Or.inl (ow hw 14 rfl)) Via.refl e_20 ((((F_nodes_a.other W_5 (Or.inr (slot_ne (Or.inl (ow hw 15 rfl)) (Or.inl (ow hw 22 rfl)) (by decide) (t := (.array .int)) (t' := .int) (by decide) (by decide)))).other W_14 (Or.inl nad)).other W_18 (Or.inl nag)).other W_20 (Or.inl nad)) (g := (mkF mM 141 #[.val (.ref a), .val (.long key), .second, .val (.int nd), .val (.int (0 : Int32)), .val (.int (0 : Int32))] [(.ref a)])) rfl rfl (hb hby d_prog_33m4_141)
  obtain ⟨cl_22, Ar_22, qa_22, Sa_22, Na_22, Ha_22, Ga_22⟩ := id (V_18.other W_20 (Ne.symm ndg))
  have hin_22 : ¬ ((0 : Int32) < 0 ∨ cl_22.slots.size ≤ ((0 : Int32)).toNatClampNeg) := inb_of Sa_22 ⟨by decide, by decide⟩
  obtain ⟨T_22, h_22, X_22, e_22, W_22, st_22⟩ := stI X_21 hx hZ e_21 Ar_22 (j := (0 : Int32)) hin_22 (g := (mkF mM 147 #[.val (.ref a), .val (.long key), .second, .val (.int nd), .val (.int (0 : Int32)), .val (.int (0 : Int32))] [(.int nd), (.int (0 : Int32)), (.ref g)])) rfl rfl (hb hby d_prog_33m4_147)
  have V_22 : Arv Z h_22 g kg .int (16 : Int32) [(.int nd), (.int y1), (.int y0), (.int y3)] (.int (0 : Int32)) := Arv.set Ar_22 qa_22 Sa_22 Na_22 Ha_22 Ga_22 rfl W_22 0 rfl (Nat.le_of_ble_eq_true rfl)
  have Z_22 : n0 ≤ h_22.size := (Nat.le_trans Z_20 (Keep.of_wr W_22).1)
  have K_22 : Keep h0 h_22 [a, d, g] := K_20.wr W_22 (Or.inl (List.mem_of_getElem? (i := 2) rfl))
  have N_22 := Fr.snoc X_22 N_20 g_g
  obtain ⟨fs, hr, hrun, hended, hW, hsame⟩ := X_22.leave (v := none) (fun _ => rfl)
  refine ⟨_, _, pre0 _ ?_, hrun, hended, _, _, rfl, ?_, ⟨_, rfl⟩, hW, hsame.mono (by decide) (by decide)⟩
  · show oS pP eE below s₁ (mkF mM 0 #[.val (.ref a), .val (.long key), .second, .val (.int nd), .unset, .unset] []) _
    refine XS.aloadN X0.here hx rfl (hb hby d_prog_33m4_0) rfl rfl ?_
    show oS pP eE below s₁ (mkF mM 1 #[.val (.ref a), .val (.long key), .second, .val (.int nd), .unset, .unset] [(.ref a)]) _
    refine st_1 _ ?_
    show oS pP eE below T_1 (mkF mM 4 #[.val (.ref a), .val (.long key), .second, .val (.int nd), .unset, .unset] [(.int (2 : Int32))]) _
    refine XS.aloadN X_1.here hx rfl (hb hby d_prog_33m4_4) rfl rfl ?_
    show oS pP eE below T_1 (mkF mM 5 #[.val (.ref a), .val (.long key), .second, .val (.int nd), .unset, .unset] [(.ref a), (.int (2 : Int32))]) _
    refine st_2 _ ?_
    show oS pP eE below T_2 (mkF mM 8 #[.val (.ref a), .val (.long key), .second, .val (.int nd), .unset, .unset] [(.ref d), (.int (2 : Int32))]) _
    refine X_2.arraylength hx (by rw [e_2]; exact Ar_3.1) (State.isArrayOf_alike hZ.alike Ar_3.2.1) (g := (mkF mM 8 #[.val (.ref a), .val (.long key), .second, .val (.int nd), .unset, .unset] [(.ref d), (.int (2 : Int32))])) rfl rfl (hb hby d_prog_33m4_8) _ ?_
    rw [len_of Sa_3 Na_3]
    refine XS.icmpYes X_2.here hx rfl (pc0 := 9) (pc' := 46) rfl (hb hby d_prog_33m4_9) rfl (by decide) (by decide) (by decide) ?_
    refine XS.aloadN X_2.here hx rfl (hb hby d_prog_33m4_46) rfl rfl ?_
    refine XS.dup X_2.here hx rfl (hb hby d_prog_33m4_47) rfl rfl ?_
    show oS pP eE below T_2 (mkF mM 48 #[.val (.ref a), .val (.long key), .second, .val (.int nd), .unset, .unset] [(.ref a), (.ref a)]) _
    refine st_4 _ ?_
    show oS pP eE below T_4 (mkF mM 51 #[.val (.ref a), .val (.long key), .second, .val (.int nd), .unset, .unset] [(.int (2 : Int32)), (.ref a)]) _
    refine XT.dupX1 X_4.here hx rfl (hb hby d_prog_33m4_51) rfl rfl rfl ?_
    refine XS.iconst X_4.here hx rfl (hb hby d_prog_33m4_52) ?_
    show oS pP eE below T_4 (mkF mM 53 #[.val (.ref a), .val (.long key), .second, .val (.int nd), .unset, .unset] [(.int (1 : Int32)), (.int (2 : Int32)), (.ref a), (.int (2 : Int32))]) _
    refine XS.iadd X_4.here hx rfl (hb hby d_prog_33m4_53) rfl ?_
    show oS pP eE below T_4 (mkF mM 54 #[.val (.ref a), .val (.long key), .second, .val (.int nd), .unset, .unset] [(.int ((2 : Int32) + (1 : Int32))), (.ref a), (.int (2 : Int32))]) _
    rw [(by decide : ((2 : Int32) + (1 : Int32)) = (3 : Int32))]
    show oS pP eE below T_4 (mkF mM 54 #[.val (.ref a), .val (.long key), .second, .val (.int nd), .unset, .unset] [(.int (3 : Int32)), (.ref a), (.int (2 : Int32))]) _
    refine st_5 _ ?_
    show oS pP eE below T_5 (mkF mM 57 #[.val (.ref a), .val (.long key), .second, .val (.int nd), .unset, .unset] [(.int (2 : Int32))]) _
    refine XS.istore X_5.here hx rfl (hb hby d_prog_33m4_57) rfl (l' := #[.val (.ref a), .val (.long key), .second, .val (.int nd), .val (.int (2 : Int32)), .unset]) rfl ?_
    refine XS.iload X_5.here hx rfl (hb hby d_prog_33m4_59) rfl ?_
    refine XS.ifNo X_5.here hx rfl (hb hby d_prog_33m4_61) rfl (by decide) ?_
    refine XS.iload X_5.here hx rfl (hb hby d_prog_33m4_64) rfl ?_
    refine XS.iconst X_5.here hx rfl (hb hby d_prog_33m4_66) ?_
    show oS pP eE below T_5 (mkF mM 67 #[.val (.ref a), .val (.long key), .second, .val (.int nd), .val (.int (2 : Int32)), .unset] [(.int (1 : Int32)), (.int (2 : Int32))]) _
    refine XS.isub X_5.here hx rfl (hb hby d_prog_33m4_67) rfl ?_
    show oS pP eE below T_5 (mkF mM 68 #[.val (.ref a), .val (.long key), .second, .val (.int nd), .val (.int (2 : Int32)), .unset] [(.int ((2 : Int32) - (1 : Int32)))]) _
    rw [(by decide : ((2 : Int32) - (1 : Int32)) = (1 : Int32))]
    refine XS.iconst X_5.here hx rfl (hb hby d_prog_33m4_68) ?_
    show oS pP eE below T_5 (mkF mM 69 #[.val (.ref a), .val (.long key), .second, .val (.int nd), .val (.int (2 : Int32)), .unset] [(.int (2 : Int32)), (.int (1 : Int32))]) _
    refine XS.idiv X_5.here hx rfl (hb hby d_prog_33m4_69) rfl (by decide) ?_
    show oS pP eE below T_5 (mkF mM 70 #[.val (.ref a), .val (.long key), .second, .val (.int nd), .val (.int (2 : Int32)), .unset] [(.int ((1 : Int32) / (2 : Int32)))]) _
    rw [(by decide : ((1 : Int32) / (2 : Int32)) = (0 : Int32))]
    refine XS.istore X_5.here hx rfl (hb hby d_prog_33m4_70) rfl (l' := #[.val (.ref a), .val (.long key), .second, .val (.int nd), .val (.int (2 : Int32)), .val (.int (0 : Int32))]) rfl ?_
    refine XT.lloadN X_5.here hx rfl (hb hby d_prog_33m4_72) rfl ?_
    refine XS.iloadN X_5.here hx rfl (hb hby d_prog_33m4_73) rfl ?_
    refine XS.aloadN X_5.here hx rfl (hb hby d_prog_33m4_74) rfl rfl ?_
    show oS pP eE below T_5 (mkF mM 75 #[.val (.ref a), .val (.long key), .second, .val (.int nd), .val (.int (2 : Int32)), .val (.int (0 : Int32))] [(.ref a), (.int nd), (.long key)]) _
    refine st_6 _ ?_
    show oS pP eE below T_6 (mkF mM 78 #[.val (.ref a), .val (.long key), .second, .val (.int nd), .val (.int (2 : Int32)), .val (.int (0 : Int32))] [(.ref d), (.int nd), (.long key)]) _
    refine XS.iload X_6.here hx rfl (hb hby d_prog_33m4_78) rfl ?_
    show oS pP eE below T_6 (mkF mM 80 #[.val (.ref a), .val (.long key), .second, .val (.int nd), .val (.int (2 : Int32)), .val (.int (0 : Int32))] [(.int (0 : Int32)), (.ref d), (.int nd), (.long key)]) _
    refine X_6.laload hx (j := (0 : Int32)) (v := (.long x0)) (by rw [e_6]; exact Ar_7.1) (State.isArrayOf_alike hZ.alike Ar_7.2.1) Ar_7.2.2 hin_7 hat_7 (g := (mkF mM 80 #[.val (.ref a), .val (.long key), .second, .val (.int nd), .val (.int (2 : Int32)), .val (.int (0 : Int32))] [(.int (0 : Int32)), (.ref d), (.int nd), (.long key)])) rfl rfl (hb hby d_prog_33m4_80) _ ?_
    refine XS.aloadN X_6.here hx rfl (hb hby d_prog_33m4_81) rfl rfl ?_
    show oS pP eE below T_6 (mkF mM 82 #[.val (.ref a), .val (.long key), .second, .val (.int nd), .val (.int (2 : Int32)), .val (.int (0 : Int32))] [(.ref a), (.long x0), (.int nd), (.long key)]) _
    refine st_8 _ ?_
    show oS pP eE below T_8 (mkF mM 85 #[.val (.ref a), .val (.long key), .second, .val (.int nd), .val (.int (2 : Int32)), .val (.int (0 : Int32))] [(.ref g), (.long x0), (.int nd), (.long key)]) _
    refine XS.iload X_8.here hx rfl (hb hby d_prog_33m4_85) rfl ?_
    show oS pP eE below T_8 (mkF mM 87 #[.val (.ref a), .val (.long key), .second, .val (.int nd), .val (.int (2 : Int32)), .val (.int (0 : Int32))] [(.int (0 : Int32)), (.ref g), (.long x0), (.int nd), (.long key)]) _
    refine X_8.iaload hx (j := (0 : Int32)) (v := (.int y0)) (by rw [e_8]; exact Ar_9.1) (State.isArrayOf_alike hZ.alike Ar_9.2.1) Ar_9.2.2 hin_9 hat_9 (g := (mkF mM 87 #[.val (.ref a), .val (.long key), .second, .val (.int nd), .val (.int (2 : Int32)), .val (.int (0 : Int32))] [(.int (0 : Int32)), (.ref g), (.long x0), (.int nd), (.long key)])) rfl rfl (hb hby d_prog_33m4_87) _ ?_
    show oS pP eE below T_8 (mkF mM 88 #[.val (.ref a), .val (.long key), .second, .val (.int nd), .val (.int (2 : Int32)), .val (.int (0 : Int32))] [(.int y0), (.long x0), (.int nd), (.long key)]) _
    refine st_10 _ ?_
    show oS pP eE below T_10 (mkF mM 91 #[.val (.ref a), .val (.long key), .second, .val (.int nd), .val (.int (2 : Int32)), .val (.int (0 : Int32))] [(.int (1 : Int32))]) _
    refine XS.ifYes X_10.here hx rfl (pc0 := 91) (pc' := 97) rfl (hb hby d_prog_33m4_91) rfl (by decide) (by decide) (by decide) ?_
    refine XS.aloadN X_10.here hx rfl (hb hby d_prog_33m4_97) rfl rfl ?_
    show oS pP eE below T_10 (mkF mM 98 #[.val (.ref a), .val (.long key), .second, .val (.int nd), .val (.int (2 : Int32)), .val (.int (0 : Int32))] [(.ref a)]) _
    refine st_11 _ ?_
    show oS pP eE below T_11 (mkF mM 101 #[.val (.ref a), .val (.long key), .second, .val (.int nd), .val (.int (2 : Int32)), .val (.int (0 : Int32))] [(.ref d)]) _
    refine XS.iload X_11.here hx rfl (hb hby d_prog_33m4_101) rfl ?_
    refine XS.aloadN X_11.here hx rfl (hb hby d_prog_33m4_103) rfl rfl ?_
    show oS pP eE below T_11 (mkF mM 104 #[.val (.ref a), .val (.long key), .second, .val (.int nd), .val (.int (2 : Int32)), .val (.int (0 : Int32))] [(.ref a), (.int (2 : Int32)), (.ref d)]) _
    refine st_12 _ ?_
    show oS pP eE below T_12 (mkF mM 107 #[.val (.ref a), .val (.long key), .second, .val (.int nd), .val (.int (2 : Int32)), .val (.int (0 : Int32))] [(.ref d), (.int (2 : Int32)), (.ref d)]) _
    refine XS.iload X_12.here hx rfl (hb hby d_prog_33m4_107) rfl ?_
    show oS pP eE below T_12 (mkF mM 109 #[.val (.ref a), .val (.long key), .second, .val (.int nd), .val (.int (2 : Int32)), .val (.int (0 : Int32))] [(.int (0 : Int32)), (.ref d), (.int (2 : Int32)), (.ref d)]) _
    refine X_12.laload hx (j := (0 : Int32)) (v := (.long x0)) (by rw [e_12]; exact Ar_13.1) (State.isArrayOf_alike hZ.alike Ar_13.2.1) Ar_13.2.2 hin_13 hat_13 (g := (mkF mM 109 #[.val (.ref a), .val (.long key), .second, .val (.int nd), .val (.int (2 : Int32)), .val (.int (0 : Int32))] [(.int (0 : Int32)), (.ref d), (.int (2 : Int32)), (.ref d)])) rfl rfl (hb hby d_prog_33m4_109) _ ?_
    show oS pP eE below T_12 (mkF mM 110 #[.val (.ref a), .val (.long key), .second, .val (.int nd), .val (.int (2 : Int32)), .val (.int (0 : Int32))] [(.long x0), (.int (2 : Int32)), (.ref d)]) _
    refine st_14 _ ?_
    show oS pP eE below T_14 (mkF mM 111 #[.val (.ref a), .val (.long key), .second, .val (.int nd), .val (.int (2 : Int32)), .val (.int (0 : Int32))] []) _
    refine XS.aloadN X_14.here hx rfl (hb hby d_prog_33m4_111) rfl rfl ?_
    show oS pP eE below T_14 (mkF mM 112 #[.val (.ref a), .val (.long key), .second, .val (.int nd), .val (.int (2 : Int32)), .val (.int (0 : Int32))] [(.ref a)]) _
    refine st_15 _ ?_
    show oS pP eE below T_15 (mkF mM 115 #[.val (.ref a), .val (.long key), .second, .val (.int nd), .val (.int (2 : Int32)), .val (.int (0 : Int32))] [(.ref g)]) _
    refine XS.iload X_15.here hx rfl (hb hby d_prog_33m4_115) rfl ?_
    refine XS.aloadN X_15.here hx rfl (hb hby d_prog_33m4_117) rfl rfl ?_
    show oS pP eE below T_15 (mkF mM 118 #[.val (.ref a), .val (.long key), .second, .val (.int nd), .val (.int (2 : Int32)), .val (.int (0 : Int32))] [(.ref a), (.int (2 : Int32)), (.ref g)]) _
    refine st_16 _ ?_
    show oS pP eE below T_16 (mkF mM 121 #[.val (.ref a), .val (.long key), .second, .val (.int nd), .val (.int (2 : Int32)), .val (.int (0 : Int32))] [(.ref g), (.int (2 : Int32)), (.ref g)]) _
    refine XS.iload X_16.here hx rfl (hb hby d_prog_33m4_121) rfl ?_
    show oS pP eE below T_16 (mkF mM 123 #[.val (.ref a), .val (.long key), .second, .val (.int nd), .val (.int (2 : Int32)), .val (.int (0 : Int32))] [(.int (0 : Int32)), (.ref g), (.int (2 : Int32)), (.ref g)]) _
    refine X_16.iaload hx (j := (0 : Int32)) (v := (.int y0)) (by rw [e_16]; exact Ar_17.1) (State.isArrayOf_alike hZ.alike Ar_17.2.1) Ar_17.2.2 hin_17 hat_17 (g := (mkF mM 123 #[.val (.ref a), .val (.long key), .second, .val (.int nd), .val (.int (2 : Int32)), .val (.int (0 : Int32))] [(.int (0 : Int32)), (.ref g), (.int (2 : Int32)), (.ref g)])) rfl rfl (hb hby d_prog_33m4_123) _ ?_
    show oS pP eE below T_16 (mkF mM 124 #[.val (.ref a), .val (.long key), .second, .val (.int nd), .val (.int (2 : Int32)), .val (.int (0 : Int32))] [(.int y0), (.int (2 : Int32)), (.ref g)]) _
    refine st_18 _ ?_
    show oS pP eE below T_18 (mkF mM 125 #[.val (.ref a), .val (.long key), .second, .val (.int nd), .val (.int (2 : Int32)), .val (.int (0 : Int32))] []) _
    refine XS.iload X_18.here hx rfl (hb hby d_prog_33m4_125) rfl ?_
    refine XS.istore X_18.here hx rfl (hb hby d_prog_33m4_127) rfl (l' := #[.val (.ref a), .val (.long key), .second, .val (.int nd), .val (.int (0 : Int32)), .val (.int (0 : Int32))]) rfl ?_
    refine XS.goto X_18.here hx rfl (pc0 := 129) (pc' := 59) rfl (hb hby d_prog_33m4_129) (by decide) (by decide) ?_
    refine XS.iload X_18.here hx rfl (hb hby d_prog_33m4_59) rfl ?_
    refine XS.ifYes X_18.here hx rfl (pc0 := 61) (pc' := 132) rfl (hb hby d_prog_33m4_61) rfl (by decide) (by decide) (by decide) ?_
    refine XS.aloadN X_18.here hx rfl (hb hby d_prog_33m4_132) rfl rfl ?_
    show oS pP eE below T_18 (mkF mM 133 #[.val (.ref a), .val (.long key), .second, .val (.int nd), .val (.int (0 : Int32)), .val (.int (0 : Int32))] [(.ref a)]) _
    refine st_19 _ ?_
    show oS pP eE below T_19 (mkF mM 136 #[.val (.ref a), .val (.long key), .second, .val (.int nd), .val (.int (0 : Int32)), .val (.int (0 : Int32))] [(.ref d)]) _
    refine XS.iload X_19.here hx rfl (hb hby d_prog_33m4_136) rfl ?_
    refine XT.lloadN X_19.here hx rfl (hb hby d_prog_33m4_138) rfl ?_
    show oS pP eE below T_19 (mkF mM 139 #[.val (.ref a), .val (.long key), .second, .val (.int nd), .val (.int (0 : Int32)), .val (.int (0 : Int32))] [(.long key), (.int (0 : Int32)), (.ref d)]) _
    refine st_20 _ ?_
    show oS pP eE below T_20 (mkF mM 140 #[.val (.ref a), .val (.long key), .second, .val (.int nd), .val (.int (0 : Int32)), .val (.int (0 : Int32))] []) _
    refine XS.aloadN X_20.here hx rfl (hb hby d_prog_33m4_140) rfl rfl ?_
    show oS pP eE below T_20 (mkF mM 141 #[.val (.ref a), .val (.long key), .second, .val (.int nd), .val (.int (0 : Int32)), .val (.int (0 : Int32))] [(.ref a)]) _
    refine st_21 _ ?_
    show oS pP eE below T_21 (mkF mM 144 #[.val (.ref a), .val (.long key), .second, .val (.int nd), .val (.int (0 : Int32)), .val (.int (0 : Int32))] [(.ref g)]) _
    refine XS.iload X_21.here hx rfl (hb hby d_prog_33m4_144) rfl ?_
    refine XS.iloadN X_21.here hx rfl (hb hby d_prog_33m4_146) rfl ?_
    show oS pP eE below T_21 (mkF mM 147 #[.val (.ref a), .val (.long key), .second, .val (.int nd), .val (.int (0 : Int32)), .val (.int (0 : Int32))] [(.int nd), (.int (0 : Int32)), (.ref g)]) _
    refine st_22 _ ?_
    show oS pP eE below T_22 (mkF mM 148 #[.val (.ref a), .val (.long key), .second, .val (.int nd), .val (.int (0 : Int32)), .val (.int (0 : Int32))] []) _
    exact X_22.returnOut hx Bd.returns (hb hby d_prog_33m4_148) hr
  · show Q_add2 Z a d g kd kg key nd x0 x1 x2 x3 y0 y1 y2 y3 h0 n0 _ T_22.heap _
    rw [e_22]
    exact ⟨key, x1, x0, x3, nd, y1, y0, y3, rfl, N_22, K_22, ((((Fw_5.other W_14 (Or.inl nad)).other W_18 (Or.inl nag)).other W_20 (Or.inl nad)).other W_22 (Or.inl nag)), (((((F_keys_a.other W_5 (Or.inr (slot_ne (Or.inl (ow hw 12 rfl)) (Or.inl (ow hw 22 rfl)) (by decide) (t := (.array .long)) (t' := .int) (by decide) (by decide)))).other W_14 (Or.inl nad)).other W_18 (Or.inl nag)).other W_20 (Or.inl nad)).other W_22 (Or.inl nag)), (((((F_nodes_a.other W_5 (Or.inr (slot_ne (Or.inl (ow hw 15 rfl)) (Or.inl (ow hw 22 rfl)) (by decide) (t := (.array .int)) (t' := .int) (by decide) (by decide)))).other W_14 (Or.inl nad)).other W_18 (Or.inl nag)).other W_20 (Or.inl nad)).other W_22 (Or.inl nag)), (((((E_a.wr W_5).wr W_14).wr W_18).wr W_20).wr W_22), (V_20.other W_22 ndg), V_22⟩
set_option maxRecDepth 65536 in
set_option maxHeartbeats 40000000 in
theorem rm_add2 (l : Launch) (Z : State) (a0 : Array Value) (hw : ∀ d ∈ tables_1, d.before a0 Z = true) (ws : List Jvm.Cond) (a : Addr) (d : Addr) (g : Addr) (kd : ClassId) (kg : ClassId) (key : Int64) (nd : Int32) (x0 : Int64) (x1 : Int64) (x2 : Int64) (x3 : Int64) (y0 : Int32) (y1 : Int32) (y2 : Int32) (y3 : Int32) (h0 : Heap) (n0 : Nat) (Z0 : n0 ≤ h0.size) (F_size_a : Fld Z h0 a "com/example/greenweft/greenweft/steiner/NodeHeap" "size" "I" (.int (2 : Int32))) (F_keys_a : Fld Z h0 a "com/example/greenweft/greenweft/steiner/NodeHeap" "keys" "[J" (.ref d)) (F_nodes_a : Fld Z h0 a "com/example/greenweft/greenweft/steiner/NodeHeap" "nodes" "[I" (.ref g)) (E_a : Exa Z h0 a "com/example/greenweft/greenweft/steiner/NodeHeap") (g_a : n0 ≤ a) (g_d : n0 ≤ d) (g_g : n0 ≤ g) (V_d : Arv Z h0 d kd .long (16 : Int32) [(.long x0), (.long x1), (.long x2), (.long x3)] (.long (0 : Int64))) (V_g : Arv Z h0 g kg .int (16 : Int32) [(.int y0), (.int y1), (.int y2), (.int y3)] (.int (0 : Int32))) (ndg : d ≠ g) (nad : a ≠ d) (nag : a ≠ g) :
    MetFree l (⟨"com/example/greenweft/greenweft/steiner/NodeHeap", "add", "(JI)V"⟩ : MethodName) (head1 (Jvm.Cond.code (⟨"com/example/greenweft/greenweft/steiner/NodeHeap", "add", "(JI)V"⟩ : MethodName) prog_33_method_4_code 6 none :: ws) ({ frames := 1, cells := 0, slots := 0, locals := 17 } : Room)) (fun aa_ U_ => aa_ = #[(.ref a), (.long key), (.int nd)] ∧ Z.Warmed39 U_.vm ∧ U_.heap = h0) (fun _ _ _ _ _ => True) (fun _ U_ o_ U'_ => ∃ v_ L_, o_ = .returned v_ ∧ Q_add2 Z a d g kd kg key nd x0 x1 x2 x3 y0 y1 y2 y3 h0 n0 v_ U'_.heap L_ ∧ FrameEnd U_ o_ U'_ L_ ({ frames := 1, cells := 0, slots := 0, locals := 17 } : Room).cells ({ frames := 1, cells := 0, slots := 0, locals := 17 } : Room).slots) := by
  by_cases hr0 : own_pre key nd x0 y0
  · exact rm_add2y_ l Z a0 hw ws a d g kd kg key nd x0 x1 x2 x3 y0 y1 y2 y3 h0 n0 Z0 F_size_a F_keys_a F_nodes_a E_a g_a g_d g_g V_d V_g ndg nad nag hr0
  · exact rm_add2n_ l Z a0 hw ws a d g kd kg key nd x0 x1 x2 x3 y0 y1 y2 y3 h0 n0 Z0 F_size_a F_keys_a F_nodes_a E_a g_a g_d g_g V_d V_g ndg nad nag hr0
def Q_add3 (Z : State) (a : Addr) (d : Addr) (g : Addr) (kd : ClassId) (kg : ClassId) (key : Int64) (nd : Int32) (x0 : Int64) (x1 : Int64) (x2 : Int64) (x3 : Int64) (y0 : Int32) (y1 : Int32) (y2 : Int32) (y3 : Int32) (h0 : Heap) (n0 : Nat) (v_ : Option Value) (h_ : Heap) (L_ : List Loc) : Prop := ∃ u0 : Int64, ∃ u1 : Int64, ∃ u2 : Int64, ∃ u3 : Int64, ∃ v0 : Int32, ∃ v1 : Int32, ∃ v2 : Int32, ∃ v3 : Int32, v_ = none ∧ Fr n0 L_ ∧ Keep h0 h_ [a, d, g] ∧ Fld Z h_ a "com/example/greenweft/greenweft/steiner/NodeHeap" "size" "I" (.int (4 : Int32)) ∧ Fld Z h_ a "com/example/greenweft/greenweft/steiner/NodeHeap" "keys" "[J" (.ref d) ∧ Fld Z h_ a "com/example/greenweft/greenweft/steiner/NodeHeap" "nodes" "[I" (.ref g) ∧ Exa Z h_ a "com/example/greenweft/greenweft/steiner/NodeHeap" ∧ Arv Z h_ d kd .long (16 : Int32) [(.long u0), (.long u1), (.long u2), (.long u3)] (.long (0 : Int64)) ∧ Arv Z h_ g kg .int (16 : Int32) [(.int v0), (.int v1), (.int v2), (.int v3)] (.int (0 : Int32))
theorem ef_add3n_ (mM : MethodId) (x0 : Addr) (x1 : Int64) (x2 : Int32) : entryFrame mM #[(.ref x0), (.long x1), (.int x2)] 6 = mkF mM 0 #[.val (.ref x0), .val (.long x1), .second, .val (.int x2), .unset, .unset] [] := by first | (simp [entryFrame, mkF, argsToLocals, Value.category]; done) | rfl
set_option maxRecDepth 65536 in
set_option maxHeartbeats 40000000 in
theorem rm_add3n_ (l : Launch) (Z : State) (a0 : Array Value) (hw : ∀ d ∈ tables_1, d.before a0 Z = true) (ws : List Jvm.Cond) (a : Addr) (d : Addr) (g : Addr) (kd : ClassId) (kg : ClassId) (key : Int64) (nd : Int32) (x0 : Int64) (x1 : Int64) (x2 : Int64) (x3 : Int64) (y0 : Int32) (y1 : Int32) (y2 : Int32) (y3 : Int32) (h0 : Heap) (n0 : Nat) (Z0 : n0 ≤ h0.size) (F_size_a : Fld Z h0 a "com/example/greenweft/greenweft/steiner/NodeHeap" "size" "I" (.int (3 : Int32))) (F_keys_a : Fld Z h0 a "com/example/greenweft/greenweft/steiner/NodeHeap" "keys" "[J" (.ref d)) (F_nodes_a : Fld Z h0 a "com/example/greenweft/greenweft/steiner/NodeHeap" "nodes" "[I" (.ref g)) (E_a : Exa Z h0 a "com/example/greenweft/greenweft/steiner/NodeHeap") (g_a : n0 ≤ a) (g_d : n0 ≤ d) (g_g : n0 ≤ g) (V_d : Arv Z h0 d kd .long (16 : Int32) [(.long x0), (.long x1), (.long x2), (.long x3)] (.long (0 : Int64))) (V_g : Arv Z h0 g kg .int (16 : Int32) [(.int y0), (.int y1), (.int y2), (.int y3)] (.int (0 : Int32))) (ndg : d ≠ g) (nad : a ≠ d) (nag : a ≠ g) (hr0 : ¬ own_pre key nd x1 y1) :
    MetFree l (⟨"com/example/greenweft/greenweft/steiner/NodeHeap", "add", "(JI)V"⟩ : MethodName) (head1 (Jvm.Cond.code (⟨"com/example/greenweft/greenweft/steiner/NodeHeap", "add", "(JI)V"⟩ : MethodName) prog_33_method_4_code 6 none :: ws) ({ frames := 1, cells := 0, slots := 0, locals := 17 } : Room)) (fun aa_ U_ => aa_ = #[(.ref a), (.long key), (.int nd)] ∧ Z.Warmed39 U_.vm ∧ U_.heap = h0) (fun _ _ _ _ _ => True) (fun _ U_ o_ U'_ => ∃ v_ L_, o_ = .returned v_ ∧ Q_add3 Z a d g kd kg key nd x0 x1 x2 x3 y0 y1 y2 y3 h0 n0 v_ U'_.heap L_ ∧ FrameEnd U_ o_ U'_ L_ ({ frames := 1, cells := 0, slots := 0, locals := 17 } : Room).cells ({ frames := 1, cells := 0, slots := 0, locals := 17 } : Room).slots) := by
  refine MetFree.of_bodySF (plainFor_of_name pn_0) hisR ?_
  intro pP eE sS mM argsA below meth cC s₁ Bd hml0 hP hK
  obtain ⟨rfl, hZ, hh⟩ := hP
  have hx := Bd.exec
  have hby := Bd.bytes
  have hml : cC.maxLocals = 6 := hml0
  have hown : sS.vm.findClass "com/example/greenweft/greenweft/steiner/NodeHeap" = some mM.cls := findClass_of_methodNamed Bd.named
  have hnm := (name_of_methodNamed Bd.named Bd.method).1
  have X0 : Stand pP l eE ({ frames := 1, cells := 0, slots := 0, locals := 17 } : Room) sS mM #[(.ref a), (.long key), (.int nd)] below meth cC s₁ [] 0 0 := Stand.of_body Bd
  have e0 : s₁.heap = h0 := by rw [← hh, Bd.state]; rfl
  have N0 := Fr.nil n0
  have pre0 : ∀ t_, Steps pP.tables eE below (s₁.setTop (mkF mM 0 #[.val (.ref a), .val (.long key), .second, .val (.int nd), .unset, .unset] [])) t_ → Steps pP.tables eE below (s₁.setTop (entryFrame mM #[(.ref a), (.long key), (.int nd)] 6)) t_ := fun t_ k_ => castTop (ef_add3n_ mM a key nd) k_
  obtain ⟨T_1, X_1, e_1, st_1⟩ := getF X0 hx hZ hown (host := "") (Or.inl (ow hw 21 rfl)) Via.refl e0 F_size_a (g := (mkF mM 1 #[.val (.ref a), .val (.long key), .second, .val (.int nd), .unset, .unset] [(.ref a)])) rfl rfl (hb hby d_prog_33m4_1)
  obtain ⟨T_2, X_2, e_2, st_2⟩ := getF X_1 hx hZ hown (host := "") (Or.inl (ow hw 11 rfl)) Via.refl e_1 F_keys_a (g := (mkF mM 5 #[.val (.ref a), .val (.long key), .second, .val (.int nd), .unset, .unset] [(.ref a), (.int (3 : Int32))])) rfl rfl (hb hby d_prog_33m4_5)
  obtain ⟨cl_3, Ar_3, -, Sa_3, Na_3, -, -⟩ := id V_d
  obtain ⟨T_4, X_4, e_4, st_4⟩ := getF X_2 hx hZ hown (host := "") (Or.inl (ow hw 21 rfl)) Via.refl e_2 F_size_a (g := (mkF mM 48 #[.val (.ref a), .val (.long key), .second, .val (.int nd), .unset, .unset] [(.ref a), (.ref a)])) rfl rfl (hb hby d_prog_33m4_48)
  obtain ⟨T_5, h_5, X_5, e_5, W_5, st_5⟩ := putF X_4 hx hZ hown (host := "") (Or.inl (ow hw 21 rfl)) Via.refl e_4 F_size_a E_a (Or.inl (ow hw 22 rfl)) (ow hw 2 rfl) (ty := .int) (by decide) rfl rfl (g := (mkF mM 54 #[.val (.ref a), .val (.long key), .second, .val (.int nd), .unset, .unset] [(.int (4 : Int32)), (.ref a), (.int (3 : Int32))])) rfl rfl (hb hby d_prog_33m4_54)
  have Fw_5 := F_size_a.same W_5
  have Z_5 : n0 ≤ h_5.size := (Nat.le_trans Z0 (Keep.of_wr W_5).1)
  have K_5 : Keep h0 h_5 [a, d, g] := (Keep.refl h0 [a, d, g]).wr W_5 (Or.inl (List.mem_of_getElem? (i := 0) rfl))
  have N_5 := Fr.snoc X_5 N0 g_a
  obtain ⟨T_6, X_6, e_6, st_6⟩ := getF X_5 hx hZ hown (host := "") (Or.inl (ow hw 11 rfl)) Via.refl e_5 (F_keys_a.other W_5 (Or.inr (slot_ne (Or.inl (ow hw 12 rfl)) (Or.inl (ow hw 22 rfl)) (by decide) (t := (.array .long)) (t' := .int) (by decide) (by decide)))) (g := (mkF mM 75 #[.val (.ref a), .val (.long key), .second, .val (.int nd), .val (.int (3 : Int32)), .val (.int (1 : Int32))] [(.ref a), (.int nd), (.long key)])) rfl rfl (hb hby d_prog_33m4_75)
  obtain ⟨cl_7, Ar_7, qa_7, Sa_7, Na_7, Ha_7, Ga_7⟩ := id (V_d.other W_5 (Ne.symm nad))
  have hin_7 : ¬ ((1 : Int32) < 0 ∨ cl_7.slots.size ≤ ((1 : Int32)).toNatClampNeg) := inb_of Sa_7 ⟨by decide, by decide⟩
  have hat_7 : cl_7.slots[((1 : Int32)).toNatClampNeg]? = some (.long x1) := Has.at Ha_7 hin_7 rfl
  obtain ⟨T_8, X_8, e_8, st_8⟩ := getF X_6 hx hZ hown (host := "") (Or.inl (ow hw 14 rfl)) Via.refl e_6 (F_nodes_a.other W_5 (Or.inr (slot_ne (Or.inl (ow hw 15 rfl)) (Or.inl (ow hw 22 rfl)) (by decide) (t := (.array .int)) (t' := .int) (by decide) (by decide)))) (g := (mkF mM 82 #[.val (.ref a), .val (.long key), .second, .val (.int nd), .val (.int (3 : Int32)), .val (.int (1 : Int32))] [(.ref a), (.long x1), (.int nd), (.long key)])) rfl rfl (hb hby d_prog_33m4_82)
  obtain ⟨cl_9, Ar_9, qa_9, Sa_9, Na_9, Ha_9, Ga_9⟩ := id (V_g.other W_5 (Ne.symm nag))
  have hin_9 : ¬ ((1 : Int32) < 0 ∨ cl_9.slots.size ≤ ((1 : Int32)).toNatClampNeg) := inb_of Sa_9 ⟨by decide, by decide⟩
  have hat_9 : cl_9.slots[((1 : Int32)).toNatClampNeg]? = some (.int y1) := Has.at Ha_9 hin_9 rfl
  obtain ⟨_, _, ⟨T_10, L_10, k_10, n_10⟩, -, X_10, ⟨Lc_10, hQ_10, l_10, y_10, z_10⟩, st_10⟩ := Jvm.LawKit.callS X_8 hx (y := MN0) hown (mvT hZ (ow hw 33 rfl)) (mvT hZ (ow hw 34 rfl)) (mvT hZ (ow hw 3 rfl)) (mvT hZ (ow hw 35 rfl)) (by decide) (backOf (W := 0) (rm_prc0 l Z a0 hw [] key nd x1 y1 h_5 n0 Z_5 hr0) hZ (ow hw 35 rfl) (ow hw 3 rfl) (by decide) (by decide)) (g := (mkF mM 88 #[.val (.ref a), .val (.long key), .second, .val (.int nd), .val (.int (3 : Int32)), .val (.int (1 : Int32))] [(.int y1), (.long x1), (.int nd), (.long key)])) rfl (by rw [hml]; rfl) (argsL := [(.long key), (.int nd), (.long x1), (.int y1)]) (rest := []) (lenOf pd_0 rfl) rfl (by show 2 * 0 + _ ≤ _; exact Nat.le_of_eq rfl) (hb hby d_prog_33m4_88) (fun _ _ => ⟨rfl, e_8, (by decide : 0 + 0 ≤ _), (by decide : 0 + 0 ≤ _)⟩)
  dsimp only [Pt.U, Pt.locs, Pt.cells, Pt.slots] at X_10 l_10 y_10 z_10 st_10 hQ_10
  subst l_10 y_10 z_10
  obtain ⟨rfl, N_10q, eh_10⟩ := hQ_10
  have N_10 := Fr.app N_5 N_10q
  obtain ⟨T_11, X_11, e_11, st_11⟩ := getF X_10 hx hZ hown (host := "") (Or.inl (ow hw 11 rfl)) Via.refl eh_10 (F_keys_a.other W_5 (Or.inr (slot_ne (Or.inl (ow hw 12 rfl)) (Or.inl (ow hw 22 rfl)) (by decide) (t := (.array .long)) (t' := .int) (by decide) (by decide)))) (g := (mkF mM 133 #[.val (.ref a), .val (.long key), .second, .val (.int nd), .val (.int (3 : Int32)), .val (.int (1 : Int32))] [(.ref a)])) rfl rfl (hb hby d_prog_33m4_133)
  obtain ⟨cl_12, Ar_12, qa_12, Sa_12, Na_12, Ha_12, Ga_12⟩ := id (V_d.other W_5 (Ne.symm nad))
  have hin_12 : ¬ ((3 : Int32) < 0 ∨ cl_12.slots.size ≤ ((3 : Int32)).toNatClampNeg) := inb_of Sa_12 ⟨by decide, by decide⟩
  obtain ⟨T_12, h_12, X_12, e_12, W_12, st_12⟩ := stJ X_11 hx hZ e_11 Ar_12 (j := (3 : Int32)) hin_12 (g := (mkF mM 139 #[.val (.ref a), .val (.long key), .second, .val (.int nd), .val (.int (3 : Int32)), .val (.int (1 : Int32))] [(.long key), (.int (3 : Int32)), (.ref d)])) rfl rfl (hb hby d_prog_33m4_139)
  have V_12 : Arv Z h_12 d kd .long (16 : Int32) [(.long x0), (.long x1), (.long x2), (.long key)] (.long (0 : Int64)) := Arv.set Ar_12 qa_12 Sa_12 Na_12 Ha_12 Ga_12 rfl W_12 3 rfl (Nat.le_of_ble_eq_true rfl)
  have Z_12 : n0 ≤ h_12.size := (Nat.le_trans Z_5 (Keep.of_wr W_12).1)
  have K_12 : Keep h0 h_12 [a, d, g] := K_5.wr W_12 (Or.inl (List.mem_of_getElem? (i := 1) rfl))
  have N_12 := Fr.snoc X_12 N_10 g_d
  obtain ⟨T_13, X_13, e_13, st_13⟩ := getF X_12 hx hZ hown (host := "") (Or.inl (ow hw 14 rfl)) Via.refl e_12 ((F_nodes_a.other W_5 (Or.inr (slot_ne (Or.inl (ow hw 15 rfl)) (Or.inl (ow hw 22 rfl)) (by decide) (t := (.array .int)) (t' := .int) (by decide) (by decide)))).other W_12 (Or.inl nad)) (g := (mkF mM 141 #[.val (.ref a), .val (.long key), .second, .val (.int nd), .val (.int (3 : Int32)), .val (.int (1 : Int32))] [(.ref a)])) rfl rfl (hb hby d_prog_33m4_141)
  obtain ⟨cl_14, Ar_14, qa_14, Sa_14, Na_14, Ha_14, Ga_14⟩ := id ((V_g.other W_5 (Ne.symm nag)).other W_12 (Ne.symm ndg))
  have hin_14 : ¬ ((3 : Int32) < 0 ∨ cl_14.slots.size ≤ ((3 : Int32)).toNatClampNeg) := inb_of Sa_14 ⟨by decide, by decide⟩
  obtain ⟨T_14, h_14, X_14, e_14, W_14, st_14⟩ := stI X_13 hx hZ e_13 Ar_14 (j := (3 : Int32)) hin_14 (g := (mkF mM 147 #[.val (.ref a), .val (.long key), .second, .val (.int nd), .val (.int (3 : Int32)), .val (.int (1 : Int32))] [(.int nd), (.int (3 : Int32)), (.ref g)])) rfl rfl (hb hby d_prog_33m4_147)
  have V_14 : Arv Z h_14 g kg .int (16 : Int32) [(.int y0), (.int y1), (.int y2), (.int nd)] (.int (0 : Int32)) := Arv.set Ar_14 qa_14 Sa_14 Na_14 Ha_14 Ga_14 rfl W_14 3 rfl (Nat.le_of_ble_eq_true rfl)
  have Z_14 : n0 ≤ h_14.size := (Nat.le_trans Z_12 (Keep.of_wr W_14).1)
  have K_14 : Keep h0 h_14 [a, d, g] := K_12.wr W_14 (Or.inl (List.mem_of_getElem? (i := 2) rfl))
  have N_14 := Fr.snoc X_14 N_12 g_g
  obtain ⟨fs, hr, hrun, hended, hW, hsame⟩ := X_14.leave (v := none) (fun _ => rfl)
  refine ⟨_, _, pre0 _ ?_, hrun, hended, _, _, rfl, ?_, ⟨_, rfl⟩, hW, hsame.mono (by decide) (by decide)⟩
  · show oS pP eE below s₁ (mkF mM 0 #[.val (.ref a), .val (.long key), .second, .val (.int nd), .unset, .unset] []) _
    refine XS.aloadN X0.here hx rfl (hb hby d_prog_33m4_0) rfl rfl ?_
    show oS pP eE below s₁ (mkF mM 1 #[.val (.ref a), .val (.long key), .second, .val (.int nd), .unset, .unset] [(.ref a)]) _
    refine st_1 _ ?_
    show oS pP eE below T_1 (mkF mM 4 #[.val (.ref a), .val (.long key), .second, .val (.int nd), .unset, .unset] [(.int (3 : Int32))]) _
    refine XS.aloadN X_1.here hx rfl (hb hby d_prog_33m4_4) rfl rfl ?_
    show oS pP eE below T_1 (mkF mM 5 #[.val (.ref a), .val (.long key), .second, .val (.int nd), .unset, .unset] [(.ref a), (.int (3 : Int32))]) _
    refine st_2 _ ?_
    show oS pP eE below T_2 (mkF mM 8 #[.val (.ref a), .val (.long key), .second, .val (.int nd), .unset, .unset] [(.ref d), (.int (3 : Int32))]) _
    refine X_2.arraylength hx (by rw [e_2]; exact Ar_3.1) (State.isArrayOf_alike hZ.alike Ar_3.2.1) (g := (mkF mM 8 #[.val (.ref a), .val (.long key), .second, .val (.int nd), .unset, .unset] [(.ref d), (.int (3 : Int32))])) rfl rfl (hb hby d_prog_33m4_8) _ ?_
    rw [len_of Sa_3 Na_3]
    refine XS.icmpYes X_2.here hx rfl (pc0 := 9) (pc' := 46) rfl (hb hby d_prog_33m4_9) rfl (by decide) (by decide) (by decide) ?_
    refine XS.aloadN X_2.here hx rfl (hb hby d_prog_33m4_46) rfl rfl ?_
    refine XS.dup X_2.here hx rfl (hb hby d_prog_33m4_47) rfl rfl ?_
    show oS pP eE below T_2 (mkF mM 48 #[.val (.ref a), .val (.long key), .second, .val (.int nd), .unset, .unset] [(.ref a), (.ref a)]) _
    refine st_4 _ ?_
    show oS pP eE below T_4 (mkF mM 51 #[.val (.ref a), .val (.long key), .second, .val (.int nd), .unset, .unset] [(.int (3 : Int32)), (.ref a)]) _
    refine XT.dupX1 X_4.here hx rfl (hb hby d_prog_33m4_51) rfl rfl rfl ?_
    refine XS.iconst X_4.here hx rfl (hb hby d_prog_33m4_52) ?_
    show oS pP eE below T_4 (mkF mM 53 #[.val (.ref a), .val (.long key), .second, .val (.int nd), .unset, .unset] [(.int (1 : Int32)), (.int (3 : Int32)), (.ref a), (.int (3 : Int32))]) _
    refine XS.iadd X_4.here hx rfl (hb hby d_prog_33m4_53) rfl ?_
    show oS pP eE below T_4 (mkF mM 54 #[.val (.ref a), .val (.long key), .second, .val (.int nd), .unset, .unset] [(.int ((3 : Int32) + (1 : Int32))), (.ref a), (.int (3 : Int32))]) _
    rw [(by decide : ((3 : Int32) + (1 : Int32)) = (4 : Int32))]
    show oS pP eE below T_4 (mkF mM 54 #[.val (.ref a), .val (.long key), .second, .val (.int nd), .unset, .unset] [(.int (4 : Int32)), (.ref a), (.int (3 : Int32))]) _
    refine st_5 _ ?_
    show oS pP eE below T_5 (mkF mM 57 #[.val (.ref a), .val (.long key), .second, .val (.int nd), .unset, .unset] [(.int (3 : Int32))]) _
    refine XS.istore X_5.here hx rfl (hb hby d_prog_33m4_57) rfl (l' := #[.val (.ref a), .val (.long key), .second, .val (.int nd), .val (.int (3 : Int32)), .unset]) rfl ?_
    refine XS.iload X_5.here hx rfl (hb hby d_prog_33m4_59) rfl ?_
    refine XS.ifNo X_5.here hx rfl (hb hby d_prog_33m4_61) rfl (by decide) ?_
    refine XS.iload X_5.here hx rfl (hb hby d_prog_33m4_64) rfl ?_
    refine XS.iconst X_5.here hx rfl (hb hby d_prog_33m4_66) ?_
    show oS pP eE below T_5 (mkF mM 67 #[.val (.ref a), .val (.long key), .second, .val (.int nd), .val (.int (3 : Int32)), .unset] [(.int (1 : Int32)), (.int (3 : Int32))]) _
    refine XS.isub X_5.here hx rfl (hb hby d_prog_33m4_67) rfl ?_
    show oS pP eE below T_5 (mkF mM 68 #[.val (.ref a), .val (.long key), .second, .val (.int nd), .val (.int (3 : Int32)), .unset] [(.int ((3 : Int32) - (1 : Int32)))]) _
    rw [(by decide : ((3 : Int32) - (1 : Int32)) = (2 : Int32))]
    refine XS.iconst X_5.here hx rfl (hb hby d_prog_33m4_68) ?_
    show oS pP eE below T_5 (mkF mM 69 #[.val (.ref a), .val (.long key), .second, .val (.int nd), .val (.int (3 : Int32)), .unset] [(.int (2 : Int32)), (.int (2 : Int32))]) _
    refine XS.idiv X_5.here hx rfl (hb hby d_prog_33m4_69) rfl (by decide) ?_
    show oS pP eE below T_5 (mkF mM 70 #[.val (.ref a), .val (.long key), .second, .val (.int nd), .val (.int (3 : Int32)), .unset] [(.int ((2 : Int32) / (2 : Int32)))]) _
    rw [(by decide : ((2 : Int32) / (2 : Int32)) = (1 : Int32))]
    refine XS.istore X_5.here hx rfl (hb hby d_prog_33m4_70) rfl (l' := #[.val (.ref a), .val (.long key), .second, .val (.int nd), .val (.int (3 : Int32)), .val (.int (1 : Int32))]) rfl ?_
    refine XT.lloadN X_5.here hx rfl (hb hby d_prog_33m4_72) rfl ?_
    refine XS.iloadN X_5.here hx rfl (hb hby d_prog_33m4_73) rfl ?_
    refine XS.aloadN X_5.here hx rfl (hb hby d_prog_33m4_74) rfl rfl ?_
    show oS pP eE below T_5 (mkF mM 75 #[.val (.ref a), .val (.long key), .second, .val (.int nd), .val (.int (3 : Int32)), .val (.int (1 : Int32))] [(.ref a), (.int nd), (.long key)]) _
    refine st_6 _ ?_
    show oS pP eE below T_6 (mkF mM 78 #[.val (.ref a), .val (.long key), .second, .val (.int nd), .val (.int (3 : Int32)), .val (.int (1 : Int32))] [(.ref d), (.int nd), (.long key)]) _
    refine XS.iload X_6.here hx rfl (hb hby d_prog_33m4_78) rfl ?_
    show oS pP eE below T_6 (mkF mM 80 #[.val (.ref a), .val (.long key), .second, .val (.int nd), .val (.int (3 : Int32)), .val (.int (1 : Int32))] [(.int (1 : Int32)), (.ref d), (.int nd), (.long key)]) _
    refine X_6.laload hx (j := (1 : Int32)) (v := (.long x1)) (by rw [e_6]; exact Ar_7.1) (State.isArrayOf_alike hZ.alike Ar_7.2.1) Ar_7.2.2 hin_7 hat_7 (g := (mkF mM 80 #[.val (.ref a), .val (.long key), .second, .val (.int nd), .val (.int (3 : Int32)), .val (.int (1 : Int32))] [(.int (1 : Int32)), (.ref d), (.int nd), (.long key)])) rfl rfl (hb hby d_prog_33m4_80) _ ?_
    refine XS.aloadN X_6.here hx rfl (hb hby d_prog_33m4_81) rfl rfl ?_
    show oS pP eE below T_6 (mkF mM 82 #[.val (.ref a), .val (.long key), .second, .val (.int nd), .val (.int (3 : Int32)), .val (.int (1 : Int32))] [(.ref a), (.long x1), (.int nd), (.long key)]) _
    refine st_8 _ ?_
    show oS pP eE below T_8 (mkF mM 85 #[.val (.ref a), .val (.long key), .second, .val (.int nd), .val (.int (3 : Int32)), .val (.int (1 : Int32))] [(.ref g), (.long x1), (.int nd), (.long key)]) _
    refine XS.iload X_8.here hx rfl (hb hby d_prog_33m4_85) rfl ?_
    show oS pP eE below T_8 (mkF mM 87 #[.val (.ref a), .val (.long key), .second, .val (.int nd), .val (.int (3 : Int32)), .val (.int (1 : Int32))] [(.int (1 : Int32)), (.ref g), (.long x1), (.int nd), (.long key)]) _
    refine X_8.iaload hx (j := (1 : Int32)) (v := (.int y1)) (by rw [e_8]; exact Ar_9.1) (State.isArrayOf_alike hZ.alike Ar_9.2.1) Ar_9.2.2 hin_9 hat_9 (g := (mkF mM 87 #[.val (.ref a), .val (.long key), .second, .val (.int nd), .val (.int (3 : Int32)), .val (.int (1 : Int32))] [(.int (1 : Int32)), (.ref g), (.long x1), (.int nd), (.long key)])) rfl rfl (hb hby d_prog_33m4_87) _ ?_
    show oS pP eE below T_8 (mkF mM 88 #[.val (.ref a), .val (.long key), .second, .val (.int nd), .val (.int (3 : Int32)), .val (.int (1 : Int32))] [(.int y1), (.long x1), (.int nd), (.long key)]) _
    refine st_10 _ ?_
    show oS pP eE below T_10 (mkF mM 91 #[.val (.ref a), .val (.long key), .second, .val (.int nd), .val (.int (3 : Int32)), .val (.int (1 : Int32))] [(.int (0 : Int32))]) _
    refine XS.ifNo X_10.here hx rfl (hb hby d_prog_33m4_91) rfl (by decide) ?_
    refine XS.goto X_10.here hx rfl (pc0 := 94) (pc' := 132) rfl (hb hby d_prog_33m4_94) (by decide) (by decide) ?_
    refine XS.aloadN X_10.here hx rfl (hb hby d_prog_33m4_132) rfl rfl ?_
    show oS pP eE below T_10 (mkF mM 133 #[.val (.ref a), .val (.long key), .second, .val (.int nd), .val (.int (3 : Int32)), .val (.int (1 : Int32))] [(.ref a)]) _
    refine st_11 _ ?_
    show oS pP eE below T_11 (mkF mM 136 #[.val (.ref a), .val (.long key), .second, .val (.int nd), .val (.int (3 : Int32)), .val (.int (1 : Int32))] [(.ref d)]) _
    refine XS.iload X_11.here hx rfl (hb hby d_prog_33m4_136) rfl ?_
    refine XT.lloadN X_11.here hx rfl (hb hby d_prog_33m4_138) rfl ?_
    show oS pP eE below T_11 (mkF mM 139 #[.val (.ref a), .val (.long key), .second, .val (.int nd), .val (.int (3 : Int32)), .val (.int (1 : Int32))] [(.long key), (.int (3 : Int32)), (.ref d)]) _
    refine st_12 _ ?_
    show oS pP eE below T_12 (mkF mM 140 #[.val (.ref a), .val (.long key), .second, .val (.int nd), .val (.int (3 : Int32)), .val (.int (1 : Int32))] []) _
    refine XS.aloadN X_12.here hx rfl (hb hby d_prog_33m4_140) rfl rfl ?_
    show oS pP eE below T_12 (mkF mM 141 #[.val (.ref a), .val (.long key), .second, .val (.int nd), .val (.int (3 : Int32)), .val (.int (1 : Int32))] [(.ref a)]) _
    refine st_13 _ ?_
    show oS pP eE below T_13 (mkF mM 144 #[.val (.ref a), .val (.long key), .second, .val (.int nd), .val (.int (3 : Int32)), .val (.int (1 : Int32))] [(.ref g)]) _
    refine XS.iload X_13.here hx rfl (hb hby d_prog_33m4_144) rfl ?_
    refine XS.iloadN X_13.here hx rfl (hb hby d_prog_33m4_146) rfl ?_
    show oS pP eE below T_13 (mkF mM 147 #[.val (.ref a), .val (.long key), .second, .val (.int nd), .val (.int (3 : Int32)), .val (.int (1 : Int32))] [(.int nd), (.int (3 : Int32)), (.ref g)]) _
    refine st_14 _ ?_
    show oS pP eE below T_14 (mkF mM 148 #[.val (.ref a), .val (.long key), .second, .val (.int nd), .val (.int (3 : Int32)), .val (.int (1 : Int32))] []) _
    exact X_14.returnOut hx Bd.returns (hb hby d_prog_33m4_148) hr
  · show Q_add3 Z a d g kd kg key nd x0 x1 x2 x3 y0 y1 y2 y3 h0 n0 _ T_14.heap _
    rw [e_14]
    exact ⟨x0, x1, x2, key, y0, y1, y2, nd, rfl, N_14, K_14, ((Fw_5.other W_12 (Or.inl nad)).other W_14 (Or.inl nag)), (((F_keys_a.other W_5 (Or.inr (slot_ne (Or.inl (ow hw 12 rfl)) (Or.inl (ow hw 22 rfl)) (by decide) (t := (.array .long)) (t' := .int) (by decide) (by decide)))).other W_12 (Or.inl nad)).other W_14 (Or.inl nag)), (((F_nodes_a.other W_5 (Or.inr (slot_ne (Or.inl (ow hw 15 rfl)) (Or.inl (ow hw 22 rfl)) (by decide) (t := (.array .int)) (t' := .int) (by decide) (by decide)))).other W_12 (Or.inl nad)).other W_14 (Or.inl nag)), (((E_a.wr W_5).wr W_12).wr W_14), (V_12.other W_14 ndg), V_14⟩
theorem ef_add3yn_ (mM : MethodId) (x0 : Addr) (x1 : Int64) (x2 : Int32) : entryFrame mM #[(.ref x0), (.long x1), (.int x2)] 6 = mkF mM 0 #[.val (.ref x0), .val (.long x1), .second, .val (.int x2), .unset, .unset] [] := by first | (simp [entryFrame, mkF, argsToLocals, Value.category]; done) | rfl
set_option maxRecDepth 65536 in
set_option maxHeartbeats 40000000 in
theorem rm_add3yn_ (l : Launch) (Z : State) (a0 : Array Value) (hw : ∀ d ∈ tables_1, d.before a0 Z = true) (ws : List Jvm.Cond) (a : Addr) (d : Addr) (g : Addr) (kd : ClassId) (kg : ClassId) (key : Int64) (nd : Int32) (x0 : Int64) (x1 : Int64) (x2 : Int64) (x3 : Int64) (y0 : Int32) (y1 : Int32) (y2 : Int32) (y3 : Int32) (h0 : Heap) (n0 : Nat) (Z0 : n0 ≤ h0.size) (F_size_a : Fld Z h0 a "com/example/greenweft/greenweft/steiner/NodeHeap" "size" "I" (.int (3 : Int32))) (F_keys_a : Fld Z h0 a "com/example/greenweft/greenweft/steiner/NodeHeap" "keys" "[J" (.ref d)) (F_nodes_a : Fld Z h0 a "com/example/greenweft/greenweft/steiner/NodeHeap" "nodes" "[I" (.ref g)) (E_a : Exa Z h0 a "com/example/greenweft/greenweft/steiner/NodeHeap") (g_a : n0 ≤ a) (g_d : n0 ≤ d) (g_g : n0 ≤ g) (V_d : Arv Z h0 d kd .long (16 : Int32) [(.long x0), (.long x1), (.long x2), (.long x3)] (.long (0 : Int64))) (V_g : Arv Z h0 g kg .int (16 : Int32) [(.int y0), (.int y1), (.int y2), (.int y3)] (.int (0 : Int32))) (ndg : d ≠ g) (nad : a ≠ d) (nag : a ≠ g) (hr0 : own_pre key nd x1 y1) (hr1 : ¬ own_pre key nd x0 y0) :
    MetFree l (⟨"com/example/greenweft/greenweft/steiner/NodeHeap", "add", "(JI)V"⟩ : MethodName) (head1 (Jvm.Cond.code (⟨"com/example/greenweft/greenweft/steiner/NodeHeap", "add", "(JI)V"⟩ : MethodName) prog_33_method_4_code 6 none :: ws) ({ frames := 1, cells := 0, slots := 0, locals := 17 } : Room)) (fun aa_ U_ => aa_ = #[(.ref a), (.long key), (.int nd)] ∧ Z.Warmed39 U_.vm ∧ U_.heap = h0) (fun _ _ _ _ _ => True) (fun _ U_ o_ U'_ => ∃ v_ L_, o_ = .returned v_ ∧ Q_add3 Z a d g kd kg key nd x0 x1 x2 x3 y0 y1 y2 y3 h0 n0 v_ U'_.heap L_ ∧ FrameEnd U_ o_ U'_ L_ ({ frames := 1, cells := 0, slots := 0, locals := 17 } : Room).cells ({ frames := 1, cells := 0, slots := 0, locals := 17 } : Room).slots) := by
  refine MetFree.of_bodySF (plainFor_of_name pn_0) hisR ?_
  intro pP eE sS mM argsA below meth cC s₁ Bd hml0 hP hK
  obtain ⟨rfl, hZ, hh⟩ := hP
  have hx := Bd.exec
  have hby := Bd.bytes
  have hml : cC.maxLocals = 6 := hml0
  have hown : sS.vm.findClass "com/example/greenweft/greenweft/steiner/NodeHeap" = some mM.cls := findClass_of_methodNamed Bd.named
  have hnm := (name_of_methodNamed Bd.named Bd.method).1
  have X0 : Stand pP l eE ({ frames := 1, cells := 0, slots := 0, locals := 17 } : Room) sS mM #[(.ref a), (.long key), (.int nd)] below meth cC s₁ [] 0 0 := Stand.of_body Bd
  have e0 : s₁.heap = h0 := by rw [← hh, Bd.state]; rfl
  have N0 := Fr.nil n0
  have pre0 : ∀ t_, Steps pP.tables eE below (s₁.setTop (mkF mM 0 #[.val (.ref a), .val (.long key), .second, .val (.int nd), .unset, .unset] [])) t_ → Steps pP.tables eE below (s₁.setTop (entryFrame mM #[(.ref a), (.long key), (.int nd)] 6)) t_ := fun t_ k_ => castTop (ef_add3yn_ mM a key nd) k_
  obtain ⟨T_1, X_1, e_1, st_1⟩ := getF X0 hx hZ hown (host := "") (Or.inl (ow hw 21 rfl)) Via.refl e0 F_size_a (g := (mkF mM 1 #[.val (.ref a), .val (.long key), .second, .val (.int nd), .unset, .unset] [(.ref a)])) rfl rfl (hb hby d_prog_33m4_1)
  obtain ⟨T_2, X_2, e_2, st_2⟩ := getF X_1 hx hZ hown (host := "") (Or.inl (ow hw 11 rfl)) Via.refl e_1 F_keys_a (g := (mkF mM 5 #[.val (.ref a), .val (.long key), .second, .val (.int nd), .unset, .unset] [(.ref a), (.int (3 : Int32))])) rfl rfl (hb hby d_prog_33m4_5)
  obtain ⟨cl_3, Ar_3, -, Sa_3, Na_3, -, -⟩ := id V_d
  obtain ⟨T_4, X_4, e_4, st_4⟩ := getF X_2 hx hZ hown (host := "") (Or.inl (ow hw 21 rfl)) Via.refl e_2 F_size_a (g := (mkF mM 48 #[.val (.ref a), .val (.long key), .second, .val (.int nd), .unset, .unset] [(.ref a), (.ref a)])) rfl rfl (hb hby d_prog_33m4_48)
  obtain ⟨T_5, h_5, X_5, e_5, W_5, st_5⟩ := putF X_4 hx hZ hown (host := "") (Or.inl (ow hw 21 rfl)) Via.refl e_4 F_size_a E_a (Or.inl (ow hw 22 rfl)) (ow hw 2 rfl) (ty := .int) (by decide) rfl rfl (g := (mkF mM 54 #[.val (.ref a), .val (.long key), .second, .val (.int nd), .unset, .unset] [(.int (4 : Int32)), (.ref a), (.int (3 : Int32))])) rfl rfl (hb hby d_prog_33m4_54)
  have Fw_5 := F_size_a.same W_5
  have Z_5 : n0 ≤ h_5.size := (Nat.le_trans Z0 (Keep.of_wr W_5).1)
  have K_5 : Keep h0 h_5 [a, d, g] := (Keep.refl h0 [a, d, g]).wr W_5 (Or.inl (List.mem_of_getElem? (i := 0) rfl))
  have N_5 := Fr.snoc X_5 N0 g_a
  obtain ⟨T_6, X_6, e_6, st_6⟩ := getF X_5 hx hZ hown (host := "") (Or.inl (ow hw 11 rfl)) Via.refl e_5 (F_keys_a.other W_5 (Or.inr (slot_ne (Or.inl (ow hw 12 rfl)) (Or.inl (ow hw 22 rfl)) (by decide) (t := (.array .long)) (t' := .int) (by decide) (by decide)))) (g := (mkF mM 75 #[.val (.ref a), .val (.long key), .second, .val (.int nd), .val (.int (3 : Int32)), .val (.int (1 : Int32))] [(.ref a), (.int nd), (.long key)])) rfl rfl (hb hby d_prog_33m4_75)
  obtain ⟨cl_7, Ar_7, qa_7, Sa_7, Na_7, Ha_7, Ga_7⟩ := id (V_d.other W_5 (Ne.symm nad))
  have hin_7 : ¬ ((1 : Int32) < 0 ∨ cl_7.slots.size ≤ ((1 : Int32)).toNatClampNeg) := inb_of Sa_7 ⟨by decide, by decide⟩
  have hat_7 : cl_7.slots[((1 : Int32)).toNatClampNeg]? = some (.long x1) := Has.at Ha_7 hin_7 rfl
  obtain ⟨T_8, X_8, e_8, st_8⟩ := getF X_6 hx hZ hown (host := "") (Or.inl (ow hw 14 rfl)) Via.refl e_6 (F_nodes_a.other W_5 (Or.inr (slot_ne (Or.inl (ow hw 15 rfl)) (Or.inl (ow hw 22 rfl)) (by decide) (t := (.array .int)) (t' := .int) (by decide) (by decide)))) (g := (mkF mM 82 #[.val (.ref a), .val (.long key), .second, .val (.int nd), .val (.int (3 : Int32)), .val (.int (1 : Int32))] [(.ref a), (.long x1), (.int nd), (.long key)])) rfl rfl (hb hby d_prog_33m4_82)
  obtain ⟨cl_9, Ar_9, qa_9, Sa_9, Na_9, Ha_9, Ga_9⟩ := id (V_g.other W_5 (Ne.symm nag))
  have hin_9 : ¬ ((1 : Int32) < 0 ∨ cl_9.slots.size ≤ ((1 : Int32)).toNatClampNeg) := inb_of Sa_9 ⟨by decide, by decide⟩
  have hat_9 : cl_9.slots[((1 : Int32)).toNatClampNeg]? = some (.int y1) := Has.at Ha_9 hin_9 rfl
  obtain ⟨_, _, ⟨T_10, L_10, k_10, n_10⟩, -, X_10, ⟨Lc_10, hQ_10, l_10, y_10, z_10⟩, st_10⟩ := Jvm.LawKit.callS X_8 hx (y := MN0) hown (mvT hZ (ow hw 33 rfl)) (mvT hZ (ow hw 34 rfl)) (mvT hZ (ow hw 3 rfl)) (mvT hZ (ow hw 35 rfl)) (by decide) (backOf (W := 0) (rm_prc1 l Z a0 hw [] key nd x1 y1 h_5 n0 Z_5 hr0) hZ (ow hw 35 rfl) (ow hw 3 rfl) (by decide) (by decide)) (g := (mkF mM 88 #[.val (.ref a), .val (.long key), .second, .val (.int nd), .val (.int (3 : Int32)), .val (.int (1 : Int32))] [(.int y1), (.long x1), (.int nd), (.long key)])) rfl (by rw [hml]; rfl) (argsL := [(.long key), (.int nd), (.long x1), (.int y1)]) (rest := []) (lenOf pd_0 rfl) rfl (by show 2 * 0 + _ ≤ _; exact Nat.le_of_eq rfl) (hb hby d_prog_33m4_88) (fun _ _ => ⟨rfl, e_8, (by decide : 0 + 0 ≤ _), (by decide : 0 + 0 ≤ _)⟩)
  dsimp only [Pt.U, Pt.locs, Pt.cells, Pt.slots] at X_10 l_10 y_10 z_10 st_10 hQ_10
  subst l_10 y_10 z_10
  obtain ⟨rfl, N_10q, eh_10⟩ := hQ_10
  have N_10 := Fr.app N_5 N_10q
  obtain ⟨T_11, X_11, e_11, st_11⟩ := getF X_10 hx hZ hown (host := "") (Or.inl (ow hw 11 rfl)) Via.refl eh_10 (F_keys_a.other W_5 (Or.inr (slot_ne (Or.inl (ow hw 12 rfl)) (Or.inl (ow hw 22 rfl)) (by decide) (t := (.array .long)) (t' := .int) (by decide) (by decide)))) (g := (mkF mM 98 #[.val (.ref a), .val (.long key), .second, .val (.int nd), .val (.int (3 : Int32)), .val (.int (1 : Int32))] [(.ref a)])) rfl rfl (hb hby d_prog_33m4_98)
  obtain ⟨T_12, X_12, e_12, st_12⟩ := getF X_11 hx hZ hown (host := "") (Or.inl (ow hw 11 rfl)) Via.refl e_11 (F_keys_a.other W_5 (Or.inr (slot_ne (Or.inl (ow hw 12 rfl)) (Or.inl (ow hw 22 rfl)) (by decide) (t := (.array .long)) (t' := .int) (by decide) (by decide)))) (g := (mkF mM 104 #[.val (.ref a), .val (.long key), .second, .val (.int nd), .val (.int (3 : Int32)), .val (.int (1 : Int32))] [(.ref a), (.int (3 : Int32)), (.ref d)])) rfl rfl (hb hby d_prog_33m4_104)
  obtain ⟨cl_13, Ar_13, qa_13, Sa_13, Na_13, Ha_13, Ga_13⟩ := id (V_d.other W_5 (Ne.symm nad))
  have hin_13 : ¬ ((1 : Int32) < 0 ∨ cl_13.slots.size ≤ ((1 : Int32)).toNatClampNeg) := inb_of Sa_13 ⟨by decide, by decide⟩
  have hat_13 : cl_13.slots[((1 : Int32)).toNatClampNeg]? = some (.long x1) := Has.at Ha_13 hin_13 rfl
  obtain ⟨cl_14, Ar_14, qa_14, Sa_14, Na_14, Ha_14, Ga_14⟩ := id (V_d.other W_5 (Ne.symm nad))
  have hin_14 : ¬ ((3 : Int32) < 0 ∨ cl_14.slots.size ≤ ((3 : Int32)).toNatClampNeg) := inb_of Sa_14 ⟨by decide, by decide⟩
  obtain ⟨T_14, h_14, X_14, e_14, W_14, st_14⟩ := stJ X_12 hx hZ e_12 Ar_14 (j := (3 : Int32)) hin_14 (g := (mkF mM 110 #[.val (.ref a), .val (.long key), .second, .val (.int nd), .val (.int (3 : Int32)), .val (.int (1 : Int32))] [(.long x1), (.int (3 : Int32)), (.ref d)])) rfl rfl (hb hby d_prog_33m4_110)
  have V_14 : Arv Z h_14 d kd .long (16 : Int32) [(.long x0), (.long x1), (.long x2), (.long x1)] (.long (0 : Int64)) := Arv.set Ar_14 qa_14 Sa_14 Na_14 Ha_14 Ga_14 rfl W_14 3 rfl (Nat.le_of_ble_eq_true rfl)
  have Z_14 : n0 ≤ h_14.size := (Nat.le_trans Z_5 (Keep.of_wr W_14).1)
  have K_14 : Keep h0 h_14 [a, d, g] := K_5.wr W_14 (Or.inl (List.mem_of_getElem? (i := 1) rfl))
  have N_14 := Fr.snoc X_14 N_10 g_d
  obtain ⟨T_15, X_15, e_15, st_15⟩ := getF X_14 hx hZ hown (host := "") (Or.inl (ow hw 14 rfl)) Via.refl e_14 ((F_nodes_a.other W_5 (Or.inr (slot_ne (Or.inl (ow hw 15 rfl)) (Or.inl (ow hw 22 rfl)) (by decide) (t := (.array .int)) (t' := .int) (by decide) (by decide)))).other W_14 (Or.inl nad)) (g := (mkF mM 112 #[.val (.ref a), .val (.long key), .second, .val (.int nd), .val (.int (3 : Int32)), .val (.int (1 : Int32))] [(.ref a)])) rfl rfl (hb hby d_prog_33m4_112)
  obtain ⟨T_16, X_16, e_16, st_16⟩ := getF X_15 hx hZ hown (host := "") (Or.inl (ow hw 14 rfl)) Via.refl e_15 ((F_nodes_a.other W_5 (Or.inr (slot_ne (Or.inl (ow hw 15 rfl)) (Or.inl (ow hw 22 rfl)) (by decide) (t := (.array .int)) (t' := .int) (by decide) (by decide)))).other W_14 (Or.inl nad)) (g := (mkF mM 118 #[.val (.ref a), .val (.long key), .second, .val (.int nd), .val (.int (3 : Int32)), .val (.int (1 : Int32))] [(.ref a), (.int (3 : Int32)), (.ref g)])) rfl rfl (hb hby d_prog_33m4_118)
  obtain ⟨cl_17, Ar_17, qa_17, Sa_17, Na_17, Ha_17, Ga_17⟩ := id ((V_g.other W_5 (Ne.symm nag)).other W_14 (Ne.symm ndg))
  have hin_17 : ¬ ((1 : Int32) < 0 ∨ cl_17.slots.size ≤ ((1 : Int32)).toNatClampNeg) := inb_of Sa_17 ⟨by decide, by decide⟩
  have hat_17 : cl_17.slots[((1 : Int32)).toNatClampNeg]? = some (.int y1) := Has.at Ha_17 hin_17 rfl
  obtain ⟨cl_18, Ar_18, qa_18, Sa_18, Na_18, Ha_18, Ga_18⟩ := id ((V_g.other W_5 (Ne.symm nag)).other W_14 (Ne.symm ndg))
  have hin_18 : ¬ ((3 : Int32) < 0 ∨ cl_18.slots.size ≤ ((3 : Int32)).toNatClampNeg) := inb_of Sa_18 ⟨by decide, by decide⟩
  obtain ⟨T_18, h_18, X_18, e_18, W_18, st_18⟩ := stI X_16 hx hZ e_16 Ar_18 (j := (3 : Int32)) hin_18 (g := (mkF mM 124 #[.val (.ref a), .val (.long key), .second, .val (.int nd), .val (.int (3 : Int32)), .val (.int (1 : Int32))] [(.int y1), (.int (3 : Int32)), (.ref g)])) rfl rfl (hb hby d_prog_33m4_124)
  have V_18 : Arv Z h_18 g kg .int (16 : Int32) [(.int y0), (.int y1), (.int y2), (.int y1)] (.int (0 : Int32)) := Arv.set Ar_18 qa_18 Sa_18 Na_18 Ha_18 Ga_18 rfl W_18 3 rfl (Nat.le_of_ble_eq_true rfl)
  have Z_18 : n0 ≤ h_18.size := (Nat.le_trans Z_14 (Keep.of_wr W_18).1)
  have K_18 : Keep h0 h_18 [a, d, g] := K_14.wr W_18 (Or.inl (List.mem_of_getElem? (i := 2) rfl))
  have N_18 := Fr.snoc X_18 N_14 g_g
  obtain ⟨T_19, X_19, e_19, st_19⟩ := getF X_18 hx hZ hown (host := "") (Or.inl (ow hw 11 rfl)) Via.refl e_18 (((F_keys_a.other W_5 (Or.inr (slot_ne (Or.inl (ow hw 12 rfl)) (Or.inl (ow hw 22 rfl)) (by decide) (t := (.array .long)) (t' := .int) (by decide) (by decide)))).other W_14 (Or.inl nad)).other W_18 (Or.inl nag)) (g := (mkF mM 75 #[.val (.ref a), .val (.long key), .second, .val (.int nd), .val (.int (1 : Int32)), .val (.int (0 : Int32))] [(.ref a), (.int nd), (.long key)])) rfl rfl (hb hby d_prog_33m4_75)
  obtain ⟨cl_20, Ar_20, qa_20, Sa_20, Na_20, Ha_20, Ga_20⟩ := id (V_14.other W_18 ndg)
  have hin_20 : ¬ ((0 : Int32) < 0 ∨ cl_20.slots.size ≤ ((0 : Int32)).toNatClampNeg) := inb_of Sa_20 ⟨by decide, by decide⟩
  have hat_20 : cl_20.slots[((0 : Int32)).toNatClampNeg]? = some (.long x0) := Has.at Ha_20 hin_20 rfl
  obtain ⟨T_21, X_21, e_21, st_21⟩ := getF X_19 hx hZ hown (host := "") (Or.inl (ow hw 14 rfl)) Via.refl e_19 (((F_nodes_a.other W_5 (Or.inr (slot_ne (Or.inl (ow hw 15 rfl)) (Or.inl (ow hw 22 rfl)) (by decide) (t := (.array .int)) (t' := .int) (by decide) (by decide)))).other W_14 (Or.inl nad)).other W_18 (Or.inl nag)) (g := (mkF mM 82 #[.val (.ref a), .val (.long key), .second, .val (.int nd), .val (.int (1 : Int32)), .val (.int (0 : Int32))] [(.ref a), (.long x0), (.int nd), (.long key)])) rfl rfl (hb hby d_prog_33m4_82)
  obtain ⟨cl_22, Ar_22, qa_22, Sa_22, Na_22, Ha_22, Ga_22⟩ := id V_18
  have hin_22 : ¬ ((0 : Int32) < 0 ∨ cl_22.slots.size ≤ ((0 : Int32)).toNatClampNeg) := inb_of Sa_22 ⟨by decide, by decide⟩
  have hat_22 : cl_22.slots[((0 : Int32)).toNatClampNeg]? = some (.int y0) := Has.at Ha_22 hin_22 rfl
  obtain ⟨_, _, ⟨T_23, L_23, k_23, n_23⟩, -, X_23, ⟨Lc_23, hQ_23, l_23, y_23, z_23⟩, st_23⟩ := Jvm.LawKit.callS X_21 hx (y := MN0) hown (mvT hZ (ow hw 33 rfl)) (mvT hZ (ow hw 34 rfl)) (mvT hZ (ow hw 3 rfl)) (mvT hZ (ow hw 35 rfl)) (by decide) (backOf (W := 0) (rm_prc0 l Z a0 hw [] key nd x0 y0 h_18 n0 Z_18 hr1) hZ (ow hw 35 rfl) (ow hw 3 rfl) (by decide) (by decide)) (g := (mkF mM 88 #[.val (.ref a), .val (.long key), .second, .val (.int nd), .val (.int (1 : Int32)), .val (.int (0 : Int32))] [(.int y0), (.long x0), (.int nd), (.long key)])) rfl (by rw [hml]; rfl) (argsL := [(.long key), (.int nd), (.long x0), (.int y0)]) (rest := []) (lenOf pd_0 rfl) rfl (by show 2 * 0 + _ ≤ _; exact Nat.le_of_eq rfl) (hb hby d_prog_33m4_88) (fun _ _ => ⟨rfl, e_21, (by decide : 0 + 0 ≤ _), (by decide : 0 + 0 ≤ _)⟩)
  dsimp only [Pt.U, Pt.locs, Pt.cells, Pt.slots] at X_23 l_23 y_23 z_23 st_23 hQ_23
  subst l_23 y_23 z_23
  obtain ⟨rfl, N_23q, eh_23⟩ := hQ_23
  have N_23 := Fr.app N_18 N_23q
  obtain ⟨T_24, X_24, e_24, st_24⟩ := getF X_23 hx hZ hown (host := "") (Or.inl (ow hw 11 rfl)) Via.refl eh_23 (((F_keys_a.other W_5 (Or.inr (slot_ne (Or.inl (ow hw 12 rfl)) (Or.inl (ow hw 22 rfl)) (by decide) (t := (.array .long)) (t' := .int) (by decide) (by decide)))).other W_14 (Or.inl nad)).other W_18 (Or.inl nag)) (g := (mkF mM 133 #[.val (.ref a), .val (.long key), .second, .val (.int nd), .val (.int (1 : Int32)), .val (.int (0 : Int32))] [(.ref a)])) rfl rfl (hb hby d_prog_33m4_133)
  obtain ⟨cl_25, Ar_25, qa_25, Sa_25, Na_25, Ha_25, Ga_25⟩ := id (V_14.other W_18 ndg)
  have hin_25 : ¬ ((1 : Int32) < 0 ∨ cl_25.slots.size ≤ ((1 : Int32)).toNatClampNeg) := inb_of Sa_25 ⟨by decide, by decide⟩
  obtain ⟨T_25, h_25, X_25, e_25, W_25, st_25⟩ := stJ X_24 hx hZ e_24 Ar_25 (j := (1 : Int32)) hin_25 (g := (mkF mM 139 #[.val (.ref a), .val (.long key), .second, .val (.int nd), .val (.int (1 : Int32)), .val (.int (0 : Int32))] [(.long key), (.int (1 : Int32)), (.ref d)])) rfl rfl (hb hby d_prog_33m4_139)
  have V_25 : Arv Z h_25 d kd .long (16 : Int32) [(.long x0), (.long key), (.long x2), (.long x1)] (.long (0 : Int64)) := Arv.set Ar_25 qa_25 Sa_25 Na_25 Ha_25 Ga_25 rfl W_25 1 rfl (Nat.le_of_ble_eq_true rfl)
  have Z_25 : n0 ≤ h_25.size := (Nat.le_trans Z_18 (Keep.of_wr W_25).1)
  have K_25 : Keep h0 h_25 [a, d, g] := K_18.wr W_25 (Or.inl (List.mem_of_getElem? (i := 1) rfl))
  have N_25 := Fr.snoc X_25 N_23 g_d
  obtain ⟨T_26, X_26, e_26, st_26⟩ := getF X_25 hx hZ hown (host := "") (Or.inl (ow hw 14 rfl)) Via.refl e_25 ((((F_nodes_a.other W_5 (Or.inr (slot_ne (Or.inl (ow hw 15 rfl)) (Or.inl (ow hw 22 rfl)) (by decide) (t := (.array .int)) (t' := .int) (by decide) (by decide)))).other W_14 (Or.inl nad)).other W_18 (Or.inl nag)).other W_25 (Or.inl nad)) (g := (mkF mM 141 #[.val (.ref a), .val (.long key), .second, .val (.int nd), .val (.int (1 : Int32)), .val (.int (0 : Int32))] [(.ref a)])) rfl rfl (hb hby d_prog_33m4_141)
  obtain ⟨cl_27, Ar_27, qa_27, Sa_27, Na_27, Ha_27, Ga_27⟩ := id (V_18.other W_25 (Ne.symm ndg))
  have hin_27 : ¬ ((1 : Int32) < 0 ∨ cl_27.slots.size ≤ ((1 : Int32)).toNatClampNeg) := inb_of Sa_27 ⟨by decide, by decide⟩
  obtain ⟨T_27, h_27, X_27, e_27, W_27, st_27⟩ := stI X_26 hx hZ e_26 Ar_27 (j := (1 : Int32)) hin_27 (g := (mkF mM 147 #[.val (.ref a), .val (.long key), .second, .val (.int nd), .val (.int (1 : Int32)), .val (.int (0 : Int32))] [(.int nd), (.int (1 : Int32)), (.ref g)])) rfl rfl (hb hby d_prog_33m4_147)
  have V_27 : Arv Z h_27 g kg .int (16 : Int32) [(.int y0), (.int nd), (.int y2), (.int y1)] (.int (0 : Int32)) := Arv.set Ar_27 qa_27 Sa_27 Na_27 Ha_27 Ga_27 rfl W_27 1 rfl (Nat.le_of_ble_eq_true rfl)
  have Z_27 : n0 ≤ h_27.size := (Nat.le_trans Z_25 (Keep.of_wr W_27).1)
  have K_27 : Keep h0 h_27 [a, d, g] := K_25.wr W_27 (Or.inl (List.mem_of_getElem? (i := 2) rfl))
  have N_27 := Fr.snoc X_27 N_25 g_g
  obtain ⟨fs, hr, hrun, hended, hW, hsame⟩ := X_27.leave (v := none) (fun _ => rfl)
  refine ⟨_, _, pre0 _ ?_, hrun, hended, _, _, rfl, ?_, ⟨_, rfl⟩, hW, hsame.mono (by decide) (by decide)⟩
  · show oS pP eE below s₁ (mkF mM 0 #[.val (.ref a), .val (.long key), .second, .val (.int nd), .unset, .unset] []) _
    refine XS.aloadN X0.here hx rfl (hb hby d_prog_33m4_0) rfl rfl ?_
    show oS pP eE below s₁ (mkF mM 1 #[.val (.ref a), .val (.long key), .second, .val (.int nd), .unset, .unset] [(.ref a)]) _
    refine st_1 _ ?_
    show oS pP eE below T_1 (mkF mM 4 #[.val (.ref a), .val (.long key), .second, .val (.int nd), .unset, .unset] [(.int (3 : Int32))]) _
    refine XS.aloadN X_1.here hx rfl (hb hby d_prog_33m4_4) rfl rfl ?_
    show oS pP eE below T_1 (mkF mM 5 #[.val (.ref a), .val (.long key), .second, .val (.int nd), .unset, .unset] [(.ref a), (.int (3 : Int32))]) _
    refine st_2 _ ?_
    show oS pP eE below T_2 (mkF mM 8 #[.val (.ref a), .val (.long key), .second, .val (.int nd), .unset, .unset] [(.ref d), (.int (3 : Int32))]) _
    refine X_2.arraylength hx (by rw [e_2]; exact Ar_3.1) (State.isArrayOf_alike hZ.alike Ar_3.2.1) (g := (mkF mM 8 #[.val (.ref a), .val (.long key), .second, .val (.int nd), .unset, .unset] [(.ref d), (.int (3 : Int32))])) rfl rfl (hb hby d_prog_33m4_8) _ ?_
    rw [len_of Sa_3 Na_3]
    refine XS.icmpYes X_2.here hx rfl (pc0 := 9) (pc' := 46) rfl (hb hby d_prog_33m4_9) rfl (by decide) (by decide) (by decide) ?_
    refine XS.aloadN X_2.here hx rfl (hb hby d_prog_33m4_46) rfl rfl ?_
    refine XS.dup X_2.here hx rfl (hb hby d_prog_33m4_47) rfl rfl ?_
    show oS pP eE below T_2 (mkF mM 48 #[.val (.ref a), .val (.long key), .second, .val (.int nd), .unset, .unset] [(.ref a), (.ref a)]) _
    refine st_4 _ ?_
    show oS pP eE below T_4 (mkF mM 51 #[.val (.ref a), .val (.long key), .second, .val (.int nd), .unset, .unset] [(.int (3 : Int32)), (.ref a)]) _
    refine XT.dupX1 X_4.here hx rfl (hb hby d_prog_33m4_51) rfl rfl rfl ?_
    refine XS.iconst X_4.here hx rfl (hb hby d_prog_33m4_52) ?_
    show oS pP eE below T_4 (mkF mM 53 #[.val (.ref a), .val (.long key), .second, .val (.int nd), .unset, .unset] [(.int (1 : Int32)), (.int (3 : Int32)), (.ref a), (.int (3 : Int32))]) _
    refine XS.iadd X_4.here hx rfl (hb hby d_prog_33m4_53) rfl ?_
    show oS pP eE below T_4 (mkF mM 54 #[.val (.ref a), .val (.long key), .second, .val (.int nd), .unset, .unset] [(.int ((3 : Int32) + (1 : Int32))), (.ref a), (.int (3 : Int32))]) _
    rw [(by decide : ((3 : Int32) + (1 : Int32)) = (4 : Int32))]
    show oS pP eE below T_4 (mkF mM 54 #[.val (.ref a), .val (.long key), .second, .val (.int nd), .unset, .unset] [(.int (4 : Int32)), (.ref a), (.int (3 : Int32))]) _
    refine st_5 _ ?_
    show oS pP eE below T_5 (mkF mM 57 #[.val (.ref a), .val (.long key), .second, .val (.int nd), .unset, .unset] [(.int (3 : Int32))]) _
    refine XS.istore X_5.here hx rfl (hb hby d_prog_33m4_57) rfl (l' := #[.val (.ref a), .val (.long key), .second, .val (.int nd), .val (.int (3 : Int32)), .unset]) rfl ?_
    refine XS.iload X_5.here hx rfl (hb hby d_prog_33m4_59) rfl ?_
    refine XS.ifNo X_5.here hx rfl (hb hby d_prog_33m4_61) rfl (by decide) ?_
    refine XS.iload X_5.here hx rfl (hb hby d_prog_33m4_64) rfl ?_
    refine XS.iconst X_5.here hx rfl (hb hby d_prog_33m4_66) ?_
    show oS pP eE below T_5 (mkF mM 67 #[.val (.ref a), .val (.long key), .second, .val (.int nd), .val (.int (3 : Int32)), .unset] [(.int (1 : Int32)), (.int (3 : Int32))]) _
    refine XS.isub X_5.here hx rfl (hb hby d_prog_33m4_67) rfl ?_
    show oS pP eE below T_5 (mkF mM 68 #[.val (.ref a), .val (.long key), .second, .val (.int nd), .val (.int (3 : Int32)), .unset] [(.int ((3 : Int32) - (1 : Int32)))]) _
    rw [(by decide : ((3 : Int32) - (1 : Int32)) = (2 : Int32))]
    refine XS.iconst X_5.here hx rfl (hb hby d_prog_33m4_68) ?_
    show oS pP eE below T_5 (mkF mM 69 #[.val (.ref a), .val (.long key), .second, .val (.int nd), .val (.int (3 : Int32)), .unset] [(.int (2 : Int32)), (.int (2 : Int32))]) _
    refine XS.idiv X_5.here hx rfl (hb hby d_prog_33m4_69) rfl (by decide) ?_
    show oS pP eE below T_5 (mkF mM 70 #[.val (.ref a), .val (.long key), .second, .val (.int nd), .val (.int (3 : Int32)), .unset] [(.int ((2 : Int32) / (2 : Int32)))]) _
    rw [(by decide : ((2 : Int32) / (2 : Int32)) = (1 : Int32))]
    refine XS.istore X_5.here hx rfl (hb hby d_prog_33m4_70) rfl (l' := #[.val (.ref a), .val (.long key), .second, .val (.int nd), .val (.int (3 : Int32)), .val (.int (1 : Int32))]) rfl ?_
    refine XT.lloadN X_5.here hx rfl (hb hby d_prog_33m4_72) rfl ?_
    refine XS.iloadN X_5.here hx rfl (hb hby d_prog_33m4_73) rfl ?_
    refine XS.aloadN X_5.here hx rfl (hb hby d_prog_33m4_74) rfl rfl ?_
    show oS pP eE below T_5 (mkF mM 75 #[.val (.ref a), .val (.long key), .second, .val (.int nd), .val (.int (3 : Int32)), .val (.int (1 : Int32))] [(.ref a), (.int nd), (.long key)]) _
    refine st_6 _ ?_
    show oS pP eE below T_6 (mkF mM 78 #[.val (.ref a), .val (.long key), .second, .val (.int nd), .val (.int (3 : Int32)), .val (.int (1 : Int32))] [(.ref d), (.int nd), (.long key)]) _
    refine XS.iload X_6.here hx rfl (hb hby d_prog_33m4_78) rfl ?_
    show oS pP eE below T_6 (mkF mM 80 #[.val (.ref a), .val (.long key), .second, .val (.int nd), .val (.int (3 : Int32)), .val (.int (1 : Int32))] [(.int (1 : Int32)), (.ref d), (.int nd), (.long key)]) _
    refine X_6.laload hx (j := (1 : Int32)) (v := (.long x1)) (by rw [e_6]; exact Ar_7.1) (State.isArrayOf_alike hZ.alike Ar_7.2.1) Ar_7.2.2 hin_7 hat_7 (g := (mkF mM 80 #[.val (.ref a), .val (.long key), .second, .val (.int nd), .val (.int (3 : Int32)), .val (.int (1 : Int32))] [(.int (1 : Int32)), (.ref d), (.int nd), (.long key)])) rfl rfl (hb hby d_prog_33m4_80) _ ?_
    refine XS.aloadN X_6.here hx rfl (hb hby d_prog_33m4_81) rfl rfl ?_
    show oS pP eE below T_6 (mkF mM 82 #[.val (.ref a), .val (.long key), .second, .val (.int nd), .val (.int (3 : Int32)), .val (.int (1 : Int32))] [(.ref a), (.long x1), (.int nd), (.long key)]) _
    refine st_8 _ ?_
    show oS pP eE below T_8 (mkF mM 85 #[.val (.ref a), .val (.long key), .second, .val (.int nd), .val (.int (3 : Int32)), .val (.int (1 : Int32))] [(.ref g), (.long x1), (.int nd), (.long key)]) _
    refine XS.iload X_8.here hx rfl (hb hby d_prog_33m4_85) rfl ?_
    show oS pP eE below T_8 (mkF mM 87 #[.val (.ref a), .val (.long key), .second, .val (.int nd), .val (.int (3 : Int32)), .val (.int (1 : Int32))] [(.int (1 : Int32)), (.ref g), (.long x1), (.int nd), (.long key)]) _
    refine X_8.iaload hx (j := (1 : Int32)) (v := (.int y1)) (by rw [e_8]; exact Ar_9.1) (State.isArrayOf_alike hZ.alike Ar_9.2.1) Ar_9.2.2 hin_9 hat_9 (g := (mkF mM 87 #[.val (.ref a), .val (.long key), .second, .val (.int nd), .val (.int (3 : Int32)), .val (.int (1 : Int32))] [(.int (1 : Int32)), (.ref g), (.long x1), (.int nd), (.long key)])) rfl rfl (hb hby d_prog_33m4_87) _ ?_
    show oS pP eE below T_8 (mkF mM 88 #[.val (.ref a), .val (.long key), .second, .val (.int nd), .val (.int (3 : Int32)), .val (.int (1 : Int32))] [(.int y1), (.long x1), (.int nd), (.long key)]) _
    refine st_10 _ ?_
    show oS pP eE below T_10 (mkF mM 91 #[.val (.ref a), .val (.long key), .second, .val (.int nd), .val (.int (3 : Int32)), .val (.int (1 : Int32))] [(.int (1 : Int32))]) _
    refine XS.ifYes X_10.here hx rfl (pc0 := 91) (pc' := 97) rfl (hb hby d_prog_33m4_91) rfl (by decide) (by decide) (by decide) ?_
    refine XS.aloadN X_10.here hx rfl (hb hby d_prog_33m4_97) rfl rfl ?_
    show oS pP eE below T_10 (mkF mM 98 #[.val (.ref a), .val (.long key), .second, .val (.int nd), .val (.int (3 : Int32)), .val (.int (1 : Int32))] [(.ref a)]) _
    refine st_11 _ ?_
    show oS pP eE below T_11 (mkF mM 101 #[.val (.ref a), .val (.long key), .second, .val (.int nd), .val (.int (3 : Int32)), .val (.int (1 : Int32))] [(.ref d)]) _
    refine XS.iload X_11.here hx rfl (hb hby d_prog_33m4_101) rfl ?_
    refine XS.aloadN X_11.here hx rfl (hb hby d_prog_33m4_103) rfl rfl ?_
    show oS pP eE below T_11 (mkF mM 104 #[.val (.ref a), .val (.long key), .second, .val (.int nd), .val (.int (3 : Int32)), .val (.int (1 : Int32))] [(.ref a), (.int (3 : Int32)), (.ref d)]) _
    refine st_12 _ ?_
    show oS pP eE below T_12 (mkF mM 107 #[.val (.ref a), .val (.long key), .second, .val (.int nd), .val (.int (3 : Int32)), .val (.int (1 : Int32))] [(.ref d), (.int (3 : Int32)), (.ref d)]) _
    refine XS.iload X_12.here hx rfl (hb hby d_prog_33m4_107) rfl ?_
    show oS pP eE below T_12 (mkF mM 109 #[.val (.ref a), .val (.long key), .second, .val (.int nd), .val (.int (3 : Int32)), .val (.int (1 : Int32))] [(.int (1 : Int32)), (.ref d), (.int (3 : Int32)), (.ref d)]) _
    refine X_12.laload hx (j := (1 : Int32)) (v := (.long x1)) (by rw [e_12]; exact Ar_13.1) (State.isArrayOf_alike hZ.alike Ar_13.2.1) Ar_13.2.2 hin_13 hat_13 (g := (mkF mM 109 #[.val (.ref a), .val (.long key), .second, .val (.int nd), .val (.int (3 : Int32)), .val (.int (1 : Int32))] [(.int (1 : Int32)), (.ref d), (.int (3 : Int32)), (.ref d)])) rfl rfl (hb hby d_prog_33m4_109) _ ?_
    show oS pP eE below T_12 (mkF mM 110 #[.val (.ref a), .val (.long key), .second, .val (.int nd), .val (.int (3 : Int32)), .val (.int (1 : Int32))] [(.long x1), (.int (3 : Int32)), (.ref d)]) _
    refine st_14 _ ?_
    show oS pP eE below T_14 (mkF mM 111 #[.val (.ref a), .val (.long key), .second, .val (.int nd), .val (.int (3 : Int32)), .val (.int (1 : Int32))] []) _
    refine XS.aloadN X_14.here hx rfl (hb hby d_prog_33m4_111) rfl rfl ?_
    show oS pP eE below T_14 (mkF mM 112 #[.val (.ref a), .val (.long key), .second, .val (.int nd), .val (.int (3 : Int32)), .val (.int (1 : Int32))] [(.ref a)]) _
    refine st_15 _ ?_
    show oS pP eE below T_15 (mkF mM 115 #[.val (.ref a), .val (.long key), .second, .val (.int nd), .val (.int (3 : Int32)), .val (.int (1 : Int32))] [(.ref g)]) _
    refine XS.iload X_15.here hx rfl (hb hby d_prog_33m4_115) rfl ?_
    refine XS.aloadN X_15.here hx rfl (hb hby d_prog_33m4_117) rfl rfl ?_
    show oS pP eE below T_15 (mkF mM 118 #[.val (.ref a), .val (.long key), .second, .val (.int nd), .val (.int (3 : Int32)), .val (.int (1 : Int32))] [(.ref a), (.int (3 : Int32)), (.ref g)]) _
    refine st_16 _ ?_
    show oS pP eE below T_16 (mkF mM 121 #[.val (.ref a), .val (.long key), .second, .val (.int nd), .val (.int (3 : Int32)), .val (.int (1 : Int32))] [(.ref g), (.int (3 : Int32)), (.ref g)]) _
    refine XS.iload X_16.here hx rfl (hb hby d_prog_33m4_121) rfl ?_
    show oS pP eE below T_16 (mkF mM 123 #[.val (.ref a), .val (.long key), .second, .val (.int nd), .val (.int (3 : Int32)), .val (.int (1 : Int32))] [(.int (1 : Int32)), (.ref g), (.int (3 : Int32)), (.ref g)]) _
    refine X_16.iaload hx (j := (1 : Int32)) (v := (.int y1)) (by rw [e_16]; exact Ar_17.1) (State.isArrayOf_alike hZ.alike Ar_17.2.1) Ar_17.2.2 hin_17 hat_17 (g := (mkF mM 123 #[.val (.ref a), .val (.long key), .second, .val (.int nd), .val (.int (3 : Int32)), .val (.int (1 : Int32))] [(.int (1 : Int32)), (.ref g), (.int (3 : Int32)), (.ref g)])) rfl rfl (hb hby d_prog_33m4_123) _ ?_
    show oS pP eE below T_16 (mkF mM 124 #[.val (.ref a), .val (.long key), .second, .val (.int nd), .val (.int (3 : Int32)), .val (.int (1 : Int32))] [(.int y1), (.int (3 : Int32)), (.ref g)]) _
    refine st_18 _ ?_
    show oS pP eE below T_18 (mkF mM 125 #[.val (.ref a), .val (.long key), .second, .val (.int nd), .val (.int (3 : Int32)), .val (.int (1 : Int32))] []) _
    refine XS.iload X_18.here hx rfl (hb hby d_prog_33m4_125) rfl ?_
    refine XS.istore X_18.here hx rfl (hb hby d_prog_33m4_127) rfl (l' := #[.val (.ref a), .val (.long key), .second, .val (.int nd), .val (.int (1 : Int32)), .val (.int (1 : Int32))]) rfl ?_
    refine XS.goto X_18.here hx rfl (pc0 := 129) (pc' := 59) rfl (hb hby d_prog_33m4_129) (by decide) (by decide) ?_
    refine XS.iload X_18.here hx rfl (hb hby d_prog_33m4_59) rfl ?_
    refine XS.ifNo X_18.here hx rfl (hb hby d_prog_33m4_61) rfl (by decide) ?_
    refine XS.iload X_18.here hx rfl (hb hby d_prog_33m4_64) rfl ?_
    refine XS.iconst X_18.here hx rfl (hb hby d_prog_33m4_66) ?_
    show oS pP eE below T_18 (mkF mM 67 #[.val (.ref a), .val (.long key), .second, .val (.int nd), .val (.int (1 : Int32)), .val (.int (1 : Int32))] [(.int (1 : Int32)), (.int (1 : Int32))]) _
    refine XS.isub X_18.here hx rfl (hb hby d_prog_33m4_67) rfl ?_
    show oS pP eE below T_18 (mkF mM 68 #[.val (.ref a), .val (.long key), .second, .val (.int nd), .val (.int (1 : Int32)), .val (.int (1 : Int32))] [(.int ((1 : Int32) - (1 : Int32)))]) _
    rw [(by decide : ((1 : Int32) - (1 : Int32)) = (0 : Int32))]
    refine XS.iconst X_18.here hx rfl (hb hby d_prog_33m4_68) ?_
    show oS pP eE below T_18 (mkF mM 69 #[.val (.ref a), .val (.long key), .second, .val (.int nd), .val (.int (1 : Int32)), .val (.int (1 : Int32))] [(.int (2 : Int32)), (.int (0 : Int32))]) _
    refine XS.idiv X_18.here hx rfl (hb hby d_prog_33m4_69) rfl (by decide) ?_
    show oS pP eE below T_18 (mkF mM 70 #[.val (.ref a), .val (.long key), .second, .val (.int nd), .val (.int (1 : Int32)), .val (.int (1 : Int32))] [(.int ((0 : Int32) / (2 : Int32)))]) _
    rw [(by decide : ((0 : Int32) / (2 : Int32)) = (0 : Int32))]
    refine XS.istore X_18.here hx rfl (hb hby d_prog_33m4_70) rfl (l' := #[.val (.ref a), .val (.long key), .second, .val (.int nd), .val (.int (1 : Int32)), .val (.int (0 : Int32))]) rfl ?_
    refine XT.lloadN X_18.here hx rfl (hb hby d_prog_33m4_72) rfl ?_
    refine XS.iloadN X_18.here hx rfl (hb hby d_prog_33m4_73) rfl ?_
    refine XS.aloadN X_18.here hx rfl (hb hby d_prog_33m4_74) rfl rfl ?_
    show oS pP eE below T_18 (mkF mM 75 #[.val (.ref a), .val (.long key), .second, .val (.int nd), .val (.int (1 : Int32)), .val (.int (0 : Int32))] [(.ref a), (.int nd), (.long key)]) _
    refine st_19 _ ?_
    show oS pP eE below T_19 (mkF mM 78 #[.val (.ref a), .val (.long key), .second, .val (.int nd), .val (.int (1 : Int32)), .val (.int (0 : Int32))] [(.ref d), (.int nd), (.long key)]) _
    refine XS.iload X_19.here hx rfl (hb hby d_prog_33m4_78) rfl ?_
    show oS pP eE below T_19 (mkF mM 80 #[.val (.ref a), .val (.long key), .second, .val (.int nd), .val (.int (1 : Int32)), .val (.int (0 : Int32))] [(.int (0 : Int32)), (.ref d), (.int nd), (.long key)]) _
    refine X_19.laload hx (j := (0 : Int32)) (v := (.long x0)) (by rw [e_19]; exact Ar_20.1) (State.isArrayOf_alike hZ.alike Ar_20.2.1) Ar_20.2.2 hin_20 hat_20 (g := (mkF mM 80 #[.val (.ref a), .val (.long key), .second, .val (.int nd), .val (.int (1 : Int32)), .val (.int (0 : Int32))] [(.int (0 : Int32)), (.ref d), (.int nd), (.long key)])) rfl rfl (hb hby d_prog_33m4_80) _ ?_
    refine XS.aloadN X_19.here hx rfl (hb hby d_prog_33m4_81) rfl rfl ?_
    show oS pP eE below T_19 (mkF mM 82 #[.val (.ref a), .val (.long key), .second, .val (.int nd), .val (.int (1 : Int32)), .val (.int (0 : Int32))] [(.ref a), (.long x0), (.int nd), (.long key)]) _
    refine st_21 _ ?_
    show oS pP eE below T_21 (mkF mM 85 #[.val (.ref a), .val (.long key), .second, .val (.int nd), .val (.int (1 : Int32)), .val (.int (0 : Int32))] [(.ref g), (.long x0), (.int nd), (.long key)]) _
    refine XS.iload X_21.here hx rfl (hb hby d_prog_33m4_85) rfl ?_
    show oS pP eE below T_21 (mkF mM 87 #[.val (.ref a), .val (.long key), .second, .val (.int nd), .val (.int (1 : Int32)), .val (.int (0 : Int32))] [(.int (0 : Int32)), (.ref g), (.long x0), (.int nd), (.long key)]) _
    refine X_21.iaload hx (j := (0 : Int32)) (v := (.int y0)) (by rw [e_21]; exact Ar_22.1) (State.isArrayOf_alike hZ.alike Ar_22.2.1) Ar_22.2.2 hin_22 hat_22 (g := (mkF mM 87 #[.val (.ref a), .val (.long key), .second, .val (.int nd), .val (.int (1 : Int32)), .val (.int (0 : Int32))] [(.int (0 : Int32)), (.ref g), (.long x0), (.int nd), (.long key)])) rfl rfl (hb hby d_prog_33m4_87) _ ?_
    show oS pP eE below T_21 (mkF mM 88 #[.val (.ref a), .val (.long key), .second, .val (.int nd), .val (.int (1 : Int32)), .val (.int (0 : Int32))] [(.int y0), (.long x0), (.int nd), (.long key)]) _
    refine st_23 _ ?_
    show oS pP eE below T_23 (mkF mM 91 #[.val (.ref a), .val (.long key), .second, .val (.int nd), .val (.int (1 : Int32)), .val (.int (0 : Int32))] [(.int (0 : Int32))]) _
    refine XS.ifNo X_23.here hx rfl (hb hby d_prog_33m4_91) rfl (by decide) ?_
    refine XS.goto X_23.here hx rfl (pc0 := 94) (pc' := 132) rfl (hb hby d_prog_33m4_94) (by decide) (by decide) ?_
    refine XS.aloadN X_23.here hx rfl (hb hby d_prog_33m4_132) rfl rfl ?_
    show oS pP eE below T_23 (mkF mM 133 #[.val (.ref a), .val (.long key), .second, .val (.int nd), .val (.int (1 : Int32)), .val (.int (0 : Int32))] [(.ref a)]) _
    refine st_24 _ ?_
    show oS pP eE below T_24 (mkF mM 136 #[.val (.ref a), .val (.long key), .second, .val (.int nd), .val (.int (1 : Int32)), .val (.int (0 : Int32))] [(.ref d)]) _
    refine XS.iload X_24.here hx rfl (hb hby d_prog_33m4_136) rfl ?_
    refine XT.lloadN X_24.here hx rfl (hb hby d_prog_33m4_138) rfl ?_
    show oS pP eE below T_24 (mkF mM 139 #[.val (.ref a), .val (.long key), .second, .val (.int nd), .val (.int (1 : Int32)), .val (.int (0 : Int32))] [(.long key), (.int (1 : Int32)), (.ref d)]) _
    refine st_25 _ ?_
    show oS pP eE below T_25 (mkF mM 140 #[.val (.ref a), .val (.long key), .second, .val (.int nd), .val (.int (1 : Int32)), .val (.int (0 : Int32))] []) _
    refine XS.aloadN X_25.here hx rfl (hb hby d_prog_33m4_140) rfl rfl ?_
    show oS pP eE below T_25 (mkF mM 141 #[.val (.ref a), .val (.long key), .second, .val (.int nd), .val (.int (1 : Int32)), .val (.int (0 : Int32))] [(.ref a)]) _
    refine st_26 _ ?_
    show oS pP eE below T_26 (mkF mM 144 #[.val (.ref a), .val (.long key), .second, .val (.int nd), .val (.int (1 : Int32)), .val (.int (0 : Int32))] [(.ref g)]) _
    refine XS.iload X_26.here hx rfl (hb hby d_prog_33m4_144) rfl ?_
    refine XS.iloadN X_26.here hx rfl (hb hby d_prog_33m4_146) rfl ?_
    show oS pP eE below T_26 (mkF mM 147 #[.val (.ref a), .val (.long key), .second, .val (.int nd), .val (.int (1 : Int32)), .val (.int (0 : Int32))] [(.int nd), (.int (1 : Int32)), (.ref g)]) _
    refine st_27 _ ?_
    show oS pP eE below T_27 (mkF mM 148 #[.val (.ref a), .val (.long key), .second, .val (.int nd), .val (.int (1 : Int32)), .val (.int (0 : Int32))] []) _
    exact X_27.returnOut hx Bd.returns (hb hby d_prog_33m4_148) hr
  · show Q_add3 Z a d g kd kg key nd x0 x1 x2 x3 y0 y1 y2 y3 h0 n0 _ T_27.heap _
    rw [e_27]
    exact ⟨x0, key, x2, x1, y0, nd, y2, y1, rfl, N_27, K_27, ((((Fw_5.other W_14 (Or.inl nad)).other W_18 (Or.inl nag)).other W_25 (Or.inl nad)).other W_27 (Or.inl nag)), (((((F_keys_a.other W_5 (Or.inr (slot_ne (Or.inl (ow hw 12 rfl)) (Or.inl (ow hw 22 rfl)) (by decide) (t := (.array .long)) (t' := .int) (by decide) (by decide)))).other W_14 (Or.inl nad)).other W_18 (Or.inl nag)).other W_25 (Or.inl nad)).other W_27 (Or.inl nag)), (((((F_nodes_a.other W_5 (Or.inr (slot_ne (Or.inl (ow hw 15 rfl)) (Or.inl (ow hw 22 rfl)) (by decide) (t := (.array .int)) (t' := .int) (by decide) (by decide)))).other W_14 (Or.inl nad)).other W_18 (Or.inl nag)).other W_25 (Or.inl nad)).other W_27 (Or.inl nag)), (((((E_a.wr W_5).wr W_14).wr W_18).wr W_25).wr W_27), (V_25.other W_27 ndg), V_27⟩
theorem ef_add3yy_ (mM : MethodId) (x0 : Addr) (x1 : Int64) (x2 : Int32) : entryFrame mM #[(.ref x0), (.long x1), (.int x2)] 6 = mkF mM 0 #[.val (.ref x0), .val (.long x1), .second, .val (.int x2), .unset, .unset] [] := by first | (simp [entryFrame, mkF, argsToLocals, Value.category]; done) | rfl
set_option maxRecDepth 65536 in
set_option maxHeartbeats 40000000 in
theorem rm_add3yy_ (l : Launch) (Z : State) (a0 : Array Value) (hw : ∀ d ∈ tables_1, d.before a0 Z = true) (ws : List Jvm.Cond) (a : Addr) (d : Addr) (g : Addr) (kd : ClassId) (kg : ClassId) (key : Int64) (nd : Int32) (x0 : Int64) (x1 : Int64) (x2 : Int64) (x3 : Int64) (y0 : Int32) (y1 : Int32) (y2 : Int32) (y3 : Int32) (h0 : Heap) (n0 : Nat) (Z0 : n0 ≤ h0.size) (F_size_a : Fld Z h0 a "com/example/greenweft/greenweft/steiner/NodeHeap" "size" "I" (.int (3 : Int32))) (F_keys_a : Fld Z h0 a "com/example/greenweft/greenweft/steiner/NodeHeap" "keys" "[J" (.ref d)) (F_nodes_a : Fld Z h0 a "com/example/greenweft/greenweft/steiner/NodeHeap" "nodes" "[I" (.ref g)) (E_a : Exa Z h0 a "com/example/greenweft/greenweft/steiner/NodeHeap") (g_a : n0 ≤ a) (g_d : n0 ≤ d) (g_g : n0 ≤ g) (V_d : Arv Z h0 d kd .long (16 : Int32) [(.long x0), (.long x1), (.long x2), (.long x3)] (.long (0 : Int64))) (V_g : Arv Z h0 g kg .int (16 : Int32) [(.int y0), (.int y1), (.int y2), (.int y3)] (.int (0 : Int32))) (ndg : d ≠ g) (nad : a ≠ d) (nag : a ≠ g) (hr0 : own_pre key nd x1 y1) (hr1 : own_pre key nd x0 y0) :
    MetFree l (⟨"com/example/greenweft/greenweft/steiner/NodeHeap", "add", "(JI)V"⟩ : MethodName) (head1 (Jvm.Cond.code (⟨"com/example/greenweft/greenweft/steiner/NodeHeap", "add", "(JI)V"⟩ : MethodName) prog_33_method_4_code 6 none :: ws) ({ frames := 1, cells := 0, slots := 0, locals := 17 } : Room)) (fun aa_ U_ => aa_ = #[(.ref a), (.long key), (.int nd)] ∧ Z.Warmed39 U_.vm ∧ U_.heap = h0) (fun _ _ _ _ _ => True) (fun _ U_ o_ U'_ => ∃ v_ L_, o_ = .returned v_ ∧ Q_add3 Z a d g kd kg key nd x0 x1 x2 x3 y0 y1 y2 y3 h0 n0 v_ U'_.heap L_ ∧ FrameEnd U_ o_ U'_ L_ ({ frames := 1, cells := 0, slots := 0, locals := 17 } : Room).cells ({ frames := 1, cells := 0, slots := 0, locals := 17 } : Room).slots) := by
  refine MetFree.of_bodySF (plainFor_of_name pn_0) hisR ?_
  intro pP eE sS mM argsA below meth cC s₁ Bd hml0 hP hK
  obtain ⟨rfl, hZ, hh⟩ := hP
  have hx := Bd.exec
  have hby := Bd.bytes
  have hml : cC.maxLocals = 6 := hml0
  have hown : sS.vm.findClass "com/example/greenweft/greenweft/steiner/NodeHeap" = some mM.cls := findClass_of_methodNamed Bd.named
  have hnm := (name_of_methodNamed Bd.named Bd.method).1
  have X0 : Stand pP l eE ({ frames := 1, cells := 0, slots := 0, locals := 17 } : Room) sS mM #[(.ref a), (.long key), (.int nd)] below meth cC s₁ [] 0 0 := Stand.of_body Bd
  have e0 : s₁.heap = h0 := by rw [← hh, Bd.state]; rfl
  have N0 := Fr.nil n0
  have pre0 : ∀ t_, Steps pP.tables eE below (s₁.setTop (mkF mM 0 #[.val (.ref a), .val (.long key), .second, .val (.int nd), .unset, .unset] [])) t_ → Steps pP.tables eE below (s₁.setTop (entryFrame mM #[(.ref a), (.long key), (.int nd)] 6)) t_ := fun t_ k_ => castTop (ef_add3yy_ mM a key nd) k_
  obtain ⟨T_1, X_1, e_1, st_1⟩ := getF X0 hx hZ hown (host := "") (Or.inl (ow hw 21 rfl)) Via.refl e0 F_size_a (g := (mkF mM 1 #[.val (.ref a), .val (.long key), .second, .val (.int nd), .unset, .unset] [(.ref a)])) rfl rfl (hb hby d_prog_33m4_1)
  obtain ⟨T_2, X_2, e_2, st_2⟩ := getF X_1 hx hZ hown (host := "") (Or.inl (ow hw 11 rfl)) Via.refl e_1 F_keys_a (g := (mkF mM 5 #[.val (.ref a), .val (.long key), .second, .val (.int nd), .unset, .unset] [(.ref a), (.int (3 : Int32))])) rfl rfl (hb hby d_prog_33m4_5)
  obtain ⟨cl_3, Ar_3, -, Sa_3, Na_3, -, -⟩ := id V_d
  obtain ⟨T_4, X_4, e_4, st_4⟩ := getF X_2 hx hZ hown (host := "") (Or.inl (ow hw 21 rfl)) Via.refl e_2 F_size_a (g := (mkF mM 48 #[.val (.ref a), .val (.long key), .second, .val (.int nd), .unset, .unset] [(.ref a), (.ref a)])) rfl rfl (hb hby d_prog_33m4_48)
  obtain ⟨T_5, h_5, X_5, e_5, W_5, st_5⟩ := putF X_4 hx hZ hown (host := "") (Or.inl (ow hw 21 rfl)) Via.refl e_4 F_size_a E_a (Or.inl (ow hw 22 rfl)) (ow hw 2 rfl) (ty := .int) (by decide) rfl rfl (g := (mkF mM 54 #[.val (.ref a), .val (.long key), .second, .val (.int nd), .unset, .unset] [(.int (4 : Int32)), (.ref a), (.int (3 : Int32))])) rfl rfl (hb hby d_prog_33m4_54)
  have Fw_5 := F_size_a.same W_5
  have Z_5 : n0 ≤ h_5.size := (Nat.le_trans Z0 (Keep.of_wr W_5).1)
  have K_5 : Keep h0 h_5 [a, d, g] := (Keep.refl h0 [a, d, g]).wr W_5 (Or.inl (List.mem_of_getElem? (i := 0) rfl))
  have N_5 := Fr.snoc X_5 N0 g_a
  obtain ⟨T_6, X_6, e_6, st_6⟩ := getF X_5 hx hZ hown (host := "") (Or.inl (ow hw 11 rfl)) Via.refl e_5 (F_keys_a.other W_5 (Or.inr (slot_ne (Or.inl (ow hw 12 rfl)) (Or.inl (ow hw 22 rfl)) (by decide) (t := (.array .long)) (t' := .int) (by decide) (by decide)))) (g := (mkF mM 75 #[.val (.ref a), .val (.long key), .second, .val (.int nd), .val (.int (3 : Int32)), .val (.int (1 : Int32))] [(.ref a), (.int nd), (.long key)])) rfl rfl (hb hby d_prog_33m4_75)
  obtain ⟨cl_7, Ar_7, qa_7, Sa_7, Na_7, Ha_7, Ga_7⟩ := id (V_d.other W_5 (Ne.symm nad))
  have hin_7 : ¬ ((1 : Int32) < 0 ∨ cl_7.slots.size ≤ ((1 : Int32)).toNatClampNeg) := inb_of Sa_7 ⟨by decide, by decide⟩
  have hat_7 : cl_7.slots[((1 : Int32)).toNatClampNeg]? = some (.long x1) := Has.at Ha_7 hin_7 rfl
  obtain ⟨T_8, X_8, e_8, st_8⟩ := getF X_6 hx hZ hown (host := "") (Or.inl (ow hw 14 rfl)) Via.refl e_6 (F_nodes_a.other W_5 (Or.inr (slot_ne (Or.inl (ow hw 15 rfl)) (Or.inl (ow hw 22 rfl)) (by decide) (t := (.array .int)) (t' := .int) (by decide) (by decide)))) (g := (mkF mM 82 #[.val (.ref a), .val (.long key), .second, .val (.int nd), .val (.int (3 : Int32)), .val (.int (1 : Int32))] [(.ref a), (.long x1), (.int nd), (.long key)])) rfl rfl (hb hby d_prog_33m4_82)
  obtain ⟨cl_9, Ar_9, qa_9, Sa_9, Na_9, Ha_9, Ga_9⟩ := id (V_g.other W_5 (Ne.symm nag))
  have hin_9 : ¬ ((1 : Int32) < 0 ∨ cl_9.slots.size ≤ ((1 : Int32)).toNatClampNeg) := inb_of Sa_9 ⟨by decide, by decide⟩
  have hat_9 : cl_9.slots[((1 : Int32)).toNatClampNeg]? = some (.int y1) := Has.at Ha_9 hin_9 rfl
  obtain ⟨_, _, ⟨T_10, L_10, k_10, n_10⟩, -, X_10, ⟨Lc_10, hQ_10, l_10, y_10, z_10⟩, st_10⟩ := Jvm.LawKit.callS X_8 hx (y := MN0) hown (mvT hZ (ow hw 33 rfl)) (mvT hZ (ow hw 34 rfl)) (mvT hZ (ow hw 3 rfl)) (mvT hZ (ow hw 35 rfl)) (by decide) (backOf (W := 0) (rm_prc1 l Z a0 hw [] key nd x1 y1 h_5 n0 Z_5 hr0) hZ (ow hw 35 rfl) (ow hw 3 rfl) (by decide) (by decide)) (g := (mkF mM 88 #[.val (.ref a), .val (.long key), .second, .val (.int nd), .val (.int (3 : Int32)), .val (.int (1 : Int32))] [(.int y1), (.long x1), (.int nd), (.long key)])) rfl (by rw [hml]; rfl) (argsL := [(.long key), (.int nd), (.long x1), (.int y1)]) (rest := []) (lenOf pd_0 rfl) rfl (by show 2 * 0 + _ ≤ _; exact Nat.le_of_eq rfl) (hb hby d_prog_33m4_88) (fun _ _ => ⟨rfl, e_8, (by decide : 0 + 0 ≤ _), (by decide : 0 + 0 ≤ _)⟩)
  dsimp only [Pt.U, Pt.locs, Pt.cells, Pt.slots] at X_10 l_10 y_10 z_10 st_10 hQ_10
  subst l_10 y_10 z_10
  obtain ⟨rfl, N_10q, eh_10⟩ := hQ_10
  have N_10 := Fr.app N_5 N_10q
  obtain ⟨T_11, X_11, e_11, st_11⟩ := getF X_10 hx hZ hown (host := "") (Or.inl (ow hw 11 rfl)) Via.refl eh_10 (F_keys_a.other W_5 (Or.inr (slot_ne (Or.inl (ow hw 12 rfl)) (Or.inl (ow hw 22 rfl)) (by decide) (t := (.array .long)) (t' := .int) (by decide) (by decide)))) (g := (mkF mM 98 #[.val (.ref a), .val (.long key), .second, .val (.int nd), .val (.int (3 : Int32)), .val (.int (1 : Int32))] [(.ref a)])) rfl rfl (hb hby d_prog_33m4_98)
  obtain ⟨T_12, X_12, e_12, st_12⟩ := getF X_11 hx hZ hown (host := "") (Or.inl (ow hw 11 rfl)) Via.refl e_11 (F_keys_a.other W_5 (Or.inr (slot_ne (Or.inl (ow hw 12 rfl)) (Or.inl (ow hw 22 rfl)) (by decide) (t := (.array .long)) (t' := .int) (by decide) (by decide)))) (g := (mkF mM 104 #[.val (.ref a), .val (.long key), .second, .val (.int nd), .val (.int (3 : Int32)), .val (.int (1 : Int32))] [(.ref a), (.int (3 : Int32)), (.ref d)])) rfl rfl (hb hby d_prog_33m4_104)
  obtain ⟨cl_13, Ar_13, qa_13, Sa_13, Na_13, Ha_13, Ga_13⟩ := id (V_d.other W_5 (Ne.symm nad))
  have hin_13 : ¬ ((1 : Int32) < 0 ∨ cl_13.slots.size ≤ ((1 : Int32)).toNatClampNeg) := inb_of Sa_13 ⟨by decide, by decide⟩
  have hat_13 : cl_13.slots[((1 : Int32)).toNatClampNeg]? = some (.long x1) := Has.at Ha_13 hin_13 rfl
  obtain ⟨cl_14, Ar_14, qa_14, Sa_14, Na_14, Ha_14, Ga_14⟩ := id (V_d.other W_5 (Ne.symm nad))
  have hin_14 : ¬ ((3 : Int32) < 0 ∨ cl_14.slots.size ≤ ((3 : Int32)).toNatClampNeg) := inb_of Sa_14 ⟨by decide, by decide⟩
  obtain ⟨T_14, h_14, X_14, e_14, W_14, st_14⟩ := stJ X_12 hx hZ e_12 Ar_14 (j := (3 : Int32)) hin_14 (g := (mkF mM 110 #[.val (.ref a), .val (.long key), .second, .val (.int nd), .val (.int (3 : Int32)), .val (.int (1 : Int32))] [(.long x1), (.int (3 : Int32)), (.ref d)])) rfl rfl (hb hby d_prog_33m4_110)
  have V_14 : Arv Z h_14 d kd .long (16 : Int32) [(.long x0), (.long x1), (.long x2), (.long x1)] (.long (0 : Int64)) := Arv.set Ar_14 qa_14 Sa_14 Na_14 Ha_14 Ga_14 rfl W_14 3 rfl (Nat.le_of_ble_eq_true rfl)
  have Z_14 : n0 ≤ h_14.size := (Nat.le_trans Z_5 (Keep.of_wr W_14).1)
  have K_14 : Keep h0 h_14 [a, d, g] := K_5.wr W_14 (Or.inl (List.mem_of_getElem? (i := 1) rfl))
  have N_14 := Fr.snoc X_14 N_10 g_d
  obtain ⟨T_15, X_15, e_15, st_15⟩ := getF X_14 hx hZ hown (host := "") (Or.inl (ow hw 14 rfl)) Via.refl e_14 ((F_nodes_a.other W_5 (Or.inr (slot_ne (Or.inl (ow hw 15 rfl)) (Or.inl (ow hw 22 rfl)) (by decide) (t := (.array .int)) (t' := .int) (by decide) (by decide)))).other W_14 (Or.inl nad)) (g := (mkF mM 112 #[.val (.ref a), .val (.long key), .second, .val (.int nd), .val (.int (3 : Int32)), .val (.int (1 : Int32))] [(.ref a)])) rfl rfl (hb hby d_prog_33m4_112)
  obtain ⟨T_16, X_16, e_16, st_16⟩ := getF X_15 hx hZ hown (host := "") (Or.inl (ow hw 14 rfl)) Via.refl e_15 ((F_nodes_a.other W_5 (Or.inr (slot_ne (Or.inl (ow hw 15 rfl)) (Or.inl (ow hw 22 rfl)) (by decide) (t := (.array .int)) (t' := .int) (by decide) (by decide)))).other W_14 (Or.inl nad)) (g := (mkF mM 118 #[.val (.ref a), .val (.long key), .second, .val (.int nd), .val (.int (3 : Int32)), .val (.int (1 : Int32))] [(.ref a), (.int (3 : Int32)), (.ref g)])) rfl rfl (hb hby d_prog_33m4_118)
  obtain ⟨cl_17, Ar_17, qa_17, Sa_17, Na_17, Ha_17, Ga_17⟩ := id ((V_g.other W_5 (Ne.symm nag)).other W_14 (Ne.symm ndg))
  have hin_17 : ¬ ((1 : Int32) < 0 ∨ cl_17.slots.size ≤ ((1 : Int32)).toNatClampNeg) := inb_of Sa_17 ⟨by decide, by decide⟩
  have hat_17 : cl_17.slots[((1 : Int32)).toNatClampNeg]? = some (.int y1) := Has.at Ha_17 hin_17 rfl
  obtain ⟨cl_18, Ar_18, qa_18, Sa_18, Na_18, Ha_18, Ga_18⟩ := id ((V_g.other W_5 (Ne.symm nag)).other W_14 (Ne.symm ndg))
  have hin_18 : ¬ ((3 : Int32) < 0 ∨ cl_18.slots.size ≤ ((3 : Int32)).toNatClampNeg) := inb_of Sa_18 ⟨by decide, by decide⟩
  obtain ⟨T_18, h_18, X_18, e_18, W_18, st_18⟩ := stI X_16 hx hZ e_16 Ar_18 (j := (3 : Int32)) hin_18 (g := (mkF mM 124 #[.val (.ref a), .val (.long key), .second, .val (.int nd), .val (.int (3 : Int32)), .val (.int (1 : Int32))] [(.int y1), (.int (3 : Int32)), (.ref g)])) rfl rfl (hb hby d_prog_33m4_124)
  have V_18 : Arv Z h_18 g kg .int (16 : Int32) [(.int y0), (.int y1), (.int y2), (.int y1)] (.int (0 : Int32)) := Arv.set Ar_18 qa_18 Sa_18 Na_18 Ha_18 Ga_18 rfl W_18 3 rfl (Nat.le_of_ble_eq_true rfl)
  have Z_18 : n0 ≤ h_18.size := (Nat.le_trans Z_14 (Keep.of_wr W_18).1)
  have K_18 : Keep h0 h_18 [a, d, g] := K_14.wr W_18 (Or.inl (List.mem_of_getElem? (i := 2) rfl))
  have N_18 := Fr.snoc X_18 N_14 g_g
  obtain ⟨T_19, X_19, e_19, st_19⟩ := getF X_18 hx hZ hown (host := "") (Or.inl (ow hw 11 rfl)) Via.refl e_18 (((F_keys_a.other W_5 (Or.inr (slot_ne (Or.inl (ow hw 12 rfl)) (Or.inl (ow hw 22 rfl)) (by decide) (t := (.array .long)) (t' := .int) (by decide) (by decide)))).other W_14 (Or.inl nad)).other W_18 (Or.inl nag)) (g := (mkF mM 75 #[.val (.ref a), .val (.long key), .second, .val (.int nd), .val (.int (1 : Int32)), .val (.int (0 : Int32))] [(.ref a), (.int nd), (.long key)])) rfl rfl (hb hby d_prog_33m4_75)
  obtain ⟨cl_20, Ar_20, qa_20, Sa_20, Na_20, Ha_20, Ga_20⟩ := id (V_14.other W_18 ndg)
  have hin_20 : ¬ ((0 : Int32) < 0 ∨ cl_20.slots.size ≤ ((0 : Int32)).toNatClampNeg) := inb_of Sa_20 ⟨by decide, by decide⟩
  have hat_20 : cl_20.slots[((0 : Int32)).toNatClampNeg]? = some (.long x0) := Has.at Ha_20 hin_20 rfl
  obtain ⟨T_21, X_21, e_21, st_21⟩ := getF X_19 hx hZ hown (host := "") (Or.inl (ow hw 14 rfl)) Via.refl e_19 (((F_nodes_a.other W_5 (Or.inr (slot_ne (Or.inl (ow hw 15 rfl)) (Or.inl (ow hw 22 rfl)) (by decide) (t := (.array .int)) (t' := .int) (by decide) (by decide)))).other W_14 (Or.inl nad)).other W_18 (Or.inl nag)) (g := (mkF mM 82 #[.val (.ref a), .val (.long key), .second, .val (.int nd), .val (.int (1 : Int32)), .val (.int (0 : Int32))] [(.ref a), (.long x0), (.int nd), (.long key)])) rfl rfl (hb hby d_prog_33m4_82)
  obtain ⟨cl_22, Ar_22, qa_22, Sa_22, Na_22, Ha_22, Ga_22⟩ := id V_18
  have hin_22 : ¬ ((0 : Int32) < 0 ∨ cl_22.slots.size ≤ ((0 : Int32)).toNatClampNeg) := inb_of Sa_22 ⟨by decide, by decide⟩
  have hat_22 : cl_22.slots[((0 : Int32)).toNatClampNeg]? = some (.int y0) := Has.at Ha_22 hin_22 rfl
  obtain ⟨_, _, ⟨T_23, L_23, k_23, n_23⟩, -, X_23, ⟨Lc_23, hQ_23, l_23, y_23, z_23⟩, st_23⟩ := Jvm.LawKit.callS X_21 hx (y := MN0) hown (mvT hZ (ow hw 33 rfl)) (mvT hZ (ow hw 34 rfl)) (mvT hZ (ow hw 3 rfl)) (mvT hZ (ow hw 35 rfl)) (by decide) (backOf (W := 0) (rm_prc1 l Z a0 hw [] key nd x0 y0 h_18 n0 Z_18 hr1) hZ (ow hw 35 rfl) (ow hw 3 rfl) (by decide) (by decide)) (g := (mkF mM 88 #[.val (.ref a), .val (.long key), .second, .val (.int nd), .val (.int (1 : Int32)), .val (.int (0 : Int32))] [(.int y0), (.long x0), (.int nd), (.long key)])) rfl (by rw [hml]; rfl) (argsL := [(.long key), (.int nd), (.long x0), (.int y0)]) (rest := []) (lenOf pd_0 rfl) rfl (by show 2 * 0 + _ ≤ _; exact Nat.le_of_eq rfl) (hb hby d_prog_33m4_88) (fun _ _ => ⟨rfl, e_21, (by decide : 0 + 0 ≤ _), (by decide : 0 + 0 ≤ _)⟩)
  dsimp only [Pt.U, Pt.locs, Pt.cells, Pt.slots] at X_23 l_23 y_23 z_23 st_23 hQ_23
  subst l_23 y_23 z_23
  obtain ⟨rfl, N_23q, eh_23⟩ := hQ_23
  have N_23 := Fr.app N_18 N_23q
  obtain ⟨T_24, X_24, e_24, st_24⟩ := getF X_23 hx hZ hown (host := "") (Or.inl (ow hw 11 rfl)) Via.refl eh_23 (((F_keys_a.other W_5 (Or.inr (slot_ne (Or.inl (ow hw 12 rfl)) (Or.inl (ow hw 22 rfl)) (by decide) (t := (.array .long)) (t' := .int) (by decide) (by decide)))).other W_14 (Or.inl nad)).other W_18 (Or.inl nag)) (g := (mkF mM 98 #[.val (.ref a), .val (.long key), .second, .val (.int nd), .val (.int (1 : Int32)), .val (.int (0 : Int32))] [(.ref a)])) rfl rfl (hb hby d_prog_33m4_98)
  obtain ⟨T_25, X_25, e_25, st_25⟩ := getF X_24 hx hZ hown (host := "") (Or.inl (ow hw 11 rfl)) Via.refl e_24 (((F_keys_a.other W_5 (Or.inr (slot_ne (Or.inl (ow hw 12 rfl)) (Or.inl (ow hw 22 rfl)) (by decide) (t := (.array .long)) (t' := .int) (by decide) (by decide)))).other W_14 (Or.inl nad)).other W_18 (Or.inl nag)) (g := (mkF mM 104 #[.val (.ref a), .val (.long key), .second, .val (.int nd), .val (.int (1 : Int32)), .val (.int (0 : Int32))] [(.ref a), (.int (1 : Int32)), (.ref d)])) rfl rfl (hb hby d_prog_33m4_104)
  obtain ⟨cl_26, Ar_26, qa_26, Sa_26, Na_26, Ha_26, Ga_26⟩ := id (V_14.other W_18 ndg)
  have hin_26 : ¬ ((0 : Int32) < 0 ∨ cl_26.slots.size ≤ ((0 : Int32)).toNatClampNeg) := inb_of Sa_26 ⟨by decide, by decide⟩
  have hat_26 : cl_26.slots[((0 : Int32)).toNatClampNeg]? = some (.long x0) := Has.at Ha_26 hin_26 rfl
  obtain ⟨cl_27, Ar_27, qa_27, Sa_27, Na_27, Ha_27, Ga_27⟩ := id (V_14.other W_18 ndg)
  have hin_27 : ¬ ((1 : Int32) < 0 ∨ cl_27.slots.size ≤ ((1 : Int32)).toNatClampNeg) := inb_of Sa_27 ⟨by decide, by decide⟩
  obtain ⟨T_27, h_27, X_27, e_27, W_27, st_27⟩ := stJ X_25 hx hZ e_25 Ar_27 (j := (1 : Int32)) hin_27 (g := (mkF mM 110 #[.val (.ref a), .val (.long key), .second, .val (.int nd), .val (.int (1 : Int32)), .val (.int (0 : Int32))] [(.long x0), (.int (1 : Int32)), (.ref d)])) rfl rfl (hb hby d_prog_33m4_110)
  have V_27 : Arv Z h_27 d kd .long (16 : Int32) [(.long x0), (.long x0), (.long x2), (.long x1)] (.long (0 : Int64)) := Arv.set Ar_27 qa_27 Sa_27 Na_27 Ha_27 Ga_27 rfl W_27 1 rfl (Nat.le_of_ble_eq_true rfl)
  have Z_27 : n0 ≤ h_27.size := (Nat.le_trans Z_18 (Keep.of_wr W_27).1)
  have K_27 : Keep h0 h_27 [a, d, g] := K_18.wr W_27 (Or.inl (List.mem_of_getElem? (i := 1) rfl))
  have N_27 := Fr.snoc X_27 N_23 g_d
  obtain ⟨T_28, X_28, e_28, st_28⟩ := getF X_27 hx hZ hown (host := "") (Or.inl (ow hw 14 rfl)) Via.refl e_27 ((((F_nodes_a.other W_5 (Or.inr (slot_ne (Or.inl (ow hw 15 rfl)) (Or.inl (ow hw 22 rfl)) (by decide) (t := (.array .int)) (t' := .int) (by decide) (by decide)))).other W_14 (Or.inl nad)).other W_18 (Or.inl nag)).other W_27 (Or.inl nad)) (g := (mkF mM 112 #[.val (.ref a), .val (.long key), .second, .val (.int nd), .val (.int (1 : Int32)), .val (.int (0 : Int32))] [(.ref a)])) rfl rfl (hb hby d_prog_33m4_112)
  obtain ⟨T_29, X_29, e_29, st_29⟩ := getF X_28 hx hZ hown (host := "") (Or.inl (ow hw 14 rfl)) Via.refl e_28 ((((F_nodes_a.other W_5 (Or.inr (slot_ne (Or.inl (ow hw 15 rfl)) (Or.inl (ow hw 22 rfl)) (by decide) (t := (.array .int)) (t' := .int) (by decide) (by decide)))).other W_14 (Or.inl nad)).other W_18 (Or.inl nag)).other W_27 (Or.inl nad)) (g := (mkF mM 118 #[.val (.ref a), .val (.long key), .second, .val (.int nd), .val (.int (1 : Int32)), .val (.int (0 : Int32))] [(.ref a), (.int (1 : Int32)), (.ref g)])) rfl rfl (hb hby d_prog_33m4_118)
  obtain ⟨cl_30, Ar_30, qa_30, Sa_30, Na_30, Ha_30, Ga_30⟩ := id (V_18.other W_27 (Ne.symm ndg))
  have hin_30 : ¬ ((0 : Int32) < 0 ∨ cl_30.slots.size ≤ ((0 : Int32)).toNatClampNeg) := inb_of Sa_30 ⟨by decide, by decide⟩
  have hat_30 : cl_30.slots[((0 : Int32)).toNatClampNeg]? = some (.int y0) := Has.at Ha_30 hin_30 rfl
  obtain ⟨cl_31, Ar_31, qa_31, Sa_31, Na_31, Ha_31, Ga_31⟩ := id (V_18.other W_27 (Ne.symm ndg))
  have hin_31 : ¬ ((1 : Int32) < 0 ∨ cl_31.slots.size ≤ ((1 : Int32)).toNatClampNeg) := inb_of Sa_31 ⟨by decide, by decide⟩
  obtain ⟨T_31, h_31, X_31, e_31, W_31, st_31⟩ := stI X_29 hx hZ e_29 Ar_31 (j := (1 : Int32)) hin_31 (g := (mkF mM 124 #[.val (.ref a), .val (.long key), .second, .val (.int nd), .val (.int (1 : Int32)), .val (.int (0 : Int32))] [(.int y0), (.int (1 : Int32)), (.ref g)])) rfl rfl (hb hby d_prog_33m4_124)
  have V_31 : Arv Z h_31 g kg .int (16 : Int32) [(.int y0), (.int y0), (.int y2), (.int y1)] (.int (0 : Int32)) := Arv.set Ar_31 qa_31 Sa_31 Na_31 Ha_31 Ga_31 rfl W_31 1 rfl (Nat.le_of_ble_eq_true rfl)
  have Z_31 : n0 ≤ h_31.size := (Nat.le_trans Z_27 (Keep.of_wr W_31).1)
  have K_31 : Keep h0 h_31 [a, d, g] := K_27.wr W_31 (Or.inl (List.mem_of_getElem? (i := 2) rfl))
  have N_31 := Fr.snoc X_31 N_27 g_g
  obtain ⟨T_32, X_32, e_32, st_32⟩ := getF X_31 hx hZ hown (host := "") (Or.inl (ow hw 11 rfl)) Via.refl e_31 (((((F_keys_a.other W_5 (Or.inr (slot_ne (Or.inl (ow hw 12 rfl)) (Or.inl (ow hw 22 rfl)) (by decide) (t := (.array .long)) (t' := .int) (by decide) (by decide)))).other W_14 (Or.inl nad)).other W_18 (Or.inl nag)).other W_27 (Or.inl nad)).other W_31 (Or.inl nag)) (g := (mkF mM 133 #[.val (.ref a), .val (.long key), .second, .val (.int nd), .val (.int (0 : Int32)), .val (.int (0 : Int32))] [(.ref a)])) rfl rfl (hb hby d_prog_33m4_133)
  obtain ⟨cl_33, Ar_33, qa_33, Sa_33, Na_33, Ha_33, Ga_33⟩ := id (V_27.other W_31 ndg)
  have hin_33 : ¬ ((0 : Int32) < 0 ∨ cl_33.slots.size ≤ ((0 : Int32)).toNatClampNeg) := inb_of Sa_33 ⟨by decide, by decide⟩
  obtain ⟨T_33, h_33, X_33, e_33, W_33, st_33⟩ := stJ X_32 hx hZ e_32 Ar_33 (j := (0 : Int32)) hin_33 (g := (mkF mM 139 #[.val (.ref a), .val (.long key), .second, .val (.int nd), .val (.int (0 : Int32)), .val (.int (0 : Int32))] [(.long key), (.int (0 : Int32)), (.ref d)])) rfl rfl (hb hby d_prog_33m4_139)
  have V_33 : Arv Z h_33 d kd .long (16 : Int32) [(.long key), (.long x0), (.long x2), (.long x1)] (.long (0 : Int64)) := Arv.set Ar_33 qa_33 Sa_33 Na_33 Ha_33 Ga_33 rfl W_33 0 rfl (Nat.le_of_ble_eq_true rfl)
  have Z_33 : n0 ≤ h_33.size := (Nat.le_trans Z_31 (Keep.of_wr W_33).1)
  have K_33 : Keep h0 h_33 [a, d, g] := K_31.wr W_33 (Or.inl (List.mem_of_getElem? (i := 1) rfl))
  have N_33 := Fr.snoc X_33 N_31 g_d
  obtain ⟨T_34, X_34, e_34, st_34⟩ := getF X_33 hx hZ hown (host := "") (Or.inl (ow hw 14 rfl)) Via.refl e_33 ((((((F_nodes_a.other W_5 (Or.inr (slot_ne (Or.inl (ow hw 15 rfl)) (Or.inl (ow hw 22 rfl)) (by decide) (t := (.array .int)) (t' := .int) (by decide) (by decide)))).other W_14 (Or.inl nad)).other W_18 (Or.inl nag)).other W_27 (Or.inl nad)).other W_31 (Or.inl nag)).other W_33 (Or.inl nad)) (g := (mkF mM 141 #[.val (.ref a), .val (.long key), .second, .val (.int nd), .val (.int (0 : Int32)), .val (.int (0 : Int32))] [(.ref a)])) rfl rfl (hb hby d_prog_33m4_141)
  obtain ⟨cl_35, Ar_35, qa_35, Sa_35, Na_35, Ha_35, Ga_35⟩ := id (V_31.other W_33 (Ne.symm ndg))
  have hin_35 : ¬ ((0 : Int32) < 0 ∨ cl_35.slots.size ≤ ((0 : Int32)).toNatClampNeg) := inb_of Sa_35 ⟨by decide, by decide⟩
  obtain ⟨T_35, h_35, X_35, e_35, W_35, st_35⟩ := stI X_34 hx hZ e_34 Ar_35 (j := (0 : Int32)) hin_35 (g := (mkF mM 147 #[.val (.ref a), .val (.long key), .second, .val (.int nd), .val (.int (0 : Int32)), .val (.int (0 : Int32))] [(.int nd), (.int (0 : Int32)), (.ref g)])) rfl rfl (hb hby d_prog_33m4_147)
  have V_35 : Arv Z h_35 g kg .int (16 : Int32) [(.int nd), (.int y0), (.int y2), (.int y1)] (.int (0 : Int32)) := Arv.set Ar_35 qa_35 Sa_35 Na_35 Ha_35 Ga_35 rfl W_35 0 rfl (Nat.le_of_ble_eq_true rfl)
  have Z_35 : n0 ≤ h_35.size := (Nat.le_trans Z_33 (Keep.of_wr W_35).1)
  have K_35 : Keep h0 h_35 [a, d, g] := K_33.wr W_35 (Or.inl (List.mem_of_getElem? (i := 2) rfl))
  have N_35 := Fr.snoc X_35 N_33 g_g
  obtain ⟨fs, hr, hrun, hended, hW, hsame⟩ := X_35.leave (v := none) (fun _ => rfl)
  refine ⟨_, _, pre0 _ ?_, hrun, hended, _, _, rfl, ?_, ⟨_, rfl⟩, hW, hsame.mono (by decide) (by decide)⟩
  · show oS pP eE below s₁ (mkF mM 0 #[.val (.ref a), .val (.long key), .second, .val (.int nd), .unset, .unset] []) _
    refine XS.aloadN X0.here hx rfl (hb hby d_prog_33m4_0) rfl rfl ?_
    show oS pP eE below s₁ (mkF mM 1 #[.val (.ref a), .val (.long key), .second, .val (.int nd), .unset, .unset] [(.ref a)]) _
    refine st_1 _ ?_
    show oS pP eE below T_1 (mkF mM 4 #[.val (.ref a), .val (.long key), .second, .val (.int nd), .unset, .unset] [(.int (3 : Int32))]) _
    refine XS.aloadN X_1.here hx rfl (hb hby d_prog_33m4_4) rfl rfl ?_
    show oS pP eE below T_1 (mkF mM 5 #[.val (.ref a), .val (.long key), .second, .val (.int nd), .unset, .unset] [(.ref a), (.int (3 : Int32))]) _
    refine st_2 _ ?_
    show oS pP eE below T_2 (mkF mM 8 #[.val (.ref a), .val (.long key), .second, .val (.int nd), .unset, .unset] [(.ref d), (.int (3 : Int32))]) _
    refine X_2.arraylength hx (by rw [e_2]; exact Ar_3.1) (State.isArrayOf_alike hZ.alike Ar_3.2.1) (g := (mkF mM 8 #[.val (.ref a), .val (.long key), .second, .val (.int nd), .unset, .unset] [(.ref d), (.int (3 : Int32))])) rfl rfl (hb hby d_prog_33m4_8) _ ?_
    rw [len_of Sa_3 Na_3]
    refine XS.icmpYes X_2.here hx rfl (pc0 := 9) (pc' := 46) rfl (hb hby d_prog_33m4_9) rfl (by decide) (by decide) (by decide) ?_
    refine XS.aloadN X_2.here hx rfl (hb hby d_prog_33m4_46) rfl rfl ?_
    refine XS.dup X_2.here hx rfl (hb hby d_prog_33m4_47) rfl rfl ?_
    show oS pP eE below T_2 (mkF mM 48 #[.val (.ref a), .val (.long key), .second, .val (.int nd), .unset, .unset] [(.ref a), (.ref a)]) _
    refine st_4 _ ?_
    show oS pP eE below T_4 (mkF mM 51 #[.val (.ref a), .val (.long key), .second, .val (.int nd), .unset, .unset] [(.int (3 : Int32)), (.ref a)]) _
    refine XT.dupX1 X_4.here hx rfl (hb hby d_prog_33m4_51) rfl rfl rfl ?_
    refine XS.iconst X_4.here hx rfl (hb hby d_prog_33m4_52) ?_
    show oS pP eE below T_4 (mkF mM 53 #[.val (.ref a), .val (.long key), .second, .val (.int nd), .unset, .unset] [(.int (1 : Int32)), (.int (3 : Int32)), (.ref a), (.int (3 : Int32))]) _
    refine XS.iadd X_4.here hx rfl (hb hby d_prog_33m4_53) rfl ?_
    show oS pP eE below T_4 (mkF mM 54 #[.val (.ref a), .val (.long key), .second, .val (.int nd), .unset, .unset] [(.int ((3 : Int32) + (1 : Int32))), (.ref a), (.int (3 : Int32))]) _
    rw [(by decide : ((3 : Int32) + (1 : Int32)) = (4 : Int32))]
    show oS pP eE below T_4 (mkF mM 54 #[.val (.ref a), .val (.long key), .second, .val (.int nd), .unset, .unset] [(.int (4 : Int32)), (.ref a), (.int (3 : Int32))]) _
    refine st_5 _ ?_
    show oS pP eE below T_5 (mkF mM 57 #[.val (.ref a), .val (.long key), .second, .val (.int nd), .unset, .unset] [(.int (3 : Int32))]) _
    refine XS.istore X_5.here hx rfl (hb hby d_prog_33m4_57) rfl (l' := #[.val (.ref a), .val (.long key), .second, .val (.int nd), .val (.int (3 : Int32)), .unset]) rfl ?_
    refine XS.iload X_5.here hx rfl (hb hby d_prog_33m4_59) rfl ?_
    refine XS.ifNo X_5.here hx rfl (hb hby d_prog_33m4_61) rfl (by decide) ?_
    refine XS.iload X_5.here hx rfl (hb hby d_prog_33m4_64) rfl ?_
    refine XS.iconst X_5.here hx rfl (hb hby d_prog_33m4_66) ?_
    show oS pP eE below T_5 (mkF mM 67 #[.val (.ref a), .val (.long key), .second, .val (.int nd), .val (.int (3 : Int32)), .unset] [(.int (1 : Int32)), (.int (3 : Int32))]) _
    refine XS.isub X_5.here hx rfl (hb hby d_prog_33m4_67) rfl ?_
    show oS pP eE below T_5 (mkF mM 68 #[.val (.ref a), .val (.long key), .second, .val (.int nd), .val (.int (3 : Int32)), .unset] [(.int ((3 : Int32) - (1 : Int32)))]) _
    rw [(by decide : ((3 : Int32) - (1 : Int32)) = (2 : Int32))]
    refine XS.iconst X_5.here hx rfl (hb hby d_prog_33m4_68) ?_
    show oS pP eE below T_5 (mkF mM 69 #[.val (.ref a), .val (.long key), .second, .val (.int nd), .val (.int (3 : Int32)), .unset] [(.int (2 : Int32)), (.int (2 : Int32))]) _
    refine XS.idiv X_5.here hx rfl (hb hby d_prog_33m4_69) rfl (by decide) ?_
    show oS pP eE below T_5 (mkF mM 70 #[.val (.ref a), .val (.long key), .second, .val (.int nd), .val (.int (3 : Int32)), .unset] [(.int ((2 : Int32) / (2 : Int32)))]) _
    rw [(by decide : ((2 : Int32) / (2 : Int32)) = (1 : Int32))]
    refine XS.istore X_5.here hx rfl (hb hby d_prog_33m4_70) rfl (l' := #[.val (.ref a), .val (.long key), .second, .val (.int nd), .val (.int (3 : Int32)), .val (.int (1 : Int32))]) rfl ?_
    refine XT.lloadN X_5.here hx rfl (hb hby d_prog_33m4_72) rfl ?_
    refine XS.iloadN X_5.here hx rfl (hb hby d_prog_33m4_73) rfl ?_
    refine XS.aloadN X_5.here hx rfl (hb hby d_prog_33m4_74) rfl rfl ?_
    show oS pP eE below T_5 (mkF mM 75 #[.val (.ref a), .val (.long key), .second, .val (.int nd), .val (.int (3 : Int32)), .val (.int (1 : Int32))] [(.ref a), (.int nd), (.long key)]) _
    refine st_6 _ ?_
    show oS pP eE below T_6 (mkF mM 78 #[.val (.ref a), .val (.long key), .second, .val (.int nd), .val (.int (3 : Int32)), .val (.int (1 : Int32))] [(.ref d), (.int nd), (.long key)]) _
    refine XS.iload X_6.here hx rfl (hb hby d_prog_33m4_78) rfl ?_
    show oS pP eE below T_6 (mkF mM 80 #[.val (.ref a), .val (.long key), .second, .val (.int nd), .val (.int (3 : Int32)), .val (.int (1 : Int32))] [(.int (1 : Int32)), (.ref d), (.int nd), (.long key)]) _
    refine X_6.laload hx (j := (1 : Int32)) (v := (.long x1)) (by rw [e_6]; exact Ar_7.1) (State.isArrayOf_alike hZ.alike Ar_7.2.1) Ar_7.2.2 hin_7 hat_7 (g := (mkF mM 80 #[.val (.ref a), .val (.long key), .second, .val (.int nd), .val (.int (3 : Int32)), .val (.int (1 : Int32))] [(.int (1 : Int32)), (.ref d), (.int nd), (.long key)])) rfl rfl (hb hby d_prog_33m4_80) _ ?_
    refine XS.aloadN X_6.here hx rfl (hb hby d_prog_33m4_81) rfl rfl ?_
    show oS pP eE below T_6 (mkF mM 82 #[.val (.ref a), .val (.long key), .second, .val (.int nd), .val (.int (3 : Int32)), .val (.int (1 : Int32))] [(.ref a), (.long x1), (.int nd), (.long key)]) _
    refine st_8 _ ?_
    show oS pP eE below T_8 (mkF mM 85 #[.val (.ref a), .val (.long key), .second, .val (.int nd), .val (.int (3 : Int32)), .val (.int (1 : Int32))] [(.ref g), (.long x1), (.int nd), (.long key)]) _
    refine XS.iload X_8.here hx rfl (hb hby d_prog_33m4_85) rfl ?_
    show oS pP eE below T_8 (mkF mM 87 #[.val (.ref a), .val (.long key), .second, .val (.int nd), .val (.int (3 : Int32)), .val (.int (1 : Int32))] [(.int (1 : Int32)), (.ref g), (.long x1), (.int nd), (.long key)]) _
    refine X_8.iaload hx (j := (1 : Int32)) (v := (.int y1)) (by rw [e_8]; exact Ar_9.1) (State.isArrayOf_alike hZ.alike Ar_9.2.1) Ar_9.2.2 hin_9 hat_9 (g := (mkF mM 87 #[.val (.ref a), .val (.long key), .second, .val (.int nd), .val (.int (3 : Int32)), .val (.int (1 : Int32))] [(.int (1 : Int32)), (.ref g), (.long x1), (.int nd), (.long key)])) rfl rfl (hb hby d_prog_33m4_87) _ ?_
    show oS pP eE below T_8 (mkF mM 88 #[.val (.ref a), .val (.long key), .second, .val (.int nd), .val (.int (3 : Int32)), .val (.int (1 : Int32))] [(.int y1), (.long x1), (.int nd), (.long key)]) _
    refine st_10 _ ?_
    show oS pP eE below T_10 (mkF mM 91 #[.val (.ref a), .val (.long key), .second, .val (.int nd), .val (.int (3 : Int32)), .val (.int (1 : Int32))] [(.int (1 : Int32))]) _
    refine XS.ifYes X_10.here hx rfl (pc0 := 91) (pc' := 97) rfl (hb hby d_prog_33m4_91) rfl (by decide) (by decide) (by decide) ?_
    refine XS.aloadN X_10.here hx rfl (hb hby d_prog_33m4_97) rfl rfl ?_
    show oS pP eE below T_10 (mkF mM 98 #[.val (.ref a), .val (.long key), .second, .val (.int nd), .val (.int (3 : Int32)), .val (.int (1 : Int32))] [(.ref a)]) _
    refine st_11 _ ?_
    show oS pP eE below T_11 (mkF mM 101 #[.val (.ref a), .val (.long key), .second, .val (.int nd), .val (.int (3 : Int32)), .val (.int (1 : Int32))] [(.ref d)]) _
    refine XS.iload X_11.here hx rfl (hb hby d_prog_33m4_101) rfl ?_
    refine XS.aloadN X_11.here hx rfl (hb hby d_prog_33m4_103) rfl rfl ?_
    show oS pP eE below T_11 (mkF mM 104 #[.val (.ref a), .val (.long key), .second, .val (.int nd), .val (.int (3 : Int32)), .val (.int (1 : Int32))] [(.ref a), (.int (3 : Int32)), (.ref d)]) _
    refine st_12 _ ?_
    show oS pP eE below T_12 (mkF mM 107 #[.val (.ref a), .val (.long key), .second, .val (.int nd), .val (.int (3 : Int32)), .val (.int (1 : Int32))] [(.ref d), (.int (3 : Int32)), (.ref d)]) _
    refine XS.iload X_12.here hx rfl (hb hby d_prog_33m4_107) rfl ?_
    show oS pP eE below T_12 (mkF mM 109 #[.val (.ref a), .val (.long key), .second, .val (.int nd), .val (.int (3 : Int32)), .val (.int (1 : Int32))] [(.int (1 : Int32)), (.ref d), (.int (3 : Int32)), (.ref d)]) _
    refine X_12.laload hx (j := (1 : Int32)) (v := (.long x1)) (by rw [e_12]; exact Ar_13.1) (State.isArrayOf_alike hZ.alike Ar_13.2.1) Ar_13.2.2 hin_13 hat_13 (g := (mkF mM 109 #[.val (.ref a), .val (.long key), .second, .val (.int nd), .val (.int (3 : Int32)), .val (.int (1 : Int32))] [(.int (1 : Int32)), (.ref d), (.int (3 : Int32)), (.ref d)])) rfl rfl (hb hby d_prog_33m4_109) _ ?_
    show oS pP eE below T_12 (mkF mM 110 #[.val (.ref a), .val (.long key), .second, .val (.int nd), .val (.int (3 : Int32)), .val (.int (1 : Int32))] [(.long x1), (.int (3 : Int32)), (.ref d)]) _
    refine st_14 _ ?_
    show oS pP eE below T_14 (mkF mM 111 #[.val (.ref a), .val (.long key), .second, .val (.int nd), .val (.int (3 : Int32)), .val (.int (1 : Int32))] []) _
    refine XS.aloadN X_14.here hx rfl (hb hby d_prog_33m4_111) rfl rfl ?_
    show oS pP eE below T_14 (mkF mM 112 #[.val (.ref a), .val (.long key), .second, .val (.int nd), .val (.int (3 : Int32)), .val (.int (1 : Int32))] [(.ref a)]) _
    refine st_15 _ ?_
    show oS pP eE below T_15 (mkF mM 115 #[.val (.ref a), .val (.long key), .second, .val (.int nd), .val (.int (3 : Int32)), .val (.int (1 : Int32))] [(.ref g)]) _
    refine XS.iload X_15.here hx rfl (hb hby d_prog_33m4_115) rfl ?_
    refine XS.aloadN X_15.here hx rfl (hb hby d_prog_33m4_117) rfl rfl ?_
    show oS pP eE below T_15 (mkF mM 118 #[.val (.ref a), .val (.long key), .second, .val (.int nd), .val (.int (3 : Int32)), .val (.int (1 : Int32))] [(.ref a), (.int (3 : Int32)), (.ref g)]) _
    refine st_16 _ ?_
    show oS pP eE below T_16 (mkF mM 121 #[.val (.ref a), .val (.long key), .second, .val (.int nd), .val (.int (3 : Int32)), .val (.int (1 : Int32))] [(.ref g), (.int (3 : Int32)), (.ref g)]) _
    refine XS.iload X_16.here hx rfl (hb hby d_prog_33m4_121) rfl ?_
    show oS pP eE below T_16 (mkF mM 123 #[.val (.ref a), .val (.long key), .second, .val (.int nd), .val (.int (3 : Int32)), .val (.int (1 : Int32))] [(.int (1 : Int32)), (.ref g), (.int (3 : Int32)), (.ref g)]) _
    refine X_16.iaload hx (j := (1 : Int32)) (v := (.int y1)) (by rw [e_16]; exact Ar_17.1) (State.isArrayOf_alike hZ.alike Ar_17.2.1) Ar_17.2.2 hin_17 hat_17 (g := (mkF mM 123 #[.val (.ref a), .val (.long key), .second, .val (.int nd), .val (.int (3 : Int32)), .val (.int (1 : Int32))] [(.int (1 : Int32)), (.ref g), (.int (3 : Int32)), (.ref g)])) rfl rfl (hb hby d_prog_33m4_123) _ ?_
    show oS pP eE below T_16 (mkF mM 124 #[.val (.ref a), .val (.long key), .second, .val (.int nd), .val (.int (3 : Int32)), .val (.int (1 : Int32))] [(.int y1), (.int (3 : Int32)), (.ref g)]) _
    refine st_18 _ ?_
    show oS pP eE below T_18 (mkF mM 125 #[.val (.ref a), .val (.long key), .second, .val (.int nd), .val (.int (3 : Int32)), .val (.int (1 : Int32))] []) _
    refine XS.iload X_18.here hx rfl (hb hby d_prog_33m4_125) rfl ?_
    refine XS.istore X_18.here hx rfl (hb hby d_prog_33m4_127) rfl (l' := #[.val (.ref a), .val (.long key), .second, .val (.int nd), .val (.int (1 : Int32)), .val (.int (1 : Int32))]) rfl ?_
    refine XS.goto X_18.here hx rfl (pc0 := 129) (pc' := 59) rfl (hb hby d_prog_33m4_129) (by decide) (by decide) ?_
    refine XS.iload X_18.here hx rfl (hb hby d_prog_33m4_59) rfl ?_
    refine XS.ifNo X_18.here hx rfl (hb hby d_prog_33m4_61) rfl (by decide) ?_
    refine XS.iload X_18.here hx rfl (hb hby d_prog_33m4_64) rfl ?_
    refine XS.iconst X_18.here hx rfl (hb hby d_prog_33m4_66) ?_
    show oS pP eE below T_18 (mkF mM 67 #[.val (.ref a), .val (.long key), .second, .val (.int nd), .val (.int (1 : Int32)), .val (.int (1 : Int32))] [(.int (1 : Int32)), (.int (1 : Int32))]) _
    refine XS.isub X_18.here hx rfl (hb hby d_prog_33m4_67) rfl ?_
    show oS pP eE below T_18 (mkF mM 68 #[.val (.ref a), .val (.long key), .second, .val (.int nd), .val (.int (1 : Int32)), .val (.int (1 : Int32))] [(.int ((1 : Int32) - (1 : Int32)))]) _
    rw [(by decide : ((1 : Int32) - (1 : Int32)) = (0 : Int32))]
    refine XS.iconst X_18.here hx rfl (hb hby d_prog_33m4_68) ?_
    show oS pP eE below T_18 (mkF mM 69 #[.val (.ref a), .val (.long key), .second, .val (.int nd), .val (.int (1 : Int32)), .val (.int (1 : Int32))] [(.int (2 : Int32)), (.int (0 : Int32))]) _
    refine XS.idiv X_18.here hx rfl (hb hby d_prog_33m4_69) rfl (by decide) ?_
    show oS pP eE below T_18 (mkF mM 70 #[.val (.ref a), .val (.long key), .second, .val (.int nd), .val (.int (1 : Int32)), .val (.int (1 : Int32))] [(.int ((0 : Int32) / (2 : Int32)))]) _
    rw [(by decide : ((0 : Int32) / (2 : Int32)) = (0 : Int32))]
    refine XS.istore X_18.here hx rfl (hb hby d_prog_33m4_70) rfl (l' := #[.val (.ref a), .val (.long key), .second, .val (.int nd), .val (.int (1 : Int32)), .val (.int (0 : Int32))]) rfl ?_
    refine XT.lloadN X_18.here hx rfl (hb hby d_prog_33m4_72) rfl ?_
    refine XS.iloadN X_18.here hx rfl (hb hby d_prog_33m4_73) rfl ?_
    refine XS.aloadN X_18.here hx rfl (hb hby d_prog_33m4_74) rfl rfl ?_
    show oS pP eE below T_18 (mkF mM 75 #[.val (.ref a), .val (.long key), .second, .val (.int nd), .val (.int (1 : Int32)), .val (.int (0 : Int32))] [(.ref a), (.int nd), (.long key)]) _
    refine st_19 _ ?_
    show oS pP eE below T_19 (mkF mM 78 #[.val (.ref a), .val (.long key), .second, .val (.int nd), .val (.int (1 : Int32)), .val (.int (0 : Int32))] [(.ref d), (.int nd), (.long key)]) _
    refine XS.iload X_19.here hx rfl (hb hby d_prog_33m4_78) rfl ?_
    show oS pP eE below T_19 (mkF mM 80 #[.val (.ref a), .val (.long key), .second, .val (.int nd), .val (.int (1 : Int32)), .val (.int (0 : Int32))] [(.int (0 : Int32)), (.ref d), (.int nd), (.long key)]) _
    refine X_19.laload hx (j := (0 : Int32)) (v := (.long x0)) (by rw [e_19]; exact Ar_20.1) (State.isArrayOf_alike hZ.alike Ar_20.2.1) Ar_20.2.2 hin_20 hat_20 (g := (mkF mM 80 #[.val (.ref a), .val (.long key), .second, .val (.int nd), .val (.int (1 : Int32)), .val (.int (0 : Int32))] [(.int (0 : Int32)), (.ref d), (.int nd), (.long key)])) rfl rfl (hb hby d_prog_33m4_80) _ ?_
    refine XS.aloadN X_19.here hx rfl (hb hby d_prog_33m4_81) rfl rfl ?_
    show oS pP eE below T_19 (mkF mM 82 #[.val (.ref a), .val (.long key), .second, .val (.int nd), .val (.int (1 : Int32)), .val (.int (0 : Int32))] [(.ref a), (.long x0), (.int nd), (.long key)]) _
    refine st_21 _ ?_
    show oS pP eE below T_21 (mkF mM 85 #[.val (.ref a), .val (.long key), .second, .val (.int nd), .val (.int (1 : Int32)), .val (.int (0 : Int32))] [(.ref g), (.long x0), (.int nd), (.long key)]) _
    refine XS.iload X_21.here hx rfl (hb hby d_prog_33m4_85) rfl ?_
    show oS pP eE below T_21 (mkF mM 87 #[.val (.ref a), .val (.long key), .second, .val (.int nd), .val (.int (1 : Int32)), .val (.int (0 : Int32))] [(.int (0 : Int32)), (.ref g), (.long x0), (.int nd), (.long key)]) _
    refine X_21.iaload hx (j := (0 : Int32)) (v := (.int y0)) (by rw [e_21]; exact Ar_22.1) (State.isArrayOf_alike hZ.alike Ar_22.2.1) Ar_22.2.2 hin_22 hat_22 (g := (mkF mM 87 #[.val (.ref a), .val (.long key), .second, .val (.int nd), .val (.int (1 : Int32)), .val (.int (0 : Int32))] [(.int (0 : Int32)), (.ref g), (.long x0), (.int nd), (.long key)])) rfl rfl (hb hby d_prog_33m4_87) _ ?_
    show oS pP eE below T_21 (mkF mM 88 #[.val (.ref a), .val (.long key), .second, .val (.int nd), .val (.int (1 : Int32)), .val (.int (0 : Int32))] [(.int y0), (.long x0), (.int nd), (.long key)]) _
    refine st_23 _ ?_
    show oS pP eE below T_23 (mkF mM 91 #[.val (.ref a), .val (.long key), .second, .val (.int nd), .val (.int (1 : Int32)), .val (.int (0 : Int32))] [(.int (1 : Int32))]) _
    refine XS.ifYes X_23.here hx rfl (pc0 := 91) (pc' := 97) rfl (hb hby d_prog_33m4_91) rfl (by decide) (by decide) (by decide) ?_
    refine XS.aloadN X_23.here hx rfl (hb hby d_prog_33m4_97) rfl rfl ?_
    show oS pP eE below T_23 (mkF mM 98 #[.val (.ref a), .val (.long key), .second, .val (.int nd), .val (.int (1 : Int32)), .val (.int (0 : Int32))] [(.ref a)]) _
    refine st_24 _ ?_
    show oS pP eE below T_24 (mkF mM 101 #[.val (.ref a), .val (.long key), .second, .val (.int nd), .val (.int (1 : Int32)), .val (.int (0 : Int32))] [(.ref d)]) _
    refine XS.iload X_24.here hx rfl (hb hby d_prog_33m4_101) rfl ?_
    refine XS.aloadN X_24.here hx rfl (hb hby d_prog_33m4_103) rfl rfl ?_
    show oS pP eE below T_24 (mkF mM 104 #[.val (.ref a), .val (.long key), .second, .val (.int nd), .val (.int (1 : Int32)), .val (.int (0 : Int32))] [(.ref a), (.int (1 : Int32)), (.ref d)]) _
    refine st_25 _ ?_
    show oS pP eE below T_25 (mkF mM 107 #[.val (.ref a), .val (.long key), .second, .val (.int nd), .val (.int (1 : Int32)), .val (.int (0 : Int32))] [(.ref d), (.int (1 : Int32)), (.ref d)]) _
    refine XS.iload X_25.here hx rfl (hb hby d_prog_33m4_107) rfl ?_
    show oS pP eE below T_25 (mkF mM 109 #[.val (.ref a), .val (.long key), .second, .val (.int nd), .val (.int (1 : Int32)), .val (.int (0 : Int32))] [(.int (0 : Int32)), (.ref d), (.int (1 : Int32)), (.ref d)]) _
    refine X_25.laload hx (j := (0 : Int32)) (v := (.long x0)) (by rw [e_25]; exact Ar_26.1) (State.isArrayOf_alike hZ.alike Ar_26.2.1) Ar_26.2.2 hin_26 hat_26 (g := (mkF mM 109 #[.val (.ref a), .val (.long key), .second, .val (.int nd), .val (.int (1 : Int32)), .val (.int (0 : Int32))] [(.int (0 : Int32)), (.ref d), (.int (1 : Int32)), (.ref d)])) rfl rfl (hb hby d_prog_33m4_109) _ ?_
    show oS pP eE below T_25 (mkF mM 110 #[.val (.ref a), .val (.long key), .second, .val (.int nd), .val (.int (1 : Int32)), .val (.int (0 : Int32))] [(.long x0), (.int (1 : Int32)), (.ref d)]) _
    refine st_27 _ ?_
    show oS pP eE below T_27 (mkF mM 111 #[.val (.ref a), .val (.long key), .second, .val (.int nd), .val (.int (1 : Int32)), .val (.int (0 : Int32))] []) _
    refine XS.aloadN X_27.here hx rfl (hb hby d_prog_33m4_111) rfl rfl ?_
    show oS pP eE below T_27 (mkF mM 112 #[.val (.ref a), .val (.long key), .second, .val (.int nd), .val (.int (1 : Int32)), .val (.int (0 : Int32))] [(.ref a)]) _
    refine st_28 _ ?_
    show oS pP eE below T_28 (mkF mM 115 #[.val (.ref a), .val (.long key), .second, .val (.int nd), .val (.int (1 : Int32)), .val (.int (0 : Int32))] [(.ref g)]) _
    refine XS.iload X_28.here hx rfl (hb hby d_prog_33m4_115) rfl ?_
    refine XS.aloadN X_28.here hx rfl (hb hby d_prog_33m4_117) rfl rfl ?_
    show oS pP eE below T_28 (mkF mM 118 #[.val (.ref a), .val (.long key), .second, .val (.int nd), .val (.int (1 : Int32)), .val (.int (0 : Int32))] [(.ref a), (.int (1 : Int32)), (.ref g)]) _
    refine st_29 _ ?_
    show oS pP eE below T_29 (mkF mM 121 #[.val (.ref a), .val (.long key), .second, .val (.int nd), .val (.int (1 : Int32)), .val (.int (0 : Int32))] [(.ref g), (.int (1 : Int32)), (.ref g)]) _
    refine XS.iload X_29.here hx rfl (hb hby d_prog_33m4_121) rfl ?_
    show oS pP eE below T_29 (mkF mM 123 #[.val (.ref a), .val (.long key), .second, .val (.int nd), .val (.int (1 : Int32)), .val (.int (0 : Int32))] [(.int (0 : Int32)), (.ref g), (.int (1 : Int32)), (.ref g)]) _
    refine X_29.iaload hx (j := (0 : Int32)) (v := (.int y0)) (by rw [e_29]; exact Ar_30.1) (State.isArrayOf_alike hZ.alike Ar_30.2.1) Ar_30.2.2 hin_30 hat_30 (g := (mkF mM 123 #[.val (.ref a), .val (.long key), .second, .val (.int nd), .val (.int (1 : Int32)), .val (.int (0 : Int32))] [(.int (0 : Int32)), (.ref g), (.int (1 : Int32)), (.ref g)])) rfl rfl (hb hby d_prog_33m4_123) _ ?_
    show oS pP eE below T_29 (mkF mM 124 #[.val (.ref a), .val (.long key), .second, .val (.int nd), .val (.int (1 : Int32)), .val (.int (0 : Int32))] [(.int y0), (.int (1 : Int32)), (.ref g)]) _
    refine st_31 _ ?_
    show oS pP eE below T_31 (mkF mM 125 #[.val (.ref a), .val (.long key), .second, .val (.int nd), .val (.int (1 : Int32)), .val (.int (0 : Int32))] []) _
    refine XS.iload X_31.here hx rfl (hb hby d_prog_33m4_125) rfl ?_
    refine XS.istore X_31.here hx rfl (hb hby d_prog_33m4_127) rfl (l' := #[.val (.ref a), .val (.long key), .second, .val (.int nd), .val (.int (0 : Int32)), .val (.int (0 : Int32))]) rfl ?_
    refine XS.goto X_31.here hx rfl (pc0 := 129) (pc' := 59) rfl (hb hby d_prog_33m4_129) (by decide) (by decide) ?_
    refine XS.iload X_31.here hx rfl (hb hby d_prog_33m4_59) rfl ?_
    refine XS.ifYes X_31.here hx rfl (pc0 := 61) (pc' := 132) rfl (hb hby d_prog_33m4_61) rfl (by decide) (by decide) (by decide) ?_
    refine XS.aloadN X_31.here hx rfl (hb hby d_prog_33m4_132) rfl rfl ?_
    show oS pP eE below T_31 (mkF mM 133 #[.val (.ref a), .val (.long key), .second, .val (.int nd), .val (.int (0 : Int32)), .val (.int (0 : Int32))] [(.ref a)]) _
    refine st_32 _ ?_
    show oS pP eE below T_32 (mkF mM 136 #[.val (.ref a), .val (.long key), .second, .val (.int nd), .val (.int (0 : Int32)), .val (.int (0 : Int32))] [(.ref d)]) _
    refine XS.iload X_32.here hx rfl (hb hby d_prog_33m4_136) rfl ?_
    refine XT.lloadN X_32.here hx rfl (hb hby d_prog_33m4_138) rfl ?_
    show oS pP eE below T_32 (mkF mM 139 #[.val (.ref a), .val (.long key), .second, .val (.int nd), .val (.int (0 : Int32)), .val (.int (0 : Int32))] [(.long key), (.int (0 : Int32)), (.ref d)]) _
    refine st_33 _ ?_
    show oS pP eE below T_33 (mkF mM 140 #[.val (.ref a), .val (.long key), .second, .val (.int nd), .val (.int (0 : Int32)), .val (.int (0 : Int32))] []) _
    refine XS.aloadN X_33.here hx rfl (hb hby d_prog_33m4_140) rfl rfl ?_
    show oS pP eE below T_33 (mkF mM 141 #[.val (.ref a), .val (.long key), .second, .val (.int nd), .val (.int (0 : Int32)), .val (.int (0 : Int32))] [(.ref a)]) _
    refine st_34 _ ?_
    show oS pP eE below T_34 (mkF mM 144 #[.val (.ref a), .val (.long key), .second, .val (.int nd), .val (.int (0 : Int32)), .val (.int (0 : Int32))] [(.ref g)]) _
    refine XS.iload X_34.here hx rfl (hb hby d_prog_33m4_144) rfl ?_
    refine XS.iloadN X_34.here hx rfl (hb hby d_prog_33m4_146) rfl ?_
    show oS pP eE below T_34 (mkF mM 147 #[.val (.ref a), .val (.long key), .second, .val (.int nd), .val (.int (0 : Int32)), .val (.int (0 : Int32))] [(.int nd), (.int (0 : Int32)), (.ref g)]) _
    refine st_35 _ ?_
    show oS pP eE below T_35 (mkF mM 148 #[.val (.ref a), .val (.long key), .second, .val (.int nd), .val (.int (0 : Int32)), .val (.int (0 : Int32))] []) _
    exact X_35.returnOut hx Bd.returns (hb hby d_prog_33m4_148) hr
  · show Q_add3 Z a d g kd kg key nd x0 x1 x2 x3 y0 y1 y2 y3 h0 n0 _ T_35.heap _
    rw [e_35]
    exact ⟨key, x0, x2, x1, nd, y0, y2, y1, rfl, N_35, K_35, ((((((Fw_5.other W_14 (Or.inl nad)).other W_18 (Or.inl nag)).other W_27 (Or.inl nad)).other W_31 (Or.inl nag)).other W_33 (Or.inl nad)).other W_35 (Or.inl nag)), (((((((F_keys_a.other W_5 (Or.inr (slot_ne (Or.inl (ow hw 12 rfl)) (Or.inl (ow hw 22 rfl)) (by decide) (t := (.array .long)) (t' := .int) (by decide) (by decide)))).other W_14 (Or.inl nad)).other W_18 (Or.inl nag)).other W_27 (Or.inl nad)).other W_31 (Or.inl nag)).other W_33 (Or.inl nad)).other W_35 (Or.inl nag)), (((((((F_nodes_a.other W_5 (Or.inr (slot_ne (Or.inl (ow hw 15 rfl)) (Or.inl (ow hw 22 rfl)) (by decide) (t := (.array .int)) (t' := .int) (by decide) (by decide)))).other W_14 (Or.inl nad)).other W_18 (Or.inl nag)).other W_27 (Or.inl nad)).other W_31 (Or.inl nag)).other W_33 (Or.inl nad)).other W_35 (Or.inl nag)), (((((((E_a.wr W_5).wr W_14).wr W_18).wr W_27).wr W_31).wr W_33).wr W_35), (V_33.other W_35 ndg), V_35⟩
set_option maxRecDepth 65536 in
set_option maxHeartbeats 40000000 in
theorem rm_add3 (l : Launch) (Z : State) (a0 : Array Value) (hw : ∀ d ∈ tables_1, d.before a0 Z = true) (ws : List Jvm.Cond) (a : Addr) (d : Addr) (g : Addr) (kd : ClassId) (kg : ClassId) (key : Int64) (nd : Int32) (x0 : Int64) (x1 : Int64) (x2 : Int64) (x3 : Int64) (y0 : Int32) (y1 : Int32) (y2 : Int32) (y3 : Int32) (h0 : Heap) (n0 : Nat) (Z0 : n0 ≤ h0.size) (F_size_a : Fld Z h0 a "com/example/greenweft/greenweft/steiner/NodeHeap" "size" "I" (.int (3 : Int32))) (F_keys_a : Fld Z h0 a "com/example/greenweft/greenweft/steiner/NodeHeap" "keys" "[J" (.ref d)) (F_nodes_a : Fld Z h0 a "com/example/greenweft/greenweft/steiner/NodeHeap" "nodes" "[I" (.ref g)) (E_a : Exa Z h0 a "com/example/greenweft/greenweft/steiner/NodeHeap") (g_a : n0 ≤ a) (g_d : n0 ≤ d) (g_g : n0 ≤ g) (V_d : Arv Z h0 d kd .long (16 : Int32) [(.long x0), (.long x1), (.long x2), (.long x3)] (.long (0 : Int64))) (V_g : Arv Z h0 g kg .int (16 : Int32) [(.int y0), (.int y1), (.int y2), (.int y3)] (.int (0 : Int32))) (ndg : d ≠ g) (nad : a ≠ d) (nag : a ≠ g) :
    MetFree l (⟨"com/example/greenweft/greenweft/steiner/NodeHeap", "add", "(JI)V"⟩ : MethodName) (head1 (Jvm.Cond.code (⟨"com/example/greenweft/greenweft/steiner/NodeHeap", "add", "(JI)V"⟩ : MethodName) prog_33_method_4_code 6 none :: ws) ({ frames := 1, cells := 0, slots := 0, locals := 17 } : Room)) (fun aa_ U_ => aa_ = #[(.ref a), (.long key), (.int nd)] ∧ Z.Warmed39 U_.vm ∧ U_.heap = h0) (fun _ _ _ _ _ => True) (fun _ U_ o_ U'_ => ∃ v_ L_, o_ = .returned v_ ∧ Q_add3 Z a d g kd kg key nd x0 x1 x2 x3 y0 y1 y2 y3 h0 n0 v_ U'_.heap L_ ∧ FrameEnd U_ o_ U'_ L_ ({ frames := 1, cells := 0, slots := 0, locals := 17 } : Room).cells ({ frames := 1, cells := 0, slots := 0, locals := 17 } : Room).slots) := by
  by_cases hr0 : own_pre key nd x1 y1
  · by_cases hr1 : own_pre key nd x0 y0
    · exact rm_add3yy_ l Z a0 hw ws a d g kd kg key nd x0 x1 x2 x3 y0 y1 y2 y3 h0 n0 Z0 F_size_a F_keys_a F_nodes_a E_a g_a g_d g_g V_d V_g ndg nad nag hr0 hr1
    · exact rm_add3yn_ l Z a0 hw ws a d g kd kg key nd x0 x1 x2 x3 y0 y1 y2 y3 h0 n0 Z0 F_size_a F_keys_a F_nodes_a E_a g_a g_d g_g V_d V_g ndg nad nag hr0 hr1
  · exact rm_add3n_ l Z a0 hw ws a d g kd kg key nd x0 x1 x2 x3 y0 y1 y2 y3 h0 n0 Z0 F_size_a F_keys_a F_nodes_a E_a g_a g_d g_g V_d V_g ndg nad nag hr0
def Q_take1 (Z : State) (a : Addr) (d : Addr) (g : Addr) (kd : ClassId) (kg : ClassId) (x0 : Int64) (x1 : Int64) (x2 : Int64) (x3 : Int64) (y0 : Int32) (y1 : Int32) (y2 : Int32) (y3 : Int32) (h0 : Heap) (n0 : Nat) (v_ : Option Value) (h_ : Heap) (L_ : List Loc) : Prop := ∃ u0 : Int64, ∃ u1 : Int64, ∃ u2 : Int64, ∃ u3 : Int64, ∃ v0 : Int32, ∃ v1 : Int32, ∃ v2 : Int32, ∃ v3 : Int32, v_ = some (.int y0) ∧ Fr n0 L_ ∧ Keep h0 h_ [a, d, g] ∧ Fld Z h_ a "com/example/greenweft/greenweft/steiner/NodeHeap" "size" "I" (.int (0 : Int32)) ∧ Fld Z h_ a "com/example/greenweft/greenweft/steiner/NodeHeap" "keys" "[J" (.ref d) ∧ Fld Z h_ a "com/example/greenweft/greenweft/steiner/NodeHeap" "nodes" "[I" (.ref g) ∧ Exa Z h_ a "com/example/greenweft/greenweft/steiner/NodeHeap" ∧ Arv Z h_ d kd .long (16 : Int32) [(.long u0), (.long u1), (.long u2), (.long u3)] (.long (0 : Int64)) ∧ Arv Z h_ g kg .int (16 : Int32) [(.int v0), (.int v1), (.int v2), (.int v3)] (.int (0 : Int32))
theorem d_prog_33m6_0 : decode prog_33_method_6_code 0 = .ok (.aload_n 0, 1) := by decide +kernel
theorem d_prog_33m6_1 : decode prog_33_method_6_code 1 = .ok (.getfield 13, 3) := by decide +kernel
theorem d_prog_33m6_4 : decode prog_33_method_6_code 4 = .ok (.iconst 0, 1) := by decide +kernel
theorem d_prog_33m6_5 : decode prog_33_method_6_code 5 = .ok (.iaload, 1) := by decide +kernel
theorem d_prog_33m6_6 : decode prog_33_method_6_code 6 = .ok (.istore_n 1, 1) := by decide +kernel
theorem d_prog_33m6_7 : decode prog_33_method_6_code 7 = .ok (.aload_n 0, 1) := by decide +kernel
theorem d_prog_33m6_8 : decode prog_33_method_6_code 8 = .ok (.getfield 7, 3) := by decide +kernel
theorem d_prog_33m6_11 : decode prog_33_method_6_code 11 = .ok (.aload_n 0, 1) := by decide +kernel
theorem d_prog_33m6_12 : decode prog_33_method_6_code 12 = .ok (.dup, 1) := by decide +kernel
theorem d_prog_33m6_13 : decode prog_33_method_6_code 13 = .ok (.getfield 17, 3) := by decide +kernel
theorem d_prog_33m6_16 : decode prog_33_method_6_code 16 = .ok (.iconst 1, 1) := by decide +kernel
theorem d_prog_33m6_17 : decode prog_33_method_6_code 17 = .ok (.isub, 1) := by decide +kernel
theorem d_prog_33m6_18 : decode prog_33_method_6_code 18 = .ok (.dup_x1, 1) := by decide +kernel
theorem d_prog_33m6_19 : decode prog_33_method_6_code 19 = .ok (.putfield 17, 3) := by decide +kernel
theorem d_prog_33m6_22 : decode prog_33_method_6_code 22 = .ok (.laload, 1) := by decide +kernel
theorem d_prog_33m6_23 : decode prog_33_method_6_code 23 = .ok (.lstore_n 2, 1) := by decide +kernel
theorem d_prog_33m6_24 : decode prog_33_method_6_code 24 = .ok (.aload_n 0, 1) := by decide +kernel
theorem d_prog_33m6_25 : decode prog_33_method_6_code 25 = .ok (.getfield 13, 3) := by decide +kernel
theorem d_prog_33m6_28 : decode prog_33_method_6_code 28 = .ok (.aload_n 0, 1) := by decide +kernel
theorem d_prog_33m6_29 : decode prog_33_method_6_code 29 = .ok (.getfield 17, 3) := by decide +kernel
theorem d_prog_33m6_32 : decode prog_33_method_6_code 32 = .ok (.iaload, 1) := by decide +kernel
theorem d_prog_33m6_33 : decode prog_33_method_6_code 33 = .ok (.istore 4, 2) := by decide +kernel
theorem d_prog_33m6_35 : decode prog_33_method_6_code 35 = .ok (.iconst 0, 1) := by decide +kernel
theorem d_prog_33m6_36 : decode prog_33_method_6_code 36 = .ok (.istore 5, 2) := by decide +kernel
theorem d_prog_33m6_38 : decode prog_33_method_6_code 38 = .ok (.iconst 2, 1) := by decide +kernel
theorem d_prog_33m6_39 : decode prog_33_method_6_code 39 = .ok (.iload 5, 2) := by decide +kernel
theorem d_prog_33m6_41 : decode prog_33_method_6_code 41 = .ok (.imul, 1) := by decide +kernel
theorem d_prog_33m6_42 : decode prog_33_method_6_code 42 = .ok (.iconst 1, 1) := by decide +kernel
theorem d_prog_33m6_43 : decode prog_33_method_6_code 43 = .ok (.iadd, 1) := by decide +kernel
theorem d_prog_33m6_44 : decode prog_33_method_6_code 44 = .ok (.istore 6, 2) := by decide +kernel
theorem d_prog_33m6_46 : decode prog_33_method_6_code 46 = .ok (.iload 6, 2) := by decide +kernel
theorem d_prog_33m6_48 : decode prog_33_method_6_code 48 = .ok (.aload_n 0, 1) := by decide +kernel
theorem d_prog_33m6_49 : decode prog_33_method_6_code 49 = .ok (.getfield 17, 3) := by decide +kernel
theorem d_prog_33m6_52 : decode prog_33_method_6_code 52 = .ok (.if_icmp .lt 6, 3) := by decide +kernel
theorem d_prog_33m6_55 : decode prog_33_method_6_code 55 = .ok (.goto 116, 3) := by decide +kernel
theorem d_prog_33m6_171 : decode prog_33_method_6_code 171 = .ok (.aload_n 0, 1) := by decide +kernel
theorem d_prog_33m6_172 : decode prog_33_method_6_code 172 = .ok (.getfield 7, 3) := by decide +kernel
theorem d_prog_33m6_175 : decode prog_33_method_6_code 175 = .ok (.iload 5, 2) := by decide +kernel
theorem d_prog_33m6_177 : decode prog_33_method_6_code 177 = .ok (.lload_n 2, 1) := by decide +kernel
theorem d_prog_33m6_178 : decode prog_33_method_6_code 178 = .ok (.lastore, 1) := by decide +kernel
theorem d_prog_33m6_179 : decode prog_33_method_6_code 179 = .ok (.aload_n 0, 1) := by decide +kernel
theorem d_prog_33m6_180 : decode prog_33_method_6_code 180 = .ok (.getfield 13, 3) := by decide +kernel
theorem d_prog_33m6_183 : decode prog_33_method_6_code 183 = .ok (.iload 5, 2) := by decide +kernel
theorem d_prog_33m6_185 : decode prog_33_method_6_code 185 = .ok (.iload 4, 2) := by decide +kernel
theorem d_prog_33m6_187 : decode prog_33_method_6_code 187 = .ok (.iastore, 1) := by decide +kernel
theorem d_prog_33m6_188 : decode prog_33_method_6_code 188 = .ok (.iload_n 1, 1) := by decide +kernel
theorem d_prog_33m6_189 : decode prog_33_method_6_code 189 = .ok (.ireturn, 1) := by decide +kernel
theorem ef_take1_ (mM : MethodId) (x0 : Addr) : entryFrame mM #[(.ref x0)] 7 = mkF mM 0 #[.val (.ref x0), .unset, .unset, .unset, .unset, .unset, .unset] [] := by first | (simp [entryFrame, mkF, argsToLocals, Value.category]; done) | rfl
set_option maxRecDepth 65536 in
set_option maxHeartbeats 40000000 in
theorem rm_take1_ (l : Launch) (Z : State) (a0 : Array Value) (hw : ∀ d ∈ tables_1, d.before a0 Z = true) (ws : List Jvm.Cond) (a : Addr) (d : Addr) (g : Addr) (kd : ClassId) (kg : ClassId) (x0 : Int64) (x1 : Int64) (x2 : Int64) (x3 : Int64) (y0 : Int32) (y1 : Int32) (y2 : Int32) (y3 : Int32) (h0 : Heap) (n0 : Nat) (Z0 : n0 ≤ h0.size) (F_size_a : Fld Z h0 a "com/example/greenweft/greenweft/steiner/NodeHeap" "size" "I" (.int (1 : Int32))) (F_keys_a : Fld Z h0 a "com/example/greenweft/greenweft/steiner/NodeHeap" "keys" "[J" (.ref d)) (F_nodes_a : Fld Z h0 a "com/example/greenweft/greenweft/steiner/NodeHeap" "nodes" "[I" (.ref g)) (E_a : Exa Z h0 a "com/example/greenweft/greenweft/steiner/NodeHeap") (g_a : n0 ≤ a) (g_d : n0 ≤ d) (g_g : n0 ≤ g) (V_d : Arv Z h0 d kd .long (16 : Int32) [(.long x0), (.long x1), (.long x2), (.long x3)] (.long (0 : Int64))) (V_g : Arv Z h0 g kg .int (16 : Int32) [(.int y0), (.int y1), (.int y2), (.int y3)] (.int (0 : Int32))) (ndg : d ≠ g) (nad : a ≠ d) (nag : a ≠ g) :
    MetFree l (⟨"com/example/greenweft/greenweft/steiner/NodeHeap", "takeLowest", "()I"⟩ : MethodName) (head1 (Jvm.Cond.code (⟨"com/example/greenweft/greenweft/steiner/NodeHeap", "takeLowest", "()I"⟩ : MethodName) prog_33_method_6_code 7 (some .int) :: ws) ({ frames := 0, cells := 0, slots := 0, locals := 0 } : Room)) (fun aa_ U_ => aa_ = #[(.ref a)] ∧ Z.Warmed39 U_.vm ∧ U_.heap = h0) (fun _ _ _ _ _ => True) (fun _ U_ o_ U'_ => ∃ v_ L_, o_ = .returned v_ ∧ Q_take1 Z a d g kd kg x0 x1 x2 x3 y0 y1 y2 y3 h0 n0 v_ U'_.heap L_ ∧ FrameEnd U_ o_ U'_ L_ ({ frames := 0, cells := 0, slots := 0, locals := 0 } : Room).cells ({ frames := 0, cells := 0, slots := 0, locals := 0 } : Room).slots) := by
  refine MetFree.of_bodySF (plainFor_of_name pn_0) hisR ?_
  intro pP eE sS mM argsA below meth cC s₁ Bd hml0 hP hK
  obtain ⟨rfl, hZ, hh⟩ := hP
  have hx := Bd.exec
  have hby := Bd.bytes
  have hml : cC.maxLocals = 7 := hml0
  have hown : sS.vm.findClass "com/example/greenweft/greenweft/steiner/NodeHeap" = some mM.cls := findClass_of_methodNamed Bd.named
  have hnm := (name_of_methodNamed Bd.named Bd.method).1
  have X0 : Stand pP l eE ({ frames := 0, cells := 0, slots := 0, locals := 0 } : Room) sS mM #[(.ref a)] below meth cC s₁ [] 0 0 := Stand.of_body Bd
  have e0 : s₁.heap = h0 := by rw [← hh, Bd.state]; rfl
  have N0 := Fr.nil n0
  have pre0 : ∀ t_, Steps pP.tables eE below (s₁.setTop (mkF mM 0 #[.val (.ref a), .unset, .unset, .unset, .unset, .unset, .unset] [])) t_ → Steps pP.tables eE below (s₁.setTop (entryFrame mM #[(.ref a)] 7)) t_ := fun t_ k_ => castTop (ef_take1_ mM a) k_
  obtain ⟨T_1, X_1, e_1, st_1⟩ := getF X0 hx hZ hown (host := "") (Or.inl (ow hw 14 rfl)) Via.refl e0 F_nodes_a (g := (mkF mM 1 #[.val (.ref a), .unset, .unset, .unset, .unset, .unset, .unset] [(.ref a)])) rfl rfl (hb hby d_prog_33m6_1)
  obtain ⟨cl_2, Ar_2, qa_2, Sa_2, Na_2, Ha_2, Ga_2⟩ := id V_g
  have hin_2 : ¬ ((0 : Int32) < 0 ∨ cl_2.slots.size ≤ ((0 : Int32)).toNatClampNeg) := inb_of Sa_2 ⟨by decide, by decide⟩
  have hat_2 : cl_2.slots[((0 : Int32)).toNatClampNeg]? = some (.int y0) := Has.at Ha_2 hin_2 rfl
  obtain ⟨T_3, X_3, e_3, st_3⟩ := getF X_1 hx hZ hown (host := "") (Or.inl (ow hw 11 rfl)) Via.refl e_1 F_keys_a (g := (mkF mM 8 #[.val (.ref a), .val (.int y0), .unset, .unset, .unset, .unset, .unset] [(.ref a)])) rfl rfl (hb hby d_prog_33m6_8)
  obtain ⟨T_4, X_4, e_4, st_4⟩ := getF X_3 hx hZ hown (host := "") (Or.inl (ow hw 21 rfl)) Via.refl e_3 F_size_a (g := (mkF mM 13 #[.val (.ref a), .val (.int y0), .unset, .unset, .unset, .unset, .unset] [(.ref a), (.ref a), (.ref d)])) rfl rfl (hb hby d_prog_33m6_13)
  obtain ⟨T_5, h_5, X_5, e_5, W_5, st_5⟩ := putF X_4 hx hZ hown (host := "") (Or.inl (ow hw 21 rfl)) Via.refl e_4 F_size_a E_a (Or.inl (ow hw 22 rfl)) (ow hw 2 rfl) (ty := .int) (by decide) rfl rfl (g := (mkF mM 19 #[.val (.ref a), .val (.int y0), .unset, .unset, .unset, .unset, .unset] [(.int (0 : Int32)), (.ref a), (.int (0 : Int32)), (.ref d)])) rfl rfl (hb hby d_prog_33m6_19)
  have Fw_5 := F_size_a.same W_5
  have Z_5 : n0 ≤ h_5.size := (Nat.le_trans Z0 (Keep.of_wr W_5).1)
  have K_5 : Keep h0 h_5 [a, d, g] := (Keep.refl h0 [a, d, g]).wr W_5 (Or.inl (List.mem_of_getElem? (i := 0) rfl))
  have N_5 := Fr.snoc X_5 N0 g_a
  obtain ⟨cl_6, Ar_6, qa_6, Sa_6, Na_6, Ha_6, Ga_6⟩ := id (V_d.other W_5 (Ne.symm nad))
  have hin_6 : ¬ ((0 : Int32) < 0 ∨ cl_6.slots.size ≤ ((0 : Int32)).toNatClampNeg) := inb_of Sa_6 ⟨by decide, by decide⟩
  have hat_6 : cl_6.slots[((0 : Int32)).toNatClampNeg]? = some (.long x0) := Has.at Ha_6 hin_6 rfl
  obtain ⟨T_7, X_7, e_7, st_7⟩ := getF X_5 hx hZ hown (host := "") (Or.inl (ow hw 14 rfl)) Via.refl e_5 (F_nodes_a.other W_5 (Or.inr (slot_ne (Or.inl (ow hw 15 rfl)) (Or.inl (ow hw 22 rfl)) (by decide) (t := (.array .int)) (t' := .int) (by decide) (by decide)))) (g := (mkF mM 25 #[.val (.ref a), .val (.int y0), .val (.long x0), .second, .unset, .unset, .unset] [(.ref a)])) rfl rfl (hb hby d_prog_33m6_25)
  obtain ⟨T_8, X_8, e_8, st_8⟩ := getF X_7 hx hZ hown (host := "") (Or.inl (ow hw 21 rfl)) Via.refl e_7 Fw_5 (g := (mkF mM 29 #[.val (.ref a), .val (.int y0), .val (.long x0), .second, .unset, .unset, .unset] [(.ref a), (.ref g)])) rfl rfl (hb hby d_prog_33m6_29)
  obtain ⟨cl_9, Ar_9, qa_9, Sa_9, Na_9, Ha_9, Ga_9⟩ := id (V_g.other W_5 (Ne.symm nag))
  have hin_9 : ¬ ((0 : Int32) < 0 ∨ cl_9.slots.size ≤ ((0 : Int32)).toNatClampNeg) := inb_of Sa_9 ⟨by decide, by decide⟩
  have hat_9 : cl_9.slots[((0 : Int32)).toNatClampNeg]? = some (.int y0) := Has.at Ha_9 hin_9 rfl
  obtain ⟨T_10, X_10, e_10, st_10⟩ := getF X_8 hx hZ hown (host := "") (Or.inl (ow hw 21 rfl)) Via.refl e_8 Fw_5 (g := (mkF mM 49 #[.val (.ref a), .val (.int y0), .val (.long x0), .second, .val (.int y0), .val (.int (0 : Int32)), .val (.int (1 : Int32))] [(.ref a), (.int (1 : Int32))])) rfl rfl (hb hby d_prog_33m6_49)
  obtain ⟨T_11, X_11, e_11, st_11⟩ := getF X_10 hx hZ hown (host := "") (Or.inl (ow hw 11 rfl)) Via.refl e_10 (F_keys_a.other W_5 (Or.inr (slot_ne (Or.inl (ow hw 12 rfl)) (Or.inl (ow hw 22 rfl)) (by decide) (t := (.array .long)) (t' := .int) (by decide) (by decide)))) (g := (mkF mM 172 #[.val (.ref a), .val (.int y0), .val (.long x0), .second, .val (.int y0), .val (.int (0 : Int32)), .val (.int (1 : Int32))] [(.ref a)])) rfl rfl (hb hby d_prog_33m6_172)
  obtain ⟨cl_12, Ar_12, qa_12, Sa_12, Na_12, Ha_12, Ga_12⟩ := id (V_d.other W_5 (Ne.symm nad))
  have hin_12 : ¬ ((0 : Int32) < 0 ∨ cl_12.slots.size ≤ ((0 : Int32)).toNatClampNeg) := inb_of Sa_12 ⟨by decide, by decide⟩
  obtain ⟨T_12, h_12, X_12, e_12, W_12, st_12⟩ := stJ X_11 hx hZ e_11 Ar_12 (j := (0 : Int32)) hin_12 (g := (mkF mM 178 #[.val (.ref a), .val (.int y0), .val (.long x0), .second, .val (.int y0), .val (.int (0 : Int32)), .val (.int (1 : Int32))] [(.long x0), (.int (0 : Int32)), (.ref d)])) rfl rfl (hb hby d_prog_33m6_178)
  have V_12 : Arv Z h_12 d kd .long (16 : Int32) [(.long x0), (.long x1), (.long x2), (.long x3)] (.long (0 : Int64)) := Arv.set Ar_12 qa_12 Sa_12 Na_12 Ha_12 Ga_12 rfl W_12 0 rfl (Nat.le_of_ble_eq_true rfl)
  have Z_12 : n0 ≤ h_12.size := (Nat.le_trans Z_5 (Keep.of_wr W_12).1)
  have K_12 : Keep h0 h_12 [a, d, g] := K_5.wr W_12 (Or.inl (List.mem_of_getElem? (i := 1) rfl))
  have N_12 := Fr.snoc X_12 N_5 g_d
  obtain ⟨T_13, X_13, e_13, st_13⟩ := getF X_12 hx hZ hown (host := "") (Or.inl (ow hw 14 rfl)) Via.refl e_12 ((F_nodes_a.other W_5 (Or.inr (slot_ne (Or.inl (ow hw 15 rfl)) (Or.inl (ow hw 22 rfl)) (by decide) (t := (.array .int)) (t' := .int) (by decide) (by decide)))).other W_12 (Or.inl nad)) (g := (mkF mM 180 #[.val (.ref a), .val (.int y0), .val (.long x0), .second, .val (.int y0), .val (.int (0 : Int32)), .val (.int (1 : Int32))] [(.ref a)])) rfl rfl (hb hby d_prog_33m6_180)
  obtain ⟨cl_14, Ar_14, qa_14, Sa_14, Na_14, Ha_14, Ga_14⟩ := id ((V_g.other W_5 (Ne.symm nag)).other W_12 (Ne.symm ndg))
  have hin_14 : ¬ ((0 : Int32) < 0 ∨ cl_14.slots.size ≤ ((0 : Int32)).toNatClampNeg) := inb_of Sa_14 ⟨by decide, by decide⟩
  obtain ⟨T_14, h_14, X_14, e_14, W_14, st_14⟩ := stI X_13 hx hZ e_13 Ar_14 (j := (0 : Int32)) hin_14 (g := (mkF mM 187 #[.val (.ref a), .val (.int y0), .val (.long x0), .second, .val (.int y0), .val (.int (0 : Int32)), .val (.int (1 : Int32))] [(.int y0), (.int (0 : Int32)), (.ref g)])) rfl rfl (hb hby d_prog_33m6_187)
  have V_14 : Arv Z h_14 g kg .int (16 : Int32) [(.int y0), (.int y1), (.int y2), (.int y3)] (.int (0 : Int32)) := Arv.set Ar_14 qa_14 Sa_14 Na_14 Ha_14 Ga_14 rfl W_14 0 rfl (Nat.le_of_ble_eq_true rfl)
  have Z_14 : n0 ≤ h_14.size := (Nat.le_trans Z_12 (Keep.of_wr W_14).1)
  have K_14 : Keep h0 h_14 [a, d, g] := K_12.wr W_14 (Or.inl (List.mem_of_getElem? (i := 2) rfl))
  have N_14 := Fr.snoc X_14 N_12 g_g
  obtain ⟨fs, hr, hrun, hended, hW, hsame⟩ := X_14.leave (v := some (.int y0)) (fun h => by rw [Bd.returns] at h; cases h)
  refine ⟨_, _, pre0 _ ?_, hrun, hended, _, _, rfl, ?_, ⟨_, rfl⟩, hW, hsame.mono (by decide) (by decide)⟩
  · show oS pP eE below s₁ (mkF mM 0 #[.val (.ref a), .unset, .unset, .unset, .unset, .unset, .unset] []) _
    refine XS.aloadN X0.here hx rfl (hb hby d_prog_33m6_0) rfl rfl ?_
    show oS pP eE below s₁ (mkF mM 1 #[.val (.ref a), .unset, .unset, .unset, .unset, .unset, .unset] [(.ref a)]) _
    refine st_1 _ ?_
    show oS pP eE below T_1 (mkF mM 4 #[.val (.ref a), .unset, .unset, .unset, .unset, .unset, .unset] [(.ref g)]) _
    refine XS.iconst X_1.here hx rfl (hb hby d_prog_33m6_4) ?_
    show oS pP eE below T_1 (mkF mM 5 #[.val (.ref a), .unset, .unset, .unset, .unset, .unset, .unset] [(.int (0 : Int32)), (.ref g)]) _
    refine X_1.iaload hx (j := (0 : Int32)) (v := (.int y0)) (by rw [e_1]; exact Ar_2.1) (State.isArrayOf_alike hZ.alike Ar_2.2.1) Ar_2.2.2 hin_2 hat_2 (g := (mkF mM 5 #[.val (.ref a), .unset, .unset, .unset, .unset, .unset, .unset] [(.int (0 : Int32)), (.ref g)])) rfl rfl (hb hby d_prog_33m6_5) _ ?_
    refine XS.istoreN X_1.here hx rfl (hb hby d_prog_33m6_6) rfl (l' := #[.val (.ref a), .val (.int y0), .unset, .unset, .unset, .unset, .unset]) rfl ?_
    refine XS.aloadN X_1.here hx rfl (hb hby d_prog_33m6_7) rfl rfl ?_
    show oS pP eE below T_1 (mkF mM 8 #[.val (.ref a), .val (.int y0), .unset, .unset, .unset, .unset, .unset] [(.ref a)]) _
    refine st_3 _ ?_
    show oS pP eE below T_3 (mkF mM 11 #[.val (.ref a), .val (.int y0), .unset, .unset, .unset, .unset, .unset] [(.ref d)]) _
    refine XS.aloadN X_3.here hx rfl (hb hby d_prog_33m6_11) rfl rfl ?_
    refine XS.dup X_3.here hx rfl (hb hby d_prog_33m6_12) rfl rfl ?_
    show oS pP eE below T_3 (mkF mM 13 #[.val (.ref a), .val (.int y0), .unset, .unset, .unset, .unset, .unset] [(.ref a), (.ref a), (.ref d)]) _
    refine st_4 _ ?_
    show oS pP eE below T_4 (mkF mM 16 #[.val (.ref a), .val (.int y0), .unset, .unset, .unset, .unset, .unset] [(.int (1 : Int32)), (.ref a), (.ref d)]) _
    refine XS.iconst X_4.here hx rfl (hb hby d_prog_33m6_16) ?_
    show oS pP eE below T_4 (mkF mM 17 #[.val (.ref a), .val (.int y0), .unset, .unset, .unset, .unset, .unset] [(.int (1 : Int32)), (.int (1 : Int32)), (.ref a), (.ref d)]) _
    refine XS.isub X_4.here hx rfl (hb hby d_prog_33m6_17) rfl ?_
    show oS pP eE below T_4 (mkF mM 18 #[.val (.ref a), .val (.int y0), .unset, .unset, .unset, .unset, .unset] [(.int ((1 : Int32) - (1 : Int32))), (.ref a), (.ref d)]) _
    rw [(by decide : ((1 : Int32) - (1 : Int32)) = (0 : Int32))]
    show oS pP eE below T_4 (mkF mM 18 #[.val (.ref a), .val (.int y0), .unset, .unset, .unset, .unset, .unset] [(.int (0 : Int32)), (.ref a), (.ref d)]) _
    refine XT.dupX1 X_4.here hx rfl (hb hby d_prog_33m6_18) rfl rfl rfl ?_
    show oS pP eE below T_4 (mkF mM 19 #[.val (.ref a), .val (.int y0), .unset, .unset, .unset, .unset, .unset] [(.int (0 : Int32)), (.ref a), (.int (0 : Int32)), (.ref d)]) _
    refine st_5 _ ?_
    show oS pP eE below T_5 (mkF mM 22 #[.val (.ref a), .val (.int y0), .unset, .unset, .unset, .unset, .unset] [(.int (0 : Int32)), (.ref d)]) _
    refine X_5.laload hx (j := (0 : Int32)) (v := (.long x0)) (by rw [e_5]; exact Ar_6.1) (State.isArrayOf_alike hZ.alike Ar_6.2.1) Ar_6.2.2 hin_6 hat_6 (g := (mkF mM 22 #[.val (.ref a), .val (.int y0), .unset, .unset, .unset, .unset, .unset] [(.int (0 : Int32)), (.ref d)])) rfl rfl (hb hby d_prog_33m6_22) _ ?_
    refine XT.lstoreN X_5.here hx rfl (hb hby d_prog_33m6_23) rfl (l' := #[.val (.ref a), .val (.int y0), .val (.long x0), .second, .unset, .unset, .unset]) rfl ?_
    refine XS.aloadN X_5.here hx rfl (hb hby d_prog_33m6_24) rfl rfl ?_
    show oS pP eE below T_5 (mkF mM 25 #[.val (.ref a), .val (.int y0), .val (.long x0), .second, .unset, .unset, .unset] [(.ref a)]) _
    refine st_7 _ ?_
    show oS pP eE below T_7 (mkF mM 28 #[.val (.ref a), .val (.int y0), .val (.long x0), .second, .unset, .unset, .unset] [(.ref g)]) _
    refine XS.aloadN X_7.here hx rfl (hb hby d_prog_33m6_28) rfl rfl ?_
    show oS pP eE below T_7 (mkF mM 29 #[.val (.ref a), .val (.int y0), .val (.long x0), .second, .unset, .unset, .unset] [(.ref a), (.ref g)]) _
    refine st_8 _ ?_
    show oS pP eE below T_8 (mkF mM 32 #[.val (.ref a), .val (.int y0), .val (.long x0), .second, .unset, .unset, .unset] [(.int (0 : Int32)), (.ref g)]) _
    refine X_8.iaload hx (j := (0 : Int32)) (v := (.int y0)) (by rw [e_8]; exact Ar_9.1) (State.isArrayOf_alike hZ.alike Ar_9.2.1) Ar_9.2.2 hin_9 hat_9 (g := (mkF mM 32 #[.val (.ref a), .val (.int y0), .val (.long x0), .second, .unset, .unset, .unset] [(.int (0 : Int32)), (.ref g)])) rfl rfl (hb hby d_prog_33m6_32) _ ?_
    refine XS.istore X_8.here hx rfl (hb hby d_prog_33m6_33) rfl (l' := #[.val (.ref a), .val (.int y0), .val (.long x0), .second, .val (.int y0), .unset, .unset]) rfl ?_
    refine XS.iconst X_8.here hx rfl (hb hby d_prog_33m6_35) ?_
    refine XS.istore X_8.here hx rfl (hb hby d_prog_33m6_36) rfl (l' := #[.val (.ref a), .val (.int y0), .val (.long x0), .second, .val (.int y0), .val (.int (0 : Int32)), .unset]) rfl ?_
    refine XS.iconst X_8.here hx rfl (hb hby d_prog_33m6_38) ?_
    refine XS.iload X_8.here hx rfl (hb hby d_prog_33m6_39) rfl ?_
    show oS pP eE below T_8 (mkF mM 41 #[.val (.ref a), .val (.int y0), .val (.long x0), .second, .val (.int y0), .val (.int (0 : Int32)), .unset] [(.int (0 : Int32)), (.int (2 : Int32))]) _
    refine XS.imul X_8.here hx rfl (hb hby d_prog_33m6_41) rfl ?_
    show oS pP eE below T_8 (mkF mM 42 #[.val (.ref a), .val (.int y0), .val (.long x0), .second, .val (.int y0), .val (.int (0 : Int32)), .unset] [(.int ((2 : Int32) * (0 : Int32)))]) _
    rw [(by decide : ((2 : Int32) * (0 : Int32)) = (0 : Int32))]
    refine XS.iconst X_8.here hx rfl (hb hby d_prog_33m6_42) ?_
    show oS pP eE below T_8 (mkF mM 43 #[.val (.ref a), .val (.int y0), .val (.long x0), .second, .val (.int y0), .val (.int (0 : Int32)), .unset] [(.int (1 : Int32)), (.int (0 : Int32))]) _
    refine XS.iadd X_8.here hx rfl (hb hby d_prog_33m6_43) rfl ?_
    show oS pP eE below T_8 (mkF mM 44 #[.val (.ref a), .val (.int y0), .val (.long x0), .second, .val (.int y0), .val (.int (0 : Int32)), .unset] [(.int ((0 : Int32) + (1 : Int32)))]) _
    rw [(by decide : ((0 : Int32) + (1 : Int32)) = (1 : Int32))]
    refine XS.istore X_8.here hx rfl (hb hby d_prog_33m6_44) rfl (l' := #[.val (.ref a), .val (.int y0), .val (.long x0), .second, .val (.int y0), .val (.int (0 : Int32)), .val (.int (1 : Int32))]) rfl ?_
    refine XS.iload X_8.here hx rfl (hb hby d_prog_33m6_46) rfl ?_
    refine XS.aloadN X_8.here hx rfl (hb hby d_prog_33m6_48) rfl rfl ?_
    show oS pP eE below T_8 (mkF mM 49 #[.val (.ref a), .val (.int y0), .val (.long x0), .second, .val (.int y0), .val (.int (0 : Int32)), .val (.int (1 : Int32))] [(.ref a), (.int (1 : Int32))]) _
    refine st_10 _ ?_
    show oS pP eE below T_10 (mkF mM 52 #[.val (.ref a), .val (.int y0), .val (.long x0), .second, .val (.int y0), .val (.int (0 : Int32)), .val (.int (1 : Int32))] [(.int (0 : Int32)), (.int (1 : Int32))]) _
    refine XS.icmpNo X_10.here hx rfl (hb hby d_prog_33m6_52) rfl (by decide) ?_
    refine XS.goto X_10.here hx rfl (pc0 := 55) (pc' := 171) rfl (hb hby d_prog_33m6_55) (by decide) (by decide) ?_
    refine XS.aloadN X_10.here hx rfl (hb hby d_prog_33m6_171) rfl rfl ?_
    show oS pP eE below T_10 (mkF mM 172 #[.val (.ref a), .val (.int y0), .val (.long x0), .second, .val (.int y0), .val (.int (0 : Int32)), .val (.int (1 : Int32))] [(.ref a)]) _
    refine st_11 _ ?_
    show oS pP eE below T_11 (mkF mM 175 #[.val (.ref a), .val (.int y0), .val (.long x0), .second, .val (.int y0), .val (.int (0 : Int32)), .val (.int (1 : Int32))] [(.ref d)]) _
    refine XS.iload X_11.here hx rfl (hb hby d_prog_33m6_175) rfl ?_
    refine XT.lloadN X_11.here hx rfl (hb hby d_prog_33m6_177) rfl ?_
    show oS pP eE below T_11 (mkF mM 178 #[.val (.ref a), .val (.int y0), .val (.long x0), .second, .val (.int y0), .val (.int (0 : Int32)), .val (.int (1 : Int32))] [(.long x0), (.int (0 : Int32)), (.ref d)]) _
    refine st_12 _ ?_
    show oS pP eE below T_12 (mkF mM 179 #[.val (.ref a), .val (.int y0), .val (.long x0), .second, .val (.int y0), .val (.int (0 : Int32)), .val (.int (1 : Int32))] []) _
    refine XS.aloadN X_12.here hx rfl (hb hby d_prog_33m6_179) rfl rfl ?_
    show oS pP eE below T_12 (mkF mM 180 #[.val (.ref a), .val (.int y0), .val (.long x0), .second, .val (.int y0), .val (.int (0 : Int32)), .val (.int (1 : Int32))] [(.ref a)]) _
    refine st_13 _ ?_
    show oS pP eE below T_13 (mkF mM 183 #[.val (.ref a), .val (.int y0), .val (.long x0), .second, .val (.int y0), .val (.int (0 : Int32)), .val (.int (1 : Int32))] [(.ref g)]) _
    refine XS.iload X_13.here hx rfl (hb hby d_prog_33m6_183) rfl ?_
    refine XS.iload X_13.here hx rfl (hb hby d_prog_33m6_185) rfl ?_
    show oS pP eE below T_13 (mkF mM 187 #[.val (.ref a), .val (.int y0), .val (.long x0), .second, .val (.int y0), .val (.int (0 : Int32)), .val (.int (1 : Int32))] [(.int y0), (.int (0 : Int32)), (.ref g)]) _
    refine st_14 _ ?_
    show oS pP eE below T_14 (mkF mM 188 #[.val (.ref a), .val (.int y0), .val (.long x0), .second, .val (.int y0), .val (.int (0 : Int32)), .val (.int (1 : Int32))] []) _
    refine XS.iloadN X_14.here hx rfl (hb hby d_prog_33m6_188) rfl ?_
    show oS pP eE below T_14 (mkF mM 189 #[.val (.ref a), .val (.int y0), .val (.long x0), .second, .val (.int y0), .val (.int (0 : Int32)), .val (.int (1 : Int32))] [(.int y0)]) _
    exact retI X_14 hx Bd.returns (hb hby d_prog_33m6_189) hr
  · show Q_take1 Z a d g kd kg x0 x1 x2 x3 y0 y1 y2 y3 h0 n0 _ T_14.heap _
    rw [e_14]
    exact ⟨x0, x1, x2, x3, y0, y1, y2, y3, rfl, N_14, K_14, ((Fw_5.other W_12 (Or.inl nad)).other W_14 (Or.inl nag)), (((F_keys_a.other W_5 (Or.inr (slot_ne (Or.inl (ow hw 12 rfl)) (Or.inl (ow hw 22 rfl)) (by decide) (t := (.array .long)) (t' := .int) (by decide) (by decide)))).other W_12 (Or.inl nad)).other W_14 (Or.inl nag)), (((F_nodes_a.other W_5 (Or.inr (slot_ne (Or.inl (ow hw 15 rfl)) (Or.inl (ow hw 22 rfl)) (by decide) (t := (.array .int)) (t' := .int) (by decide) (by decide)))).other W_12 (Or.inl nad)).other W_14 (Or.inl nag)), (((E_a.wr W_5).wr W_12).wr W_14), (V_12.other W_14 ndg), V_14⟩
set_option maxRecDepth 65536 in
set_option maxHeartbeats 40000000 in
theorem rm_take1 (l : Launch) (Z : State) (a0 : Array Value) (hw : ∀ d ∈ tables_1, d.before a0 Z = true) (ws : List Jvm.Cond) (a : Addr) (d : Addr) (g : Addr) (kd : ClassId) (kg : ClassId) (x0 : Int64) (x1 : Int64) (x2 : Int64) (x3 : Int64) (y0 : Int32) (y1 : Int32) (y2 : Int32) (y3 : Int32) (h0 : Heap) (n0 : Nat) (Z0 : n0 ≤ h0.size) (F_size_a : Fld Z h0 a "com/example/greenweft/greenweft/steiner/NodeHeap" "size" "I" (.int (1 : Int32))) (F_keys_a : Fld Z h0 a "com/example/greenweft/greenweft/steiner/NodeHeap" "keys" "[J" (.ref d)) (F_nodes_a : Fld Z h0 a "com/example/greenweft/greenweft/steiner/NodeHeap" "nodes" "[I" (.ref g)) (E_a : Exa Z h0 a "com/example/greenweft/greenweft/steiner/NodeHeap") (g_a : n0 ≤ a) (g_d : n0 ≤ d) (g_g : n0 ≤ g) (V_d : Arv Z h0 d kd .long (16 : Int32) [(.long x0), (.long x1), (.long x2), (.long x3)] (.long (0 : Int64))) (V_g : Arv Z h0 g kg .int (16 : Int32) [(.int y0), (.int y1), (.int y2), (.int y3)] (.int (0 : Int32))) (ndg : d ≠ g) (nad : a ≠ d) (nag : a ≠ g) :
    MetFree l (⟨"com/example/greenweft/greenweft/steiner/NodeHeap", "takeLowest", "()I"⟩ : MethodName) (head1 (Jvm.Cond.code (⟨"com/example/greenweft/greenweft/steiner/NodeHeap", "takeLowest", "()I"⟩ : MethodName) prog_33_method_6_code 7 (some .int) :: ws) ({ frames := 0, cells := 0, slots := 0, locals := 0 } : Room)) (fun aa_ U_ => aa_ = #[(.ref a)] ∧ Z.Warmed39 U_.vm ∧ U_.heap = h0) (fun _ _ _ _ _ => True) (fun _ U_ o_ U'_ => ∃ v_ L_, o_ = .returned v_ ∧ Q_take1 Z a d g kd kg x0 x1 x2 x3 y0 y1 y2 y3 h0 n0 v_ U'_.heap L_ ∧ FrameEnd U_ o_ U'_ L_ ({ frames := 0, cells := 0, slots := 0, locals := 0 } : Room).cells ({ frames := 0, cells := 0, slots := 0, locals := 0 } : Room).slots) := by
  exact rm_take1_ l Z a0 hw ws a d g kd kg x0 x1 x2 x3 y0 y1 y2 y3 h0 n0 Z0 F_size_a F_keys_a F_nodes_a E_a g_a g_d g_g V_d V_g ndg nad nag
def Q_take2 (Z : State) (a : Addr) (d : Addr) (g : Addr) (kd : ClassId) (kg : ClassId) (x0 : Int64) (x1 : Int64) (x2 : Int64) (x3 : Int64) (y0 : Int32) (y1 : Int32) (y2 : Int32) (y3 : Int32) (h0 : Heap) (n0 : Nat) (v_ : Option Value) (h_ : Heap) (L_ : List Loc) : Prop := ∃ u0 : Int64, ∃ u1 : Int64, ∃ u2 : Int64, ∃ u3 : Int64, ∃ v0 : Int32, ∃ v1 : Int32, ∃ v2 : Int32, ∃ v3 : Int32, v_ = some (.int y0) ∧ Fr n0 L_ ∧ Keep h0 h_ [a, d, g] ∧ Fld Z h_ a "com/example/greenweft/greenweft/steiner/NodeHeap" "size" "I" (.int (1 : Int32)) ∧ Fld Z h_ a "com/example/greenweft/greenweft/steiner/NodeHeap" "keys" "[J" (.ref d) ∧ Fld Z h_ a "com/example/greenweft/greenweft/steiner/NodeHeap" "nodes" "[I" (.ref g) ∧ Exa Z h_ a "com/example/greenweft/greenweft/steiner/NodeHeap" ∧ Arv Z h_ d kd .long (16 : Int32) [(.long u0), (.long u1), (.long u2), (.long u3)] (.long (0 : Int64)) ∧ Arv Z h_ g kg .int (16 : Int32) [(.int v0), (.int v1), (.int v2), (.int v3)] (.int (0 : Int32))
theorem ef_take2_ (mM : MethodId) (x0 : Addr) : entryFrame mM #[(.ref x0)] 7 = mkF mM 0 #[.val (.ref x0), .unset, .unset, .unset, .unset, .unset, .unset] [] := by first | (simp [entryFrame, mkF, argsToLocals, Value.category]; done) | rfl
set_option maxRecDepth 65536 in
set_option maxHeartbeats 40000000 in
theorem rm_take2_ (l : Launch) (Z : State) (a0 : Array Value) (hw : ∀ d ∈ tables_1, d.before a0 Z = true) (ws : List Jvm.Cond) (a : Addr) (d : Addr) (g : Addr) (kd : ClassId) (kg : ClassId) (x0 : Int64) (x1 : Int64) (x2 : Int64) (x3 : Int64) (y0 : Int32) (y1 : Int32) (y2 : Int32) (y3 : Int32) (h0 : Heap) (n0 : Nat) (Z0 : n0 ≤ h0.size) (F_size_a : Fld Z h0 a "com/example/greenweft/greenweft/steiner/NodeHeap" "size" "I" (.int (2 : Int32))) (F_keys_a : Fld Z h0 a "com/example/greenweft/greenweft/steiner/NodeHeap" "keys" "[J" (.ref d)) (F_nodes_a : Fld Z h0 a "com/example/greenweft/greenweft/steiner/NodeHeap" "nodes" "[I" (.ref g)) (E_a : Exa Z h0 a "com/example/greenweft/greenweft/steiner/NodeHeap") (g_a : n0 ≤ a) (g_d : n0 ≤ d) (g_g : n0 ≤ g) (V_d : Arv Z h0 d kd .long (16 : Int32) [(.long x0), (.long x1), (.long x2), (.long x3)] (.long (0 : Int64))) (V_g : Arv Z h0 g kg .int (16 : Int32) [(.int y0), (.int y1), (.int y2), (.int y3)] (.int (0 : Int32))) (ndg : d ≠ g) (nad : a ≠ d) (nag : a ≠ g) :
    MetFree l (⟨"com/example/greenweft/greenweft/steiner/NodeHeap", "takeLowest", "()I"⟩ : MethodName) (head1 (Jvm.Cond.code (⟨"com/example/greenweft/greenweft/steiner/NodeHeap", "takeLowest", "()I"⟩ : MethodName) prog_33_method_6_code 7 (some .int) :: ws) ({ frames := 0, cells := 0, slots := 0, locals := 0 } : Room)) (fun aa_ U_ => aa_ = #[(.ref a)] ∧ Z.Warmed39 U_.vm ∧ U_.heap = h0) (fun _ _ _ _ _ => True) (fun _ U_ o_ U'_ => ∃ v_ L_, o_ = .returned v_ ∧ Q_take2 Z a d g kd kg x0 x1 x2 x3 y0 y1 y2 y3 h0 n0 v_ U'_.heap L_ ∧ FrameEnd U_ o_ U'_ L_ ({ frames := 0, cells := 0, slots := 0, locals := 0 } : Room).cells ({ frames := 0, cells := 0, slots := 0, locals := 0 } : Room).slots) := by
  refine MetFree.of_bodySF (plainFor_of_name pn_0) hisR ?_
  intro pP eE sS mM argsA below meth cC s₁ Bd hml0 hP hK
  obtain ⟨rfl, hZ, hh⟩ := hP
  have hx := Bd.exec
  have hby := Bd.bytes
  have hml : cC.maxLocals = 7 := hml0
  have hown : sS.vm.findClass "com/example/greenweft/greenweft/steiner/NodeHeap" = some mM.cls := findClass_of_methodNamed Bd.named
  have hnm := (name_of_methodNamed Bd.named Bd.method).1
  have X0 : Stand pP l eE ({ frames := 0, cells := 0, slots := 0, locals := 0 } : Room) sS mM #[(.ref a)] below meth cC s₁ [] 0 0 := Stand.of_body Bd
  have e0 : s₁.heap = h0 := by rw [← hh, Bd.state]; rfl
  have N0 := Fr.nil n0
  have pre0 : ∀ t_, Steps pP.tables eE below (s₁.setTop (mkF mM 0 #[.val (.ref a), .unset, .unset, .unset, .unset, .unset, .unset] [])) t_ → Steps pP.tables eE below (s₁.setTop (entryFrame mM #[(.ref a)] 7)) t_ := fun t_ k_ => castTop (ef_take2_ mM a) k_
  obtain ⟨T_1, X_1, e_1, st_1⟩ := getF X0 hx hZ hown (host := "") (Or.inl (ow hw 14 rfl)) Via.refl e0 F_nodes_a (g := (mkF mM 1 #[.val (.ref a), .unset, .unset, .unset, .unset, .unset, .unset] [(.ref a)])) rfl rfl (hb hby d_prog_33m6_1)
  obtain ⟨cl_2, Ar_2, qa_2, Sa_2, Na_2, Ha_2, Ga_2⟩ := id V_g
  have hin_2 : ¬ ((0 : Int32) < 0 ∨ cl_2.slots.size ≤ ((0 : Int32)).toNatClampNeg) := inb_of Sa_2 ⟨by decide, by decide⟩
  have hat_2 : cl_2.slots[((0 : Int32)).toNatClampNeg]? = some (.int y0) := Has.at Ha_2 hin_2 rfl
  obtain ⟨T_3, X_3, e_3, st_3⟩ := getF X_1 hx hZ hown (host := "") (Or.inl (ow hw 11 rfl)) Via.refl e_1 F_keys_a (g := (mkF mM 8 #[.val (.ref a), .val (.int y0), .unset, .unset, .unset, .unset, .unset] [(.ref a)])) rfl rfl (hb hby d_prog_33m6_8)
  obtain ⟨T_4, X_4, e_4, st_4⟩ := getF X_3 hx hZ hown (host := "") (Or.inl (ow hw 21 rfl)) Via.refl e_3 F_size_a (g := (mkF mM 13 #[.val (.ref a), .val (.int y0), .unset, .unset, .unset, .unset, .unset] [(.ref a), (.ref a), (.ref d)])) rfl rfl (hb hby d_prog_33m6_13)
  obtain ⟨T_5, h_5, X_5, e_5, W_5, st_5⟩ := putF X_4 hx hZ hown (host := "") (Or.inl (ow hw 21 rfl)) Via.refl e_4 F_size_a E_a (Or.inl (ow hw 22 rfl)) (ow hw 2 rfl) (ty := .int) (by decide) rfl rfl (g := (mkF mM 19 #[.val (.ref a), .val (.int y0), .unset, .unset, .unset, .unset, .unset] [(.int (1 : Int32)), (.ref a), (.int (1 : Int32)), (.ref d)])) rfl rfl (hb hby d_prog_33m6_19)
  have Fw_5 := F_size_a.same W_5
  have Z_5 : n0 ≤ h_5.size := (Nat.le_trans Z0 (Keep.of_wr W_5).1)
  have K_5 : Keep h0 h_5 [a, d, g] := (Keep.refl h0 [a, d, g]).wr W_5 (Or.inl (List.mem_of_getElem? (i := 0) rfl))
  have N_5 := Fr.snoc X_5 N0 g_a
  obtain ⟨cl_6, Ar_6, qa_6, Sa_6, Na_6, Ha_6, Ga_6⟩ := id (V_d.other W_5 (Ne.symm nad))
  have hin_6 : ¬ ((1 : Int32) < 0 ∨ cl_6.slots.size ≤ ((1 : Int32)).toNatClampNeg) := inb_of Sa_6 ⟨by decide, by decide⟩
  have hat_6 : cl_6.slots[((1 : Int32)).toNatClampNeg]? = some (.long x1) := Has.at Ha_6 hin_6 rfl
  obtain ⟨T_7, X_7, e_7, st_7⟩ := getF X_5 hx hZ hown (host := "") (Or.inl (ow hw 14 rfl)) Via.refl e_5 (F_nodes_a.other W_5 (Or.inr (slot_ne (Or.inl (ow hw 15 rfl)) (Or.inl (ow hw 22 rfl)) (by decide) (t := (.array .int)) (t' := .int) (by decide) (by decide)))) (g := (mkF mM 25 #[.val (.ref a), .val (.int y0), .val (.long x1), .second, .unset, .unset, .unset] [(.ref a)])) rfl rfl (hb hby d_prog_33m6_25)
  obtain ⟨T_8, X_8, e_8, st_8⟩ := getF X_7 hx hZ hown (host := "") (Or.inl (ow hw 21 rfl)) Via.refl e_7 Fw_5 (g := (mkF mM 29 #[.val (.ref a), .val (.int y0), .val (.long x1), .second, .unset, .unset, .unset] [(.ref a), (.ref g)])) rfl rfl (hb hby d_prog_33m6_29)
  obtain ⟨cl_9, Ar_9, qa_9, Sa_9, Na_9, Ha_9, Ga_9⟩ := id (V_g.other W_5 (Ne.symm nag))
  have hin_9 : ¬ ((1 : Int32) < 0 ∨ cl_9.slots.size ≤ ((1 : Int32)).toNatClampNeg) := inb_of Sa_9 ⟨by decide, by decide⟩
  have hat_9 : cl_9.slots[((1 : Int32)).toNatClampNeg]? = some (.int y1) := Has.at Ha_9 hin_9 rfl
  obtain ⟨T_10, X_10, e_10, st_10⟩ := getF X_8 hx hZ hown (host := "") (Or.inl (ow hw 21 rfl)) Via.refl e_8 Fw_5 (g := (mkF mM 49 #[.val (.ref a), .val (.int y0), .val (.long x1), .second, .val (.int y1), .val (.int (0 : Int32)), .val (.int (1 : Int32))] [(.ref a), (.int (1 : Int32))])) rfl rfl (hb hby d_prog_33m6_49)
  obtain ⟨T_11, X_11, e_11, st_11⟩ := getF X_10 hx hZ hown (host := "") (Or.inl (ow hw 11 rfl)) Via.refl e_10 (F_keys_a.other W_5 (Or.inr (slot_ne (Or.inl (ow hw 12 rfl)) (Or.inl (ow hw 22 rfl)) (by decide) (t := (.array .long)) (t' := .int) (by decide) (by decide)))) (g := (mkF mM 172 #[.val (.ref a), .val (.int y0), .val (.long x1), .second, .val (.int y1), .val (.int (0 : Int32)), .val (.int (1 : Int32))] [(.ref a)])) rfl rfl (hb hby d_prog_33m6_172)
  obtain ⟨cl_12, Ar_12, qa_12, Sa_12, Na_12, Ha_12, Ga_12⟩ := id (V_d.other W_5 (Ne.symm nad))
  have hin_12 : ¬ ((0 : Int32) < 0 ∨ cl_12.slots.size ≤ ((0 : Int32)).toNatClampNeg) := inb_of Sa_12 ⟨by decide, by decide⟩
  obtain ⟨T_12, h_12, X_12, e_12, W_12, st_12⟩ := stJ X_11 hx hZ e_11 Ar_12 (j := (0 : Int32)) hin_12 (g := (mkF mM 178 #[.val (.ref a), .val (.int y0), .val (.long x1), .second, .val (.int y1), .val (.int (0 : Int32)), .val (.int (1 : Int32))] [(.long x1), (.int (0 : Int32)), (.ref d)])) rfl rfl (hb hby d_prog_33m6_178)
  have V_12 : Arv Z h_12 d kd .long (16 : Int32) [(.long x1), (.long x1), (.long x2), (.long x3)] (.long (0 : Int64)) := Arv.set Ar_12 qa_12 Sa_12 Na_12 Ha_12 Ga_12 rfl W_12 0 rfl (Nat.le_of_ble_eq_true rfl)
  have Z_12 : n0 ≤ h_12.size := (Nat.le_trans Z_5 (Keep.of_wr W_12).1)
  have K_12 : Keep h0 h_12 [a, d, g] := K_5.wr W_12 (Or.inl (List.mem_of_getElem? (i := 1) rfl))
  have N_12 := Fr.snoc X_12 N_5 g_d
  obtain ⟨T_13, X_13, e_13, st_13⟩ := getF X_12 hx hZ hown (host := "") (Or.inl (ow hw 14 rfl)) Via.refl e_12 ((F_nodes_a.other W_5 (Or.inr (slot_ne (Or.inl (ow hw 15 rfl)) (Or.inl (ow hw 22 rfl)) (by decide) (t := (.array .int)) (t' := .int) (by decide) (by decide)))).other W_12 (Or.inl nad)) (g := (mkF mM 180 #[.val (.ref a), .val (.int y0), .val (.long x1), .second, .val (.int y1), .val (.int (0 : Int32)), .val (.int (1 : Int32))] [(.ref a)])) rfl rfl (hb hby d_prog_33m6_180)
  obtain ⟨cl_14, Ar_14, qa_14, Sa_14, Na_14, Ha_14, Ga_14⟩ := id ((V_g.other W_5 (Ne.symm nag)).other W_12 (Ne.symm ndg))
  have hin_14 : ¬ ((0 : Int32) < 0 ∨ cl_14.slots.size ≤ ((0 : Int32)).toNatClampNeg) := inb_of Sa_14 ⟨by decide, by decide⟩
  obtain ⟨T_14, h_14, X_14, e_14, W_14, st_14⟩ := stI X_13 hx hZ e_13 Ar_14 (j := (0 : Int32)) hin_14 (g := (mkF mM 187 #[.val (.ref a), .val (.int y0), .val (.long x1), .second, .val (.int y1), .val (.int (0 : Int32)), .val (.int (1 : Int32))] [(.int y1), (.int (0 : Int32)), (.ref g)])) rfl rfl (hb hby d_prog_33m6_187)
  have V_14 : Arv Z h_14 g kg .int (16 : Int32) [(.int y1), (.int y1), (.int y2), (.int y3)] (.int (0 : Int32)) := Arv.set Ar_14 qa_14 Sa_14 Na_14 Ha_14 Ga_14 rfl W_14 0 rfl (Nat.le_of_ble_eq_true rfl)
  have Z_14 : n0 ≤ h_14.size := (Nat.le_trans Z_12 (Keep.of_wr W_14).1)
  have K_14 : Keep h0 h_14 [a, d, g] := K_12.wr W_14 (Or.inl (List.mem_of_getElem? (i := 2) rfl))
  have N_14 := Fr.snoc X_14 N_12 g_g
  obtain ⟨fs, hr, hrun, hended, hW, hsame⟩ := X_14.leave (v := some (.int y0)) (fun h => by rw [Bd.returns] at h; cases h)
  refine ⟨_, _, pre0 _ ?_, hrun, hended, _, _, rfl, ?_, ⟨_, rfl⟩, hW, hsame.mono (by decide) (by decide)⟩
  · show oS pP eE below s₁ (mkF mM 0 #[.val (.ref a), .unset, .unset, .unset, .unset, .unset, .unset] []) _
    refine XS.aloadN X0.here hx rfl (hb hby d_prog_33m6_0) rfl rfl ?_
    show oS pP eE below s₁ (mkF mM 1 #[.val (.ref a), .unset, .unset, .unset, .unset, .unset, .unset] [(.ref a)]) _
    refine st_1 _ ?_
    show oS pP eE below T_1 (mkF mM 4 #[.val (.ref a), .unset, .unset, .unset, .unset, .unset, .unset] [(.ref g)]) _
    refine XS.iconst X_1.here hx rfl (hb hby d_prog_33m6_4) ?_
    show oS pP eE below T_1 (mkF mM 5 #[.val (.ref a), .unset, .unset, .unset, .unset, .unset, .unset] [(.int (0 : Int32)), (.ref g)]) _
    refine X_1.iaload hx (j := (0 : Int32)) (v := (.int y0)) (by rw [e_1]; exact Ar_2.1) (State.isArrayOf_alike hZ.alike Ar_2.2.1) Ar_2.2.2 hin_2 hat_2 (g := (mkF mM 5 #[.val (.ref a), .unset, .unset, .unset, .unset, .unset, .unset] [(.int (0 : Int32)), (.ref g)])) rfl rfl (hb hby d_prog_33m6_5) _ ?_
    refine XS.istoreN X_1.here hx rfl (hb hby d_prog_33m6_6) rfl (l' := #[.val (.ref a), .val (.int y0), .unset, .unset, .unset, .unset, .unset]) rfl ?_
    refine XS.aloadN X_1.here hx rfl (hb hby d_prog_33m6_7) rfl rfl ?_
    show oS pP eE below T_1 (mkF mM 8 #[.val (.ref a), .val (.int y0), .unset, .unset, .unset, .unset, .unset] [(.ref a)]) _
    refine st_3 _ ?_
    show oS pP eE below T_3 (mkF mM 11 #[.val (.ref a), .val (.int y0), .unset, .unset, .unset, .unset, .unset] [(.ref d)]) _
    refine XS.aloadN X_3.here hx rfl (hb hby d_prog_33m6_11) rfl rfl ?_
    refine XS.dup X_3.here hx rfl (hb hby d_prog_33m6_12) rfl rfl ?_
    show oS pP eE below T_3 (mkF mM 13 #[.val (.ref a), .val (.int y0), .unset, .unset, .unset, .unset, .unset] [(.ref a), (.ref a), (.ref d)]) _
    refine st_4 _ ?_
    show oS pP eE below T_4 (mkF mM 16 #[.val (.ref a), .val (.int y0), .unset, .unset, .unset, .unset, .unset] [(.int (2 : Int32)), (.ref a), (.ref d)]) _
    refine XS.iconst X_4.here hx rfl (hb hby d_prog_33m6_16) ?_
    show oS pP eE below T_4 (mkF mM 17 #[.val (.ref a), .val (.int y0), .unset, .unset, .unset, .unset, .unset] [(.int (1 : Int32)), (.int (2 : Int32)), (.ref a), (.ref d)]) _
    refine XS.isub X_4.here hx rfl (hb hby d_prog_33m6_17) rfl ?_
    show oS pP eE below T_4 (mkF mM 18 #[.val (.ref a), .val (.int y0), .unset, .unset, .unset, .unset, .unset] [(.int ((2 : Int32) - (1 : Int32))), (.ref a), (.ref d)]) _
    rw [(by decide : ((2 : Int32) - (1 : Int32)) = (1 : Int32))]
    show oS pP eE below T_4 (mkF mM 18 #[.val (.ref a), .val (.int y0), .unset, .unset, .unset, .unset, .unset] [(.int (1 : Int32)), (.ref a), (.ref d)]) _
    refine XT.dupX1 X_4.here hx rfl (hb hby d_prog_33m6_18) rfl rfl rfl ?_
    show oS pP eE below T_4 (mkF mM 19 #[.val (.ref a), .val (.int y0), .unset, .unset, .unset, .unset, .unset] [(.int (1 : Int32)), (.ref a), (.int (1 : Int32)), (.ref d)]) _
    refine st_5 _ ?_
    show oS pP eE below T_5 (mkF mM 22 #[.val (.ref a), .val (.int y0), .unset, .unset, .unset, .unset, .unset] [(.int (1 : Int32)), (.ref d)]) _
    refine X_5.laload hx (j := (1 : Int32)) (v := (.long x1)) (by rw [e_5]; exact Ar_6.1) (State.isArrayOf_alike hZ.alike Ar_6.2.1) Ar_6.2.2 hin_6 hat_6 (g := (mkF mM 22 #[.val (.ref a), .val (.int y0), .unset, .unset, .unset, .unset, .unset] [(.int (1 : Int32)), (.ref d)])) rfl rfl (hb hby d_prog_33m6_22) _ ?_
    refine XT.lstoreN X_5.here hx rfl (hb hby d_prog_33m6_23) rfl (l' := #[.val (.ref a), .val (.int y0), .val (.long x1), .second, .unset, .unset, .unset]) rfl ?_
    refine XS.aloadN X_5.here hx rfl (hb hby d_prog_33m6_24) rfl rfl ?_
    show oS pP eE below T_5 (mkF mM 25 #[.val (.ref a), .val (.int y0), .val (.long x1), .second, .unset, .unset, .unset] [(.ref a)]) _
    refine st_7 _ ?_
    show oS pP eE below T_7 (mkF mM 28 #[.val (.ref a), .val (.int y0), .val (.long x1), .second, .unset, .unset, .unset] [(.ref g)]) _
    refine XS.aloadN X_7.here hx rfl (hb hby d_prog_33m6_28) rfl rfl ?_
    show oS pP eE below T_7 (mkF mM 29 #[.val (.ref a), .val (.int y0), .val (.long x1), .second, .unset, .unset, .unset] [(.ref a), (.ref g)]) _
    refine st_8 _ ?_
    show oS pP eE below T_8 (mkF mM 32 #[.val (.ref a), .val (.int y0), .val (.long x1), .second, .unset, .unset, .unset] [(.int (1 : Int32)), (.ref g)]) _
    refine X_8.iaload hx (j := (1 : Int32)) (v := (.int y1)) (by rw [e_8]; exact Ar_9.1) (State.isArrayOf_alike hZ.alike Ar_9.2.1) Ar_9.2.2 hin_9 hat_9 (g := (mkF mM 32 #[.val (.ref a), .val (.int y0), .val (.long x1), .second, .unset, .unset, .unset] [(.int (1 : Int32)), (.ref g)])) rfl rfl (hb hby d_prog_33m6_32) _ ?_
    refine XS.istore X_8.here hx rfl (hb hby d_prog_33m6_33) rfl (l' := #[.val (.ref a), .val (.int y0), .val (.long x1), .second, .val (.int y1), .unset, .unset]) rfl ?_
    refine XS.iconst X_8.here hx rfl (hb hby d_prog_33m6_35) ?_
    refine XS.istore X_8.here hx rfl (hb hby d_prog_33m6_36) rfl (l' := #[.val (.ref a), .val (.int y0), .val (.long x1), .second, .val (.int y1), .val (.int (0 : Int32)), .unset]) rfl ?_
    refine XS.iconst X_8.here hx rfl (hb hby d_prog_33m6_38) ?_
    refine XS.iload X_8.here hx rfl (hb hby d_prog_33m6_39) rfl ?_
    show oS pP eE below T_8 (mkF mM 41 #[.val (.ref a), .val (.int y0), .val (.long x1), .second, .val (.int y1), .val (.int (0 : Int32)), .unset] [(.int (0 : Int32)), (.int (2 : Int32))]) _
    refine XS.imul X_8.here hx rfl (hb hby d_prog_33m6_41) rfl ?_
    show oS pP eE below T_8 (mkF mM 42 #[.val (.ref a), .val (.int y0), .val (.long x1), .second, .val (.int y1), .val (.int (0 : Int32)), .unset] [(.int ((2 : Int32) * (0 : Int32)))]) _
    rw [(by decide : ((2 : Int32) * (0 : Int32)) = (0 : Int32))]
    refine XS.iconst X_8.here hx rfl (hb hby d_prog_33m6_42) ?_
    show oS pP eE below T_8 (mkF mM 43 #[.val (.ref a), .val (.int y0), .val (.long x1), .second, .val (.int y1), .val (.int (0 : Int32)), .unset] [(.int (1 : Int32)), (.int (0 : Int32))]) _
    refine XS.iadd X_8.here hx rfl (hb hby d_prog_33m6_43) rfl ?_
    show oS pP eE below T_8 (mkF mM 44 #[.val (.ref a), .val (.int y0), .val (.long x1), .second, .val (.int y1), .val (.int (0 : Int32)), .unset] [(.int ((0 : Int32) + (1 : Int32)))]) _
    rw [(by decide : ((0 : Int32) + (1 : Int32)) = (1 : Int32))]
    refine XS.istore X_8.here hx rfl (hb hby d_prog_33m6_44) rfl (l' := #[.val (.ref a), .val (.int y0), .val (.long x1), .second, .val (.int y1), .val (.int (0 : Int32)), .val (.int (1 : Int32))]) rfl ?_
    refine XS.iload X_8.here hx rfl (hb hby d_prog_33m6_46) rfl ?_
    refine XS.aloadN X_8.here hx rfl (hb hby d_prog_33m6_48) rfl rfl ?_
    show oS pP eE below T_8 (mkF mM 49 #[.val (.ref a), .val (.int y0), .val (.long x1), .second, .val (.int y1), .val (.int (0 : Int32)), .val (.int (1 : Int32))] [(.ref a), (.int (1 : Int32))]) _
    refine st_10 _ ?_
    show oS pP eE below T_10 (mkF mM 52 #[.val (.ref a), .val (.int y0), .val (.long x1), .second, .val (.int y1), .val (.int (0 : Int32)), .val (.int (1 : Int32))] [(.int (1 : Int32)), (.int (1 : Int32))]) _
    refine XS.icmpNo X_10.here hx rfl (hb hby d_prog_33m6_52) rfl (by decide) ?_
    refine XS.goto X_10.here hx rfl (pc0 := 55) (pc' := 171) rfl (hb hby d_prog_33m6_55) (by decide) (by decide) ?_
    refine XS.aloadN X_10.here hx rfl (hb hby d_prog_33m6_171) rfl rfl ?_
    show oS pP eE below T_10 (mkF mM 172 #[.val (.ref a), .val (.int y0), .val (.long x1), .second, .val (.int y1), .val (.int (0 : Int32)), .val (.int (1 : Int32))] [(.ref a)]) _
    refine st_11 _ ?_
    show oS pP eE below T_11 (mkF mM 175 #[.val (.ref a), .val (.int y0), .val (.long x1), .second, .val (.int y1), .val (.int (0 : Int32)), .val (.int (1 : Int32))] [(.ref d)]) _
    refine XS.iload X_11.here hx rfl (hb hby d_prog_33m6_175) rfl ?_
    refine XT.lloadN X_11.here hx rfl (hb hby d_prog_33m6_177) rfl ?_
    show oS pP eE below T_11 (mkF mM 178 #[.val (.ref a), .val (.int y0), .val (.long x1), .second, .val (.int y1), .val (.int (0 : Int32)), .val (.int (1 : Int32))] [(.long x1), (.int (0 : Int32)), (.ref d)]) _
    refine st_12 _ ?_
    show oS pP eE below T_12 (mkF mM 179 #[.val (.ref a), .val (.int y0), .val (.long x1), .second, .val (.int y1), .val (.int (0 : Int32)), .val (.int (1 : Int32))] []) _
    refine XS.aloadN X_12.here hx rfl (hb hby d_prog_33m6_179) rfl rfl ?_
    show oS pP eE below T_12 (mkF mM 180 #[.val (.ref a), .val (.int y0), .val (.long x1), .second, .val (.int y1), .val (.int (0 : Int32)), .val (.int (1 : Int32))] [(.ref a)]) _
    refine st_13 _ ?_
    show oS pP eE below T_13 (mkF mM 183 #[.val (.ref a), .val (.int y0), .val (.long x1), .second, .val (.int y1), .val (.int (0 : Int32)), .val (.int (1 : Int32))] [(.ref g)]) _
    refine XS.iload X_13.here hx rfl (hb hby d_prog_33m6_183) rfl ?_
    refine XS.iload X_13.here hx rfl (hb hby d_prog_33m6_185) rfl ?_
    show oS pP eE below T_13 (mkF mM 187 #[.val (.ref a), .val (.int y0), .val (.long x1), .second, .val (.int y1), .val (.int (0 : Int32)), .val (.int (1 : Int32))] [(.int y1), (.int (0 : Int32)), (.ref g)]) _
    refine st_14 _ ?_
    show oS pP eE below T_14 (mkF mM 188 #[.val (.ref a), .val (.int y0), .val (.long x1), .second, .val (.int y1), .val (.int (0 : Int32)), .val (.int (1 : Int32))] []) _
    refine XS.iloadN X_14.here hx rfl (hb hby d_prog_33m6_188) rfl ?_
    show oS pP eE below T_14 (mkF mM 189 #[.val (.ref a), .val (.int y0), .val (.long x1), .second, .val (.int y1), .val (.int (0 : Int32)), .val (.int (1 : Int32))] [(.int y0)]) _
    exact retI X_14 hx Bd.returns (hb hby d_prog_33m6_189) hr
  · show Q_take2 Z a d g kd kg x0 x1 x2 x3 y0 y1 y2 y3 h0 n0 _ T_14.heap _
    rw [e_14]
    exact ⟨x1, x1, x2, x3, y1, y1, y2, y3, rfl, N_14, K_14, ((Fw_5.other W_12 (Or.inl nad)).other W_14 (Or.inl nag)), (((F_keys_a.other W_5 (Or.inr (slot_ne (Or.inl (ow hw 12 rfl)) (Or.inl (ow hw 22 rfl)) (by decide) (t := (.array .long)) (t' := .int) (by decide) (by decide)))).other W_12 (Or.inl nad)).other W_14 (Or.inl nag)), (((F_nodes_a.other W_5 (Or.inr (slot_ne (Or.inl (ow hw 15 rfl)) (Or.inl (ow hw 22 rfl)) (by decide) (t := (.array .int)) (t' := .int) (by decide) (by decide)))).other W_12 (Or.inl nad)).other W_14 (Or.inl nag)), (((E_a.wr W_5).wr W_12).wr W_14), (V_12.other W_14 ndg), V_14⟩
set_option maxRecDepth 65536 in
set_option maxHeartbeats 40000000 in
theorem rm_take2 (l : Launch) (Z : State) (a0 : Array Value) (hw : ∀ d ∈ tables_1, d.before a0 Z = true) (ws : List Jvm.Cond) (a : Addr) (d : Addr) (g : Addr) (kd : ClassId) (kg : ClassId) (x0 : Int64) (x1 : Int64) (x2 : Int64) (x3 : Int64) (y0 : Int32) (y1 : Int32) (y2 : Int32) (y3 : Int32) (h0 : Heap) (n0 : Nat) (Z0 : n0 ≤ h0.size) (F_size_a : Fld Z h0 a "com/example/greenweft/greenweft/steiner/NodeHeap" "size" "I" (.int (2 : Int32))) (F_keys_a : Fld Z h0 a "com/example/greenweft/greenweft/steiner/NodeHeap" "keys" "[J" (.ref d)) (F_nodes_a : Fld Z h0 a "com/example/greenweft/greenweft/steiner/NodeHeap" "nodes" "[I" (.ref g)) (E_a : Exa Z h0 a "com/example/greenweft/greenweft/steiner/NodeHeap") (g_a : n0 ≤ a) (g_d : n0 ≤ d) (g_g : n0 ≤ g) (V_d : Arv Z h0 d kd .long (16 : Int32) [(.long x0), (.long x1), (.long x2), (.long x3)] (.long (0 : Int64))) (V_g : Arv Z h0 g kg .int (16 : Int32) [(.int y0), (.int y1), (.int y2), (.int y3)] (.int (0 : Int32))) (ndg : d ≠ g) (nad : a ≠ d) (nag : a ≠ g) :
    MetFree l (⟨"com/example/greenweft/greenweft/steiner/NodeHeap", "takeLowest", "()I"⟩ : MethodName) (head1 (Jvm.Cond.code (⟨"com/example/greenweft/greenweft/steiner/NodeHeap", "takeLowest", "()I"⟩ : MethodName) prog_33_method_6_code 7 (some .int) :: ws) ({ frames := 0, cells := 0, slots := 0, locals := 0 } : Room)) (fun aa_ U_ => aa_ = #[(.ref a)] ∧ Z.Warmed39 U_.vm ∧ U_.heap = h0) (fun _ _ _ _ _ => True) (fun _ U_ o_ U'_ => ∃ v_ L_, o_ = .returned v_ ∧ Q_take2 Z a d g kd kg x0 x1 x2 x3 y0 y1 y2 y3 h0 n0 v_ U'_.heap L_ ∧ FrameEnd U_ o_ U'_ L_ ({ frames := 0, cells := 0, slots := 0, locals := 0 } : Room).cells ({ frames := 0, cells := 0, slots := 0, locals := 0 } : Room).slots) := by
  exact rm_take2_ l Z a0 hw ws a d g kd kg x0 x1 x2 x3 y0 y1 y2 y3 h0 n0 Z0 F_size_a F_keys_a F_nodes_a E_a g_a g_d g_g V_d V_g ndg nad nag
def Q_take3 (Z : State) (a : Addr) (d : Addr) (g : Addr) (kd : ClassId) (kg : ClassId) (x0 : Int64) (x1 : Int64) (x2 : Int64) (x3 : Int64) (y0 : Int32) (y1 : Int32) (y2 : Int32) (y3 : Int32) (h0 : Heap) (n0 : Nat) (v_ : Option Value) (h_ : Heap) (L_ : List Loc) : Prop := ∃ u0 : Int64, ∃ u1 : Int64, ∃ u2 : Int64, ∃ u3 : Int64, ∃ v0 : Int32, ∃ v1 : Int32, ∃ v2 : Int32, ∃ v3 : Int32, v_ = some (.int y0) ∧ Fr n0 L_ ∧ Keep h0 h_ [a, d, g] ∧ Fld Z h_ a "com/example/greenweft/greenweft/steiner/NodeHeap" "size" "I" (.int (2 : Int32)) ∧ Fld Z h_ a "com/example/greenweft/greenweft/steiner/NodeHeap" "keys" "[J" (.ref d) ∧ Fld Z h_ a "com/example/greenweft/greenweft/steiner/NodeHeap" "nodes" "[I" (.ref g) ∧ Exa Z h_ a "com/example/greenweft/greenweft/steiner/NodeHeap" ∧ Arv Z h_ d kd .long (16 : Int32) [(.long u0), (.long u1), (.long u2), (.long u3)] (.long (0 : Int64)) ∧ Arv Z h_ g kg .int (16 : Int32) [(.int v0), (.int v1), (.int v2), (.int v3)] (.int (0 : Int32))
theorem d_prog_33m6_58 : decode prog_33_method_6_code 58 = .ok (.iload 6, 2) := by decide +kernel
theorem d_prog_33m6_60 : decode prog_33_method_6_code 60 = .ok (.iconst 1, 1) := by decide +kernel
theorem d_prog_33m6_61 : decode prog_33_method_6_code 61 = .ok (.iadd, 1) := by decide +kernel
theorem d_prog_33m6_62 : decode prog_33_method_6_code 62 = .ok (.aload_n 0, 1) := by decide +kernel
theorem d_prog_33m6_63 : decode prog_33_method_6_code 63 = .ok (.getfield 17, 3) := by decide +kernel
theorem d_prog_33m6_66 : decode prog_33_method_6_code 66 = .ok (.if_icmp .ge 44, 3) := by decide +kernel
theorem d_prog_33m6_110 : decode prog_33_method_6_code 110 = .ok (.aload_n 0, 1) := by decide +kernel
theorem d_prog_33m6_111 : decode prog_33_method_6_code 111 = .ok (.getfield 7, 3) := by decide +kernel
theorem d_prog_33m6_114 : decode prog_33_method_6_code 114 = .ok (.iload 6, 2) := by decide +kernel
theorem d_prog_33m6_116 : decode prog_33_method_6_code 116 = .ok (.laload, 1) := by decide +kernel
theorem d_prog_33m6_117 : decode prog_33_method_6_code 117 = .ok (.aload_n 0, 1) := by decide +kernel
theorem d_prog_33m6_118 : decode prog_33_method_6_code 118 = .ok (.getfield 13, 3) := by decide +kernel
theorem d_prog_33m6_121 : decode prog_33_method_6_code 121 = .ok (.iload 6, 2) := by decide +kernel
theorem d_prog_33m6_123 : decode prog_33_method_6_code 123 = .ok (.iaload, 1) := by decide +kernel
theorem d_prog_33m6_124 : decode prog_33_method_6_code 124 = .ok (.lload_n 2, 1) := by decide +kernel
theorem d_prog_33m6_125 : decode prog_33_method_6_code 125 = .ok (.iload 4, 2) := by decide +kernel
theorem d_prog_33m6_127 : decode prog_33_method_6_code 127 = .ok (.invokestatic 30, 3) := by decide +kernel
theorem d_prog_33m6_130 : decode prog_33_method_6_code 130 = .ok (.ifCond .ne 6, 3) := by decide +kernel
theorem d_prog_33m6_133 : decode prog_33_method_6_code 133 = .ok (.goto 38, 3) := by decide +kernel
theorem ef_take3n_ (mM : MethodId) (x0 : Addr) : entryFrame mM #[(.ref x0)] 7 = mkF mM 0 #[.val (.ref x0), .unset, .unset, .unset, .unset, .unset, .unset] [] := by first | (simp [entryFrame, mkF, argsToLocals, Value.category]; done) | rfl
set_option maxRecDepth 65536 in
set_option maxHeartbeats 40000000 in
theorem rm_take3n_ (l : Launch) (Z : State) (a0 : Array Value) (hw : ∀ d ∈ tables_1, d.before a0 Z = true) (ws : List Jvm.Cond) (a : Addr) (d : Addr) (g : Addr) (kd : ClassId) (kg : ClassId) (x0 : Int64) (x1 : Int64) (x2 : Int64) (x3 : Int64) (y0 : Int32) (y1 : Int32) (y2 : Int32) (y3 : Int32) (h0 : Heap) (n0 : Nat) (Z0 : n0 ≤ h0.size) (F_size_a : Fld Z h0 a "com/example/greenweft/greenweft/steiner/NodeHeap" "size" "I" (.int (3 : Int32))) (F_keys_a : Fld Z h0 a "com/example/greenweft/greenweft/steiner/NodeHeap" "keys" "[J" (.ref d)) (F_nodes_a : Fld Z h0 a "com/example/greenweft/greenweft/steiner/NodeHeap" "nodes" "[I" (.ref g)) (E_a : Exa Z h0 a "com/example/greenweft/greenweft/steiner/NodeHeap") (g_a : n0 ≤ a) (g_d : n0 ≤ d) (g_g : n0 ≤ g) (V_d : Arv Z h0 d kd .long (16 : Int32) [(.long x0), (.long x1), (.long x2), (.long x3)] (.long (0 : Int64))) (V_g : Arv Z h0 g kg .int (16 : Int32) [(.int y0), (.int y1), (.int y2), (.int y3)] (.int (0 : Int32))) (ndg : d ≠ g) (nad : a ≠ d) (nag : a ≠ g) (hr0 : ¬ own_pre x1 y1 x2 y2) :
    MetFree l (⟨"com/example/greenweft/greenweft/steiner/NodeHeap", "takeLowest", "()I"⟩ : MethodName) (head1 (Jvm.Cond.code (⟨"com/example/greenweft/greenweft/steiner/NodeHeap", "takeLowest", "()I"⟩ : MethodName) prog_33_method_6_code 7 (some .int) :: ws) ({ frames := 1, cells := 0, slots := 0, locals := 17 } : Room)) (fun aa_ U_ => aa_ = #[(.ref a)] ∧ Z.Warmed39 U_.vm ∧ U_.heap = h0) (fun _ _ _ _ _ => True) (fun _ U_ o_ U'_ => ∃ v_ L_, o_ = .returned v_ ∧ Q_take3 Z a d g kd kg x0 x1 x2 x3 y0 y1 y2 y3 h0 n0 v_ U'_.heap L_ ∧ FrameEnd U_ o_ U'_ L_ ({ frames := 1, cells := 0, slots := 0, locals := 17 } : Room).cells ({ frames := 1, cells := 0, slots := 0, locals := 17 } : Room).slots) := by
  refine MetFree.of_bodySF (plainFor_of_name pn_0) hisR ?_
  intro pP eE sS mM argsA below meth cC s₁ Bd hml0 hP hK
  obtain ⟨rfl, hZ, hh⟩ := hP
  have hx := Bd.exec
  have hby := Bd.bytes
  have hml : cC.maxLocals = 7 := hml0
  have hown : sS.vm.findClass "com/example/greenweft/greenweft/steiner/NodeHeap" = some mM.cls := findClass_of_methodNamed Bd.named
  have hnm := (name_of_methodNamed Bd.named Bd.method).1
  have X0 : Stand pP l eE ({ frames := 1, cells := 0, slots := 0, locals := 17 } : Room) sS mM #[(.ref a)] below meth cC s₁ [] 0 0 := Stand.of_body Bd
  have e0 : s₁.heap = h0 := by rw [← hh, Bd.state]; rfl
  have N0 := Fr.nil n0
  have pre0 : ∀ t_, Steps pP.tables eE below (s₁.setTop (mkF mM 0 #[.val (.ref a), .unset, .unset, .unset, .unset, .unset, .unset] [])) t_ → Steps pP.tables eE below (s₁.setTop (entryFrame mM #[(.ref a)] 7)) t_ := fun t_ k_ => castTop (ef_take3n_ mM a) k_
  obtain ⟨T_1, X_1, e_1, st_1⟩ := getF X0 hx hZ hown (host := "") (Or.inl (ow hw 14 rfl)) Via.refl e0 F_nodes_a (g := (mkF mM 1 #[.val (.ref a), .unset, .unset, .unset, .unset, .unset, .unset] [(.ref a)])) rfl rfl (hb hby d_prog_33m6_1)
  obtain ⟨cl_2, Ar_2, qa_2, Sa_2, Na_2, Ha_2, Ga_2⟩ := id V_g
  have hin_2 : ¬ ((0 : Int32) < 0 ∨ cl_2.slots.size ≤ ((0 : Int32)).toNatClampNeg) := inb_of Sa_2 ⟨by decide, by decide⟩
  have hat_2 : cl_2.slots[((0 : Int32)).toNatClampNeg]? = some (.int y0) := Has.at Ha_2 hin_2 rfl
  obtain ⟨T_3, X_3, e_3, st_3⟩ := getF X_1 hx hZ hown (host := "") (Or.inl (ow hw 11 rfl)) Via.refl e_1 F_keys_a (g := (mkF mM 8 #[.val (.ref a), .val (.int y0), .unset, .unset, .unset, .unset, .unset] [(.ref a)])) rfl rfl (hb hby d_prog_33m6_8)
  obtain ⟨T_4, X_4, e_4, st_4⟩ := getF X_3 hx hZ hown (host := "") (Or.inl (ow hw 21 rfl)) Via.refl e_3 F_size_a (g := (mkF mM 13 #[.val (.ref a), .val (.int y0), .unset, .unset, .unset, .unset, .unset] [(.ref a), (.ref a), (.ref d)])) rfl rfl (hb hby d_prog_33m6_13)
  obtain ⟨T_5, h_5, X_5, e_5, W_5, st_5⟩ := putF X_4 hx hZ hown (host := "") (Or.inl (ow hw 21 rfl)) Via.refl e_4 F_size_a E_a (Or.inl (ow hw 22 rfl)) (ow hw 2 rfl) (ty := .int) (by decide) rfl rfl (g := (mkF mM 19 #[.val (.ref a), .val (.int y0), .unset, .unset, .unset, .unset, .unset] [(.int (2 : Int32)), (.ref a), (.int (2 : Int32)), (.ref d)])) rfl rfl (hb hby d_prog_33m6_19)
  have Fw_5 := F_size_a.same W_5
  have Z_5 : n0 ≤ h_5.size := (Nat.le_trans Z0 (Keep.of_wr W_5).1)
  have K_5 : Keep h0 h_5 [a, d, g] := (Keep.refl h0 [a, d, g]).wr W_5 (Or.inl (List.mem_of_getElem? (i := 0) rfl))
  have N_5 := Fr.snoc X_5 N0 g_a
  obtain ⟨cl_6, Ar_6, qa_6, Sa_6, Na_6, Ha_6, Ga_6⟩ := id (V_d.other W_5 (Ne.symm nad))
  have hin_6 : ¬ ((2 : Int32) < 0 ∨ cl_6.slots.size ≤ ((2 : Int32)).toNatClampNeg) := inb_of Sa_6 ⟨by decide, by decide⟩
  have hat_6 : cl_6.slots[((2 : Int32)).toNatClampNeg]? = some (.long x2) := Has.at Ha_6 hin_6 rfl
  obtain ⟨T_7, X_7, e_7, st_7⟩ := getF X_5 hx hZ hown (host := "") (Or.inl (ow hw 14 rfl)) Via.refl e_5 (F_nodes_a.other W_5 (Or.inr (slot_ne (Or.inl (ow hw 15 rfl)) (Or.inl (ow hw 22 rfl)) (by decide) (t := (.array .int)) (t' := .int) (by decide) (by decide)))) (g := (mkF mM 25 #[.val (.ref a), .val (.int y0), .val (.long x2), .second, .unset, .unset, .unset] [(.ref a)])) rfl rfl (hb hby d_prog_33m6_25)
  obtain ⟨T_8, X_8, e_8, st_8⟩ := getF X_7 hx hZ hown (host := "") (Or.inl (ow hw 21 rfl)) Via.refl e_7 Fw_5 (g := (mkF mM 29 #[.val (.ref a), .val (.int y0), .val (.long x2), .second, .unset, .unset, .unset] [(.ref a), (.ref g)])) rfl rfl (hb hby d_prog_33m6_29)
  obtain ⟨cl_9, Ar_9, qa_9, Sa_9, Na_9, Ha_9, Ga_9⟩ := id (V_g.other W_5 (Ne.symm nag))
  have hin_9 : ¬ ((2 : Int32) < 0 ∨ cl_9.slots.size ≤ ((2 : Int32)).toNatClampNeg) := inb_of Sa_9 ⟨by decide, by decide⟩
  have hat_9 : cl_9.slots[((2 : Int32)).toNatClampNeg]? = some (.int y2) := Has.at Ha_9 hin_9 rfl
  obtain ⟨T_10, X_10, e_10, st_10⟩ := getF X_8 hx hZ hown (host := "") (Or.inl (ow hw 21 rfl)) Via.refl e_8 Fw_5 (g := (mkF mM 49 #[.val (.ref a), .val (.int y0), .val (.long x2), .second, .val (.int y2), .val (.int (0 : Int32)), .val (.int (1 : Int32))] [(.ref a), (.int (1 : Int32))])) rfl rfl (hb hby d_prog_33m6_49)
  obtain ⟨T_11, X_11, e_11, st_11⟩ := getF X_10 hx hZ hown (host := "") (Or.inl (ow hw 21 rfl)) Via.refl e_10 Fw_5 (g := (mkF mM 63 #[.val (.ref a), .val (.int y0), .val (.long x2), .second, .val (.int y2), .val (.int (0 : Int32)), .val (.int (1 : Int32))] [(.ref a), (.int (2 : Int32))])) rfl rfl (hb hby d_prog_33m6_63)
  obtain ⟨T_12, X_12, e_12, st_12⟩ := getF X_11 hx hZ hown (host := "") (Or.inl (ow hw 11 rfl)) Via.refl e_11 (F_keys_a.other W_5 (Or.inr (slot_ne (Or.inl (ow hw 12 rfl)) (Or.inl (ow hw 22 rfl)) (by decide) (t := (.array .long)) (t' := .int) (by decide) (by decide)))) (g := (mkF mM 111 #[.val (.ref a), .val (.int y0), .val (.long x2), .second, .val (.int y2), .val (.int (0 : Int32)), .val (.int (1 : Int32))] [(.ref a)])) rfl rfl (hb hby d_prog_33m6_111)
  obtain ⟨cl_13, Ar_13, qa_13, Sa_13, Na_13, Ha_13, Ga_13⟩ := id (V_d.other W_5 (Ne.symm nad))
  have hin_13 : ¬ ((1 : Int32) < 0 ∨ cl_13.slots.size ≤ ((1 : Int32)).toNatClampNeg) := inb_of Sa_13 ⟨by decide, by decide⟩
  have hat_13 : cl_13.slots[((1 : Int32)).toNatClampNeg]? = some (.long x1) := Has.at Ha_13 hin_13 rfl
  obtain ⟨T_14, X_14, e_14, st_14⟩ := getF X_12 hx hZ hown (host := "") (Or.inl (ow hw 14 rfl)) Via.refl e_12 (F_nodes_a.other W_5 (Or.inr (slot_ne (Or.inl (ow hw 15 rfl)) (Or.inl (ow hw 22 rfl)) (by decide) (t := (.array .int)) (t' := .int) (by decide) (by decide)))) (g := (mkF mM 118 #[.val (.ref a), .val (.int y0), .val (.long x2), .second, .val (.int y2), .val (.int (0 : Int32)), .val (.int (1 : Int32))] [(.ref a), (.long x1)])) rfl rfl (hb hby d_prog_33m6_118)
  obtain ⟨cl_15, Ar_15, qa_15, Sa_15, Na_15, Ha_15, Ga_15⟩ := id (V_g.other W_5 (Ne.symm nag))
  have hin_15 : ¬ ((1 : Int32) < 0 ∨ cl_15.slots.size ≤ ((1 : Int32)).toNatClampNeg) := inb_of Sa_15 ⟨by decide, by decide⟩
  have hat_15 : cl_15.slots[((1 : Int32)).toNatClampNeg]? = some (.int y1) := Has.at Ha_15 hin_15 rfl
  obtain ⟨_, _, ⟨T_16, L_16, k_16, n_16⟩, -, X_16, ⟨Lc_16, hQ_16, l_16, y_16, z_16⟩, st_16⟩ := Jvm.LawKit.callS X_14 hx (y := MN0) hown (mvT hZ (ow hw 33 rfl)) (mvT hZ (ow hw 34 rfl)) (mvT hZ (ow hw 3 rfl)) (mvT hZ (ow hw 35 rfl)) (by decide) (backOf (W := 0) (rm_prc0 l Z a0 hw [] x1 y1 x2 y2 h_5 n0 Z_5 hr0) hZ (ow hw 35 rfl) (ow hw 3 rfl) (by decide) (by decide)) (g := (mkF mM 127 #[.val (.ref a), .val (.int y0), .val (.long x2), .second, .val (.int y2), .val (.int (0 : Int32)), .val (.int (1 : Int32))] [(.int y2), (.long x2), (.int y1), (.long x1)])) rfl (by rw [hml]; rfl) (argsL := [(.long x1), (.int y1), (.long x2), (.int y2)]) (rest := []) (lenOf pd_0 rfl) rfl (by show 2 * 0 + _ ≤ _; exact Nat.le_of_eq rfl) (hb hby d_prog_33m6_127) (fun _ _ => ⟨rfl, e_14, (by decide : 0 + 0 ≤ _), (by decide : 0 + 0 ≤ _)⟩)
  dsimp only [Pt.U, Pt.locs, Pt.cells, Pt.slots] at X_16 l_16 y_16 z_16 st_16 hQ_16
  subst l_16 y_16 z_16
  obtain ⟨rfl, N_16q, eh_16⟩ := hQ_16
  have N_16 := Fr.app N_5 N_16q
  obtain ⟨T_17, X_17, e_17, st_17⟩ := getF X_16 hx hZ hown (host := "") (Or.inl (ow hw 11 rfl)) Via.refl eh_16 (F_keys_a.other W_5 (Or.inr (slot_ne (Or.inl (ow hw 12 rfl)) (Or.inl (ow hw 22 rfl)) (by decide) (t := (.array .long)) (t' := .int) (by decide) (by decide)))) (g := (mkF mM 172 #[.val (.ref a), .val (.int y0), .val (.long x2), .second, .val (.int y2), .val (.int (0 : Int32)), .val (.int (1 : Int32))] [(.ref a)])) rfl rfl (hb hby d_prog_33m6_172)
  obtain ⟨cl_18, Ar_18, qa_18, Sa_18, Na_18, Ha_18, Ga_18⟩ := id (V_d.other W_5 (Ne.symm nad))
  have hin_18 : ¬ ((0 : Int32) < 0 ∨ cl_18.slots.size ≤ ((0 : Int32)).toNatClampNeg) := inb_of Sa_18 ⟨by decide, by decide⟩
  obtain ⟨T_18, h_18, X_18, e_18, W_18, st_18⟩ := stJ X_17 hx hZ e_17 Ar_18 (j := (0 : Int32)) hin_18 (g := (mkF mM 178 #[.val (.ref a), .val (.int y0), .val (.long x2), .second, .val (.int y2), .val (.int (0 : Int32)), .val (.int (1 : Int32))] [(.long x2), (.int (0 : Int32)), (.ref d)])) rfl rfl (hb hby d_prog_33m6_178)
  have V_18 : Arv Z h_18 d kd .long (16 : Int32) [(.long x2), (.long x1), (.long x2), (.long x3)] (.long (0 : Int64)) := Arv.set Ar_18 qa_18 Sa_18 Na_18 Ha_18 Ga_18 rfl W_18 0 rfl (Nat.le_of_ble_eq_true rfl)
  have Z_18 : n0 ≤ h_18.size := (Nat.le_trans Z_5 (Keep.of_wr W_18).1)
  have K_18 : Keep h0 h_18 [a, d, g] := K_5.wr W_18 (Or.inl (List.mem_of_getElem? (i := 1) rfl))
  have N_18 := Fr.snoc X_18 N_16 g_d
  obtain ⟨T_19, X_19, e_19, st_19⟩ := getF X_18 hx hZ hown (host := "") (Or.inl (ow hw 14 rfl)) Via.refl e_18 ((F_nodes_a.other W_5 (Or.inr (slot_ne (Or.inl (ow hw 15 rfl)) (Or.inl (ow hw 22 rfl)) (by decide) (t := (.array .int)) (t' := .int) (by decide) (by decide)))).other W_18 (Or.inl nad)) (g := (mkF mM 180 #[.val (.ref a), .val (.int y0), .val (.long x2), .second, .val (.int y2), .val (.int (0 : Int32)), .val (.int (1 : Int32))] [(.ref a)])) rfl rfl (hb hby d_prog_33m6_180)
  obtain ⟨cl_20, Ar_20, qa_20, Sa_20, Na_20, Ha_20, Ga_20⟩ := id ((V_g.other W_5 (Ne.symm nag)).other W_18 (Ne.symm ndg))
  have hin_20 : ¬ ((0 : Int32) < 0 ∨ cl_20.slots.size ≤ ((0 : Int32)).toNatClampNeg) := inb_of Sa_20 ⟨by decide, by decide⟩
  obtain ⟨T_20, h_20, X_20, e_20, W_20, st_20⟩ := stI X_19 hx hZ e_19 Ar_20 (j := (0 : Int32)) hin_20 (g := (mkF mM 187 #[.val (.ref a), .val (.int y0), .val (.long x2), .second, .val (.int y2), .val (.int (0 : Int32)), .val (.int (1 : Int32))] [(.int y2), (.int (0 : Int32)), (.ref g)])) rfl rfl (hb hby d_prog_33m6_187)
  have V_20 : Arv Z h_20 g kg .int (16 : Int32) [(.int y2), (.int y1), (.int y2), (.int y3)] (.int (0 : Int32)) := Arv.set Ar_20 qa_20 Sa_20 Na_20 Ha_20 Ga_20 rfl W_20 0 rfl (Nat.le_of_ble_eq_true rfl)
  have Z_20 : n0 ≤ h_20.size := (Nat.le_trans Z_18 (Keep.of_wr W_20).1)
  have K_20 : Keep h0 h_20 [a, d, g] := K_18.wr W_20 (Or.inl (List.mem_of_getElem? (i := 2) rfl))
  have N_20 := Fr.snoc X_20 N_18 g_g
  obtain ⟨fs, hr, hrun, hended, hW, hsame⟩ := X_20.leave (v := some (.int y0)) (fun h => by rw [Bd.returns] at h; cases h)
  refine ⟨_, _, pre0 _ ?_, hrun, hended, _, _, rfl, ?_, ⟨_, rfl⟩, hW, hsame.mono (by decide) (by decide)⟩
  · show oS pP eE below s₁ (mkF mM 0 #[.val (.ref a), .unset, .unset, .unset, .unset, .unset, .unset] []) _
    refine XS.aloadN X0.here hx rfl (hb hby d_prog_33m6_0) rfl rfl ?_
    show oS pP eE below s₁ (mkF mM 1 #[.val (.ref a), .unset, .unset, .unset, .unset, .unset, .unset] [(.ref a)]) _
    refine st_1 _ ?_
    show oS pP eE below T_1 (mkF mM 4 #[.val (.ref a), .unset, .unset, .unset, .unset, .unset, .unset] [(.ref g)]) _
    refine XS.iconst X_1.here hx rfl (hb hby d_prog_33m6_4) ?_
    show oS pP eE below T_1 (mkF mM 5 #[.val (.ref a), .unset, .unset, .unset, .unset, .unset, .unset] [(.int (0 : Int32)), (.ref g)]) _
    refine X_1.iaload hx (j := (0 : Int32)) (v := (.int y0)) (by rw [e_1]; exact Ar_2.1) (State.isArrayOf_alike hZ.alike Ar_2.2.1) Ar_2.2.2 hin_2 hat_2 (g := (mkF mM 5 #[.val (.ref a), .unset, .unset, .unset, .unset, .unset, .unset] [(.int (0 : Int32)), (.ref g)])) rfl rfl (hb hby d_prog_33m6_5) _ ?_
    refine XS.istoreN X_1.here hx rfl (hb hby d_prog_33m6_6) rfl (l' := #[.val (.ref a), .val (.int y0), .unset, .unset, .unset, .unset, .unset]) rfl ?_
    refine XS.aloadN X_1.here hx rfl (hb hby d_prog_33m6_7) rfl rfl ?_
    show oS pP eE below T_1 (mkF mM 8 #[.val (.ref a), .val (.int y0), .unset, .unset, .unset, .unset, .unset] [(.ref a)]) _
    refine st_3 _ ?_
    show oS pP eE below T_3 (mkF mM 11 #[.val (.ref a), .val (.int y0), .unset, .unset, .unset, .unset, .unset] [(.ref d)]) _
    refine XS.aloadN X_3.here hx rfl (hb hby d_prog_33m6_11) rfl rfl ?_
    refine XS.dup X_3.here hx rfl (hb hby d_prog_33m6_12) rfl rfl ?_
    show oS pP eE below T_3 (mkF mM 13 #[.val (.ref a), .val (.int y0), .unset, .unset, .unset, .unset, .unset] [(.ref a), (.ref a), (.ref d)]) _
    refine st_4 _ ?_
    show oS pP eE below T_4 (mkF mM 16 #[.val (.ref a), .val (.int y0), .unset, .unset, .unset, .unset, .unset] [(.int (3 : Int32)), (.ref a), (.ref d)]) _
    refine XS.iconst X_4.here hx rfl (hb hby d_prog_33m6_16) ?_
    show oS pP eE below T_4 (mkF mM 17 #[.val (.ref a), .val (.int y0), .unset, .unset, .unset, .unset, .unset] [(.int (1 : Int32)), (.int (3 : Int32)), (.ref a), (.ref d)]) _
    refine XS.isub X_4.here hx rfl (hb hby d_prog_33m6_17) rfl ?_
    show oS pP eE below T_4 (mkF mM 18 #[.val (.ref a), .val (.int y0), .unset, .unset, .unset, .unset, .unset] [(.int ((3 : Int32) - (1 : Int32))), (.ref a), (.ref d)]) _
    rw [(by decide : ((3 : Int32) - (1 : Int32)) = (2 : Int32))]
    show oS pP eE below T_4 (mkF mM 18 #[.val (.ref a), .val (.int y0), .unset, .unset, .unset, .unset, .unset] [(.int (2 : Int32)), (.ref a), (.ref d)]) _
    refine XT.dupX1 X_4.here hx rfl (hb hby d_prog_33m6_18) rfl rfl rfl ?_
    show oS pP eE below T_4 (mkF mM 19 #[.val (.ref a), .val (.int y0), .unset, .unset, .unset, .unset, .unset] [(.int (2 : Int32)), (.ref a), (.int (2 : Int32)), (.ref d)]) _
    refine st_5 _ ?_
    show oS pP eE below T_5 (mkF mM 22 #[.val (.ref a), .val (.int y0), .unset, .unset, .unset, .unset, .unset] [(.int (2 : Int32)), (.ref d)]) _
    refine X_5.laload hx (j := (2 : Int32)) (v := (.long x2)) (by rw [e_5]; exact Ar_6.1) (State.isArrayOf_alike hZ.alike Ar_6.2.1) Ar_6.2.2 hin_6 hat_6 (g := (mkF mM 22 #[.val (.ref a), .val (.int y0), .unset, .unset, .unset, .unset, .unset] [(.int (2 : Int32)), (.ref d)])) rfl rfl (hb hby d_prog_33m6_22) _ ?_
    refine XT.lstoreN X_5.here hx rfl (hb hby d_prog_33m6_23) rfl (l' := #[.val (.ref a), .val (.int y0), .val (.long x2), .second, .unset, .unset, .unset]) rfl ?_
    refine XS.aloadN X_5.here hx rfl (hb hby d_prog_33m6_24) rfl rfl ?_
    show oS pP eE below T_5 (mkF mM 25 #[.val (.ref a), .val (.int y0), .val (.long x2), .second, .unset, .unset, .unset] [(.ref a)]) _
    refine st_7 _ ?_
    show oS pP eE below T_7 (mkF mM 28 #[.val (.ref a), .val (.int y0), .val (.long x2), .second, .unset, .unset, .unset] [(.ref g)]) _
    refine XS.aloadN X_7.here hx rfl (hb hby d_prog_33m6_28) rfl rfl ?_
    show oS pP eE below T_7 (mkF mM 29 #[.val (.ref a), .val (.int y0), .val (.long x2), .second, .unset, .unset, .unset] [(.ref a), (.ref g)]) _
    refine st_8 _ ?_
    show oS pP eE below T_8 (mkF mM 32 #[.val (.ref a), .val (.int y0), .val (.long x2), .second, .unset, .unset, .unset] [(.int (2 : Int32)), (.ref g)]) _
    refine X_8.iaload hx (j := (2 : Int32)) (v := (.int y2)) (by rw [e_8]; exact Ar_9.1) (State.isArrayOf_alike hZ.alike Ar_9.2.1) Ar_9.2.2 hin_9 hat_9 (g := (mkF mM 32 #[.val (.ref a), .val (.int y0), .val (.long x2), .second, .unset, .unset, .unset] [(.int (2 : Int32)), (.ref g)])) rfl rfl (hb hby d_prog_33m6_32) _ ?_
    refine XS.istore X_8.here hx rfl (hb hby d_prog_33m6_33) rfl (l' := #[.val (.ref a), .val (.int y0), .val (.long x2), .second, .val (.int y2), .unset, .unset]) rfl ?_
    refine XS.iconst X_8.here hx rfl (hb hby d_prog_33m6_35) ?_
    refine XS.istore X_8.here hx rfl (hb hby d_prog_33m6_36) rfl (l' := #[.val (.ref a), .val (.int y0), .val (.long x2), .second, .val (.int y2), .val (.int (0 : Int32)), .unset]) rfl ?_
    refine XS.iconst X_8.here hx rfl (hb hby d_prog_33m6_38) ?_
    refine XS.iload X_8.here hx rfl (hb hby d_prog_33m6_39) rfl ?_
    show oS pP eE below T_8 (mkF mM 41 #[.val (.ref a), .val (.int y0), .val (.long x2), .second, .val (.int y2), .val (.int (0 : Int32)), .unset] [(.int (0 : Int32)), (.int (2 : Int32))]) _
    refine XS.imul X_8.here hx rfl (hb hby d_prog_33m6_41) rfl ?_
    show oS pP eE below T_8 (mkF mM 42 #[.val (.ref a), .val (.int y0), .val (.long x2), .second, .val (.int y2), .val (.int (0 : Int32)), .unset] [(.int ((2 : Int32) * (0 : Int32)))]) _
    rw [(by decide : ((2 : Int32) * (0 : Int32)) = (0 : Int32))]
    refine XS.iconst X_8.here hx rfl (hb hby d_prog_33m6_42) ?_
    show oS pP eE below T_8 (mkF mM 43 #[.val (.ref a), .val (.int y0), .val (.long x2), .second, .val (.int y2), .val (.int (0 : Int32)), .unset] [(.int (1 : Int32)), (.int (0 : Int32))]) _
    refine XS.iadd X_8.here hx rfl (hb hby d_prog_33m6_43) rfl ?_
    show oS pP eE below T_8 (mkF mM 44 #[.val (.ref a), .val (.int y0), .val (.long x2), .second, .val (.int y2), .val (.int (0 : Int32)), .unset] [(.int ((0 : Int32) + (1 : Int32)))]) _
    rw [(by decide : ((0 : Int32) + (1 : Int32)) = (1 : Int32))]
    refine XS.istore X_8.here hx rfl (hb hby d_prog_33m6_44) rfl (l' := #[.val (.ref a), .val (.int y0), .val (.long x2), .second, .val (.int y2), .val (.int (0 : Int32)), .val (.int (1 : Int32))]) rfl ?_
    refine XS.iload X_8.here hx rfl (hb hby d_prog_33m6_46) rfl ?_
    refine XS.aloadN X_8.here hx rfl (hb hby d_prog_33m6_48) rfl rfl ?_
    show oS pP eE below T_8 (mkF mM 49 #[.val (.ref a), .val (.int y0), .val (.long x2), .second, .val (.int y2), .val (.int (0 : Int32)), .val (.int (1 : Int32))] [(.ref a), (.int (1 : Int32))]) _
    refine st_10 _ ?_
    show oS pP eE below T_10 (mkF mM 52 #[.val (.ref a), .val (.int y0), .val (.long x2), .second, .val (.int y2), .val (.int (0 : Int32)), .val (.int (1 : Int32))] [(.int (2 : Int32)), (.int (1 : Int32))]) _
    refine XS.icmpYes X_10.here hx rfl (pc0 := 52) (pc' := 58) rfl (hb hby d_prog_33m6_52) rfl (by decide) (by decide) (by decide) ?_
    refine XS.iload X_10.here hx rfl (hb hby d_prog_33m6_58) rfl ?_
    refine XS.iconst X_10.here hx rfl (hb hby d_prog_33m6_60) ?_
    show oS pP eE below T_10 (mkF mM 61 #[.val (.ref a), .val (.int y0), .val (.long x2), .second, .val (.int y2), .val (.int (0 : Int32)), .val (.int (1 : Int32))] [(.int (1 : Int32)), (.int (1 : Int32))]) _
    refine XS.iadd X_10.here hx rfl (hb hby d_prog_33m6_61) rfl ?_
    show oS pP eE below T_10 (mkF mM 62 #[.val (.ref a), .val (.int y0), .val (.long x2), .second, .val (.int y2), .val (.int (0 : Int32)), .val (.int (1 : Int32))] [(.int ((1 : Int32) + (1 : Int32)))]) _
    rw [(by decide : ((1 : Int32) + (1 : Int32)) = (2 : Int32))]
    refine XS.aloadN X_10.here hx rfl (hb hby d_prog_33m6_62) rfl rfl ?_
    show oS pP eE below T_10 (mkF mM 63 #[.val (.ref a), .val (.int y0), .val (.long x2), .second, .val (.int y2), .val (.int (0 : Int32)), .val (.int (1 : Int32))] [(.ref a), (.int (2 : Int32))]) _
    refine st_11 _ ?_
    show oS pP eE below T_11 (mkF mM 66 #[.val (.ref a), .val (.int y0), .val (.long x2), .second, .val (.int y2), .val (.int (0 : Int32)), .val (.int (1 : Int32))] [(.int (2 : Int32)), (.int (2 : Int32))]) _
    refine XS.icmpYes X_11.here hx rfl (pc0 := 66) (pc' := 110) rfl (hb hby d_prog_33m6_66) rfl (by decide) (by decide) (by decide) ?_
    refine XS.aloadN X_11.here hx rfl (hb hby d_prog_33m6_110) rfl rfl ?_
    show oS pP eE below T_11 (mkF mM 111 #[.val (.ref a), .val (.int y0), .val (.long x2), .second, .val (.int y2), .val (.int (0 : Int32)), .val (.int (1 : Int32))] [(.ref a)]) _
    refine st_12 _ ?_
    show oS pP eE below T_12 (mkF mM 114 #[.val (.ref a), .val (.int y0), .val (.long x2), .second, .val (.int y2), .val (.int (0 : Int32)), .val (.int (1 : Int32))] [(.ref d)]) _
    refine XS.iload X_12.here hx rfl (hb hby d_prog_33m6_114) rfl ?_
    show oS pP eE below T_12 (mkF mM 116 #[.val (.ref a), .val (.int y0), .val (.long x2), .second, .val (.int y2), .val (.int (0 : Int32)), .val (.int (1 : Int32))] [(.int (1 : Int32)), (.ref d)]) _
    refine X_12.laload hx (j := (1 : Int32)) (v := (.long x1)) (by rw [e_12]; exact Ar_13.1) (State.isArrayOf_alike hZ.alike Ar_13.2.1) Ar_13.2.2 hin_13 hat_13 (g := (mkF mM 116 #[.val (.ref a), .val (.int y0), .val (.long x2), .second, .val (.int y2), .val (.int (0 : Int32)), .val (.int (1 : Int32))] [(.int (1 : Int32)), (.ref d)])) rfl rfl (hb hby d_prog_33m6_116) _ ?_
    refine XS.aloadN X_12.here hx rfl (hb hby d_prog_33m6_117) rfl rfl ?_
    show oS pP eE below T_12 (mkF mM 118 #[.val (.ref a), .val (.int y0), .val (.long x2), .second, .val (.int y2), .val (.int (0 : Int32)), .val (.int (1 : Int32))] [(.ref a), (.long x1)]) _
    refine st_14 _ ?_
    show oS pP eE below T_14 (mkF mM 121 #[.val (.ref a), .val (.int y0), .val (.long x2), .second, .val (.int y2), .val (.int (0 : Int32)), .val (.int (1 : Int32))] [(.ref g), (.long x1)]) _
    refine XS.iload X_14.here hx rfl (hb hby d_prog_33m6_121) rfl ?_
    show oS pP eE below T_14 (mkF mM 123 #[.val (.ref a), .val (.int y0), .val (.long x2), .second, .val (.int y2), .val (.int (0 : Int32)), .val (.int (1 : Int32))] [(.int (1 : Int32)), (.ref g), (.long x1)]) _
    refine X_14.iaload hx (j := (1 : Int32)) (v := (.int y1)) (by rw [e_14]; exact Ar_15.1) (State.isArrayOf_alike hZ.alike Ar_15.2.1) Ar_15.2.2 hin_15 hat_15 (g := (mkF mM 123 #[.val (.ref a), .val (.int y0), .val (.long x2), .second, .val (.int y2), .val (.int (0 : Int32)), .val (.int (1 : Int32))] [(.int (1 : Int32)), (.ref g), (.long x1)])) rfl rfl (hb hby d_prog_33m6_123) _ ?_
    refine XT.lloadN X_14.here hx rfl (hb hby d_prog_33m6_124) rfl ?_
    refine XS.iload X_14.here hx rfl (hb hby d_prog_33m6_125) rfl ?_
    show oS pP eE below T_14 (mkF mM 127 #[.val (.ref a), .val (.int y0), .val (.long x2), .second, .val (.int y2), .val (.int (0 : Int32)), .val (.int (1 : Int32))] [(.int y2), (.long x2), (.int y1), (.long x1)]) _
    refine st_16 _ ?_
    show oS pP eE below T_16 (mkF mM 130 #[.val (.ref a), .val (.int y0), .val (.long x2), .second, .val (.int y2), .val (.int (0 : Int32)), .val (.int (1 : Int32))] [(.int (0 : Int32))]) _
    refine XS.ifNo X_16.here hx rfl (hb hby d_prog_33m6_130) rfl (by decide) ?_
    refine XS.goto X_16.here hx rfl (pc0 := 133) (pc' := 171) rfl (hb hby d_prog_33m6_133) (by decide) (by decide) ?_
    refine XS.aloadN X_16.here hx rfl (hb hby d_prog_33m6_171) rfl rfl ?_
    show oS pP eE below T_16 (mkF mM 172 #[.val (.ref a), .val (.int y0), .val (.long x2), .second, .val (.int y2), .val (.int (0 : Int32)), .val (.int (1 : Int32))] [(.ref a)]) _
    refine st_17 _ ?_
    show oS pP eE below T_17 (mkF mM 175 #[.val (.ref a), .val (.int y0), .val (.long x2), .second, .val (.int y2), .val (.int (0 : Int32)), .val (.int (1 : Int32))] [(.ref d)]) _
    refine XS.iload X_17.here hx rfl (hb hby d_prog_33m6_175) rfl ?_
    refine XT.lloadN X_17.here hx rfl (hb hby d_prog_33m6_177) rfl ?_
    show oS pP eE below T_17 (mkF mM 178 #[.val (.ref a), .val (.int y0), .val (.long x2), .second, .val (.int y2), .val (.int (0 : Int32)), .val (.int (1 : Int32))] [(.long x2), (.int (0 : Int32)), (.ref d)]) _
    refine st_18 _ ?_
    show oS pP eE below T_18 (mkF mM 179 #[.val (.ref a), .val (.int y0), .val (.long x2), .second, .val (.int y2), .val (.int (0 : Int32)), .val (.int (1 : Int32))] []) _
    refine XS.aloadN X_18.here hx rfl (hb hby d_prog_33m6_179) rfl rfl ?_
    show oS pP eE below T_18 (mkF mM 180 #[.val (.ref a), .val (.int y0), .val (.long x2), .second, .val (.int y2), .val (.int (0 : Int32)), .val (.int (1 : Int32))] [(.ref a)]) _
    refine st_19 _ ?_
    show oS pP eE below T_19 (mkF mM 183 #[.val (.ref a), .val (.int y0), .val (.long x2), .second, .val (.int y2), .val (.int (0 : Int32)), .val (.int (1 : Int32))] [(.ref g)]) _
    refine XS.iload X_19.here hx rfl (hb hby d_prog_33m6_183) rfl ?_
    refine XS.iload X_19.here hx rfl (hb hby d_prog_33m6_185) rfl ?_
    show oS pP eE below T_19 (mkF mM 187 #[.val (.ref a), .val (.int y0), .val (.long x2), .second, .val (.int y2), .val (.int (0 : Int32)), .val (.int (1 : Int32))] [(.int y2), (.int (0 : Int32)), (.ref g)]) _
    refine st_20 _ ?_
    show oS pP eE below T_20 (mkF mM 188 #[.val (.ref a), .val (.int y0), .val (.long x2), .second, .val (.int y2), .val (.int (0 : Int32)), .val (.int (1 : Int32))] []) _
    refine XS.iloadN X_20.here hx rfl (hb hby d_prog_33m6_188) rfl ?_
    show oS pP eE below T_20 (mkF mM 189 #[.val (.ref a), .val (.int y0), .val (.long x2), .second, .val (.int y2), .val (.int (0 : Int32)), .val (.int (1 : Int32))] [(.int y0)]) _
    exact retI X_20 hx Bd.returns (hb hby d_prog_33m6_189) hr
  · show Q_take3 Z a d g kd kg x0 x1 x2 x3 y0 y1 y2 y3 h0 n0 _ T_20.heap _
    rw [e_20]
    exact ⟨x2, x1, x2, x3, y2, y1, y2, y3, rfl, N_20, K_20, ((Fw_5.other W_18 (Or.inl nad)).other W_20 (Or.inl nag)), (((F_keys_a.other W_5 (Or.inr (slot_ne (Or.inl (ow hw 12 rfl)) (Or.inl (ow hw 22 rfl)) (by decide) (t := (.array .long)) (t' := .int) (by decide) (by decide)))).other W_18 (Or.inl nad)).other W_20 (Or.inl nag)), (((F_nodes_a.other W_5 (Or.inr (slot_ne (Or.inl (ow hw 15 rfl)) (Or.inl (ow hw 22 rfl)) (by decide) (t := (.array .int)) (t' := .int) (by decide) (by decide)))).other W_18 (Or.inl nad)).other W_20 (Or.inl nag)), (((E_a.wr W_5).wr W_18).wr W_20), (V_18.other W_20 ndg), V_20⟩
theorem d_prog_33m6_136 : decode prog_33_method_6_code 136 = .ok (.aload_n 0, 1) := by decide +kernel
theorem d_prog_33m6_137 : decode prog_33_method_6_code 137 = .ok (.getfield 7, 3) := by decide +kernel
theorem d_prog_33m6_140 : decode prog_33_method_6_code 140 = .ok (.iload 5, 2) := by decide +kernel
theorem d_prog_33m6_142 : decode prog_33_method_6_code 142 = .ok (.aload_n 0, 1) := by decide +kernel
theorem d_prog_33m6_143 : decode prog_33_method_6_code 143 = .ok (.getfield 7, 3) := by decide +kernel
theorem d_prog_33m6_146 : decode prog_33_method_6_code 146 = .ok (.iload 6, 2) := by decide +kernel
theorem d_prog_33m6_148 : decode prog_33_method_6_code 148 = .ok (.laload, 1) := by decide +kernel
theorem d_prog_33m6_149 : decode prog_33_method_6_code 149 = .ok (.lastore, 1) := by decide +kernel
theorem d_prog_33m6_150 : decode prog_33_method_6_code 150 = .ok (.aload_n 0, 1) := by decide +kernel
theorem d_prog_33m6_151 : decode prog_33_method_6_code 151 = .ok (.getfield 13, 3) := by decide +kernel
theorem d_prog_33m6_154 : decode prog_33_method_6_code 154 = .ok (.iload 5, 2) := by decide +kernel
theorem d_prog_33m6_156 : decode prog_33_method_6_code 156 = .ok (.aload_n 0, 1) := by decide +kernel
theorem d_prog_33m6_157 : decode prog_33_method_6_code 157 = .ok (.getfield 13, 3) := by decide +kernel
theorem d_prog_33m6_160 : decode prog_33_method_6_code 160 = .ok (.iload 6, 2) := by decide +kernel
theorem d_prog_33m6_162 : decode prog_33_method_6_code 162 = .ok (.iaload, 1) := by decide +kernel
theorem d_prog_33m6_163 : decode prog_33_method_6_code 163 = .ok (.iastore, 1) := by decide +kernel
theorem d_prog_33m6_164 : decode prog_33_method_6_code 164 = .ok (.iload 6, 2) := by decide +kernel
theorem d_prog_33m6_166 : decode prog_33_method_6_code 166 = .ok (.istore 5, 2) := by decide +kernel
theorem d_prog_33m6_168 : decode prog_33_method_6_code 168 = .ok (.goto (-130), 3) := by decide +kernel
theorem ef_take3y_ (mM : MethodId) (x0 : Addr) : entryFrame mM #[(.ref x0)] 7 = mkF mM 0 #[.val (.ref x0), .unset, .unset, .unset, .unset, .unset, .unset] [] := by first | (simp [entryFrame, mkF, argsToLocals, Value.category]; done) | rfl
set_option maxRecDepth 65536 in
set_option maxHeartbeats 40000000 in
theorem rm_take3y_ (l : Launch) (Z : State) (a0 : Array Value) (hw : ∀ d ∈ tables_1, d.before a0 Z = true) (ws : List Jvm.Cond) (a : Addr) (d : Addr) (g : Addr) (kd : ClassId) (kg : ClassId) (x0 : Int64) (x1 : Int64) (x2 : Int64) (x3 : Int64) (y0 : Int32) (y1 : Int32) (y2 : Int32) (y3 : Int32) (h0 : Heap) (n0 : Nat) (Z0 : n0 ≤ h0.size) (F_size_a : Fld Z h0 a "com/example/greenweft/greenweft/steiner/NodeHeap" "size" "I" (.int (3 : Int32))) (F_keys_a : Fld Z h0 a "com/example/greenweft/greenweft/steiner/NodeHeap" "keys" "[J" (.ref d)) (F_nodes_a : Fld Z h0 a "com/example/greenweft/greenweft/steiner/NodeHeap" "nodes" "[I" (.ref g)) (E_a : Exa Z h0 a "com/example/greenweft/greenweft/steiner/NodeHeap") (g_a : n0 ≤ a) (g_d : n0 ≤ d) (g_g : n0 ≤ g) (V_d : Arv Z h0 d kd .long (16 : Int32) [(.long x0), (.long x1), (.long x2), (.long x3)] (.long (0 : Int64))) (V_g : Arv Z h0 g kg .int (16 : Int32) [(.int y0), (.int y1), (.int y2), (.int y3)] (.int (0 : Int32))) (ndg : d ≠ g) (nad : a ≠ d) (nag : a ≠ g) (hr0 : own_pre x1 y1 x2 y2) :
    MetFree l (⟨"com/example/greenweft/greenweft/steiner/NodeHeap", "takeLowest", "()I"⟩ : MethodName) (head1 (Jvm.Cond.code (⟨"com/example/greenweft/greenweft/steiner/NodeHeap", "takeLowest", "()I"⟩ : MethodName) prog_33_method_6_code 7 (some .int) :: ws) ({ frames := 1, cells := 0, slots := 0, locals := 17 } : Room)) (fun aa_ U_ => aa_ = #[(.ref a)] ∧ Z.Warmed39 U_.vm ∧ U_.heap = h0) (fun _ _ _ _ _ => True) (fun _ U_ o_ U'_ => ∃ v_ L_, o_ = .returned v_ ∧ Q_take3 Z a d g kd kg x0 x1 x2 x3 y0 y1 y2 y3 h0 n0 v_ U'_.heap L_ ∧ FrameEnd U_ o_ U'_ L_ ({ frames := 1, cells := 0, slots := 0, locals := 17 } : Room).cells ({ frames := 1, cells := 0, slots := 0, locals := 17 } : Room).slots) := by
  refine MetFree.of_bodySF (plainFor_of_name pn_0) hisR ?_
  intro pP eE sS mM argsA below meth cC s₁ Bd hml0 hP hK
  obtain ⟨rfl, hZ, hh⟩ := hP
  have hx := Bd.exec
  have hby := Bd.bytes
  have hml : cC.maxLocals = 7 := hml0
  have hown : sS.vm.findClass "com/example/greenweft/greenweft/steiner/NodeHeap" = some mM.cls := findClass_of_methodNamed Bd.named
  have hnm := (name_of_methodNamed Bd.named Bd.method).1
  have X0 : Stand pP l eE ({ frames := 1, cells := 0, slots := 0, locals := 17 } : Room) sS mM #[(.ref a)] below meth cC s₁ [] 0 0 := Stand.of_body Bd
  have e0 : s₁.heap = h0 := by rw [← hh, Bd.state]; rfl
  have N0 := Fr.nil n0
  have pre0 : ∀ t_, Steps pP.tables eE below (s₁.setTop (mkF mM 0 #[.val (.ref a), .unset, .unset, .unset, .unset, .unset, .unset] [])) t_ → Steps pP.tables eE below (s₁.setTop (entryFrame mM #[(.ref a)] 7)) t_ := fun t_ k_ => castTop (ef_take3y_ mM a) k_
  obtain ⟨T_1, X_1, e_1, st_1⟩ := getF X0 hx hZ hown (host := "") (Or.inl (ow hw 14 rfl)) Via.refl e0 F_nodes_a (g := (mkF mM 1 #[.val (.ref a), .unset, .unset, .unset, .unset, .unset, .unset] [(.ref a)])) rfl rfl (hb hby d_prog_33m6_1)
  obtain ⟨cl_2, Ar_2, qa_2, Sa_2, Na_2, Ha_2, Ga_2⟩ := id V_g
  have hin_2 : ¬ ((0 : Int32) < 0 ∨ cl_2.slots.size ≤ ((0 : Int32)).toNatClampNeg) := inb_of Sa_2 ⟨by decide, by decide⟩
  have hat_2 : cl_2.slots[((0 : Int32)).toNatClampNeg]? = some (.int y0) := Has.at Ha_2 hin_2 rfl
  obtain ⟨T_3, X_3, e_3, st_3⟩ := getF X_1 hx hZ hown (host := "") (Or.inl (ow hw 11 rfl)) Via.refl e_1 F_keys_a (g := (mkF mM 8 #[.val (.ref a), .val (.int y0), .unset, .unset, .unset, .unset, .unset] [(.ref a)])) rfl rfl (hb hby d_prog_33m6_8)
  obtain ⟨T_4, X_4, e_4, st_4⟩ := getF X_3 hx hZ hown (host := "") (Or.inl (ow hw 21 rfl)) Via.refl e_3 F_size_a (g := (mkF mM 13 #[.val (.ref a), .val (.int y0), .unset, .unset, .unset, .unset, .unset] [(.ref a), (.ref a), (.ref d)])) rfl rfl (hb hby d_prog_33m6_13)
  obtain ⟨T_5, h_5, X_5, e_5, W_5, st_5⟩ := putF X_4 hx hZ hown (host := "") (Or.inl (ow hw 21 rfl)) Via.refl e_4 F_size_a E_a (Or.inl (ow hw 22 rfl)) (ow hw 2 rfl) (ty := .int) (by decide) rfl rfl (g := (mkF mM 19 #[.val (.ref a), .val (.int y0), .unset, .unset, .unset, .unset, .unset] [(.int (2 : Int32)), (.ref a), (.int (2 : Int32)), (.ref d)])) rfl rfl (hb hby d_prog_33m6_19)
  have Fw_5 := F_size_a.same W_5
  have Z_5 : n0 ≤ h_5.size := (Nat.le_trans Z0 (Keep.of_wr W_5).1)
  have K_5 : Keep h0 h_5 [a, d, g] := (Keep.refl h0 [a, d, g]).wr W_5 (Or.inl (List.mem_of_getElem? (i := 0) rfl))
  have N_5 := Fr.snoc X_5 N0 g_a
  obtain ⟨cl_6, Ar_6, qa_6, Sa_6, Na_6, Ha_6, Ga_6⟩ := id (V_d.other W_5 (Ne.symm nad))
  have hin_6 : ¬ ((2 : Int32) < 0 ∨ cl_6.slots.size ≤ ((2 : Int32)).toNatClampNeg) := inb_of Sa_6 ⟨by decide, by decide⟩
  have hat_6 : cl_6.slots[((2 : Int32)).toNatClampNeg]? = some (.long x2) := Has.at Ha_6 hin_6 rfl
  obtain ⟨T_7, X_7, e_7, st_7⟩ := getF X_5 hx hZ hown (host := "") (Or.inl (ow hw 14 rfl)) Via.refl e_5 (F_nodes_a.other W_5 (Or.inr (slot_ne (Or.inl (ow hw 15 rfl)) (Or.inl (ow hw 22 rfl)) (by decide) (t := (.array .int)) (t' := .int) (by decide) (by decide)))) (g := (mkF mM 25 #[.val (.ref a), .val (.int y0), .val (.long x2), .second, .unset, .unset, .unset] [(.ref a)])) rfl rfl (hb hby d_prog_33m6_25)
  obtain ⟨T_8, X_8, e_8, st_8⟩ := getF X_7 hx hZ hown (host := "") (Or.inl (ow hw 21 rfl)) Via.refl e_7 Fw_5 (g := (mkF mM 29 #[.val (.ref a), .val (.int y0), .val (.long x2), .second, .unset, .unset, .unset] [(.ref a), (.ref g)])) rfl rfl (hb hby d_prog_33m6_29)
  obtain ⟨cl_9, Ar_9, qa_9, Sa_9, Na_9, Ha_9, Ga_9⟩ := id (V_g.other W_5 (Ne.symm nag))
  have hin_9 : ¬ ((2 : Int32) < 0 ∨ cl_9.slots.size ≤ ((2 : Int32)).toNatClampNeg) := inb_of Sa_9 ⟨by decide, by decide⟩
  have hat_9 : cl_9.slots[((2 : Int32)).toNatClampNeg]? = some (.int y2) := Has.at Ha_9 hin_9 rfl
  obtain ⟨T_10, X_10, e_10, st_10⟩ := getF X_8 hx hZ hown (host := "") (Or.inl (ow hw 21 rfl)) Via.refl e_8 Fw_5 (g := (mkF mM 49 #[.val (.ref a), .val (.int y0), .val (.long x2), .second, .val (.int y2), .val (.int (0 : Int32)), .val (.int (1 : Int32))] [(.ref a), (.int (1 : Int32))])) rfl rfl (hb hby d_prog_33m6_49)
  obtain ⟨T_11, X_11, e_11, st_11⟩ := getF X_10 hx hZ hown (host := "") (Or.inl (ow hw 21 rfl)) Via.refl e_10 Fw_5 (g := (mkF mM 63 #[.val (.ref a), .val (.int y0), .val (.long x2), .second, .val (.int y2), .val (.int (0 : Int32)), .val (.int (1 : Int32))] [(.ref a), (.int (2 : Int32))])) rfl rfl (hb hby d_prog_33m6_63)
  obtain ⟨T_12, X_12, e_12, st_12⟩ := getF X_11 hx hZ hown (host := "") (Or.inl (ow hw 11 rfl)) Via.refl e_11 (F_keys_a.other W_5 (Or.inr (slot_ne (Or.inl (ow hw 12 rfl)) (Or.inl (ow hw 22 rfl)) (by decide) (t := (.array .long)) (t' := .int) (by decide) (by decide)))) (g := (mkF mM 111 #[.val (.ref a), .val (.int y0), .val (.long x2), .second, .val (.int y2), .val (.int (0 : Int32)), .val (.int (1 : Int32))] [(.ref a)])) rfl rfl (hb hby d_prog_33m6_111)
  obtain ⟨cl_13, Ar_13, qa_13, Sa_13, Na_13, Ha_13, Ga_13⟩ := id (V_d.other W_5 (Ne.symm nad))
  have hin_13 : ¬ ((1 : Int32) < 0 ∨ cl_13.slots.size ≤ ((1 : Int32)).toNatClampNeg) := inb_of Sa_13 ⟨by decide, by decide⟩
  have hat_13 : cl_13.slots[((1 : Int32)).toNatClampNeg]? = some (.long x1) := Has.at Ha_13 hin_13 rfl
  obtain ⟨T_14, X_14, e_14, st_14⟩ := getF X_12 hx hZ hown (host := "") (Or.inl (ow hw 14 rfl)) Via.refl e_12 (F_nodes_a.other W_5 (Or.inr (slot_ne (Or.inl (ow hw 15 rfl)) (Or.inl (ow hw 22 rfl)) (by decide) (t := (.array .int)) (t' := .int) (by decide) (by decide)))) (g := (mkF mM 118 #[.val (.ref a), .val (.int y0), .val (.long x2), .second, .val (.int y2), .val (.int (0 : Int32)), .val (.int (1 : Int32))] [(.ref a), (.long x1)])) rfl rfl (hb hby d_prog_33m6_118)
  obtain ⟨cl_15, Ar_15, qa_15, Sa_15, Na_15, Ha_15, Ga_15⟩ := id (V_g.other W_5 (Ne.symm nag))
  have hin_15 : ¬ ((1 : Int32) < 0 ∨ cl_15.slots.size ≤ ((1 : Int32)).toNatClampNeg) := inb_of Sa_15 ⟨by decide, by decide⟩
  have hat_15 : cl_15.slots[((1 : Int32)).toNatClampNeg]? = some (.int y1) := Has.at Ha_15 hin_15 rfl
  obtain ⟨_, _, ⟨T_16, L_16, k_16, n_16⟩, -, X_16, ⟨Lc_16, hQ_16, l_16, y_16, z_16⟩, st_16⟩ := Jvm.LawKit.callS X_14 hx (y := MN0) hown (mvT hZ (ow hw 33 rfl)) (mvT hZ (ow hw 34 rfl)) (mvT hZ (ow hw 3 rfl)) (mvT hZ (ow hw 35 rfl)) (by decide) (backOf (W := 0) (rm_prc1 l Z a0 hw [] x1 y1 x2 y2 h_5 n0 Z_5 hr0) hZ (ow hw 35 rfl) (ow hw 3 rfl) (by decide) (by decide)) (g := (mkF mM 127 #[.val (.ref a), .val (.int y0), .val (.long x2), .second, .val (.int y2), .val (.int (0 : Int32)), .val (.int (1 : Int32))] [(.int y2), (.long x2), (.int y1), (.long x1)])) rfl (by rw [hml]; rfl) (argsL := [(.long x1), (.int y1), (.long x2), (.int y2)]) (rest := []) (lenOf pd_0 rfl) rfl (by show 2 * 0 + _ ≤ _; exact Nat.le_of_eq rfl) (hb hby d_prog_33m6_127) (fun _ _ => ⟨rfl, e_14, (by decide : 0 + 0 ≤ _), (by decide : 0 + 0 ≤ _)⟩)
  dsimp only [Pt.U, Pt.locs, Pt.cells, Pt.slots] at X_16 l_16 y_16 z_16 st_16 hQ_16
  subst l_16 y_16 z_16
  obtain ⟨rfl, N_16q, eh_16⟩ := hQ_16
  have N_16 := Fr.app N_5 N_16q
  obtain ⟨T_17, X_17, e_17, st_17⟩ := getF X_16 hx hZ hown (host := "") (Or.inl (ow hw 11 rfl)) Via.refl eh_16 (F_keys_a.other W_5 (Or.inr (slot_ne (Or.inl (ow hw 12 rfl)) (Or.inl (ow hw 22 rfl)) (by decide) (t := (.array .long)) (t' := .int) (by decide) (by decide)))) (g := (mkF mM 137 #[.val (.ref a), .val (.int y0), .val (.long x2), .second, .val (.int y2), .val (.int (0 : Int32)), .val (.int (1 : Int32))] [(.ref a)])) rfl rfl (hb hby d_prog_33m6_137)
  obtain ⟨T_18, X_18, e_18, st_18⟩ := getF X_17 hx hZ hown (host := "") (Or.inl (ow hw 11 rfl)) Via.refl e_17 (F_keys_a.other W_5 (Or.inr (slot_ne (Or.inl (ow hw 12 rfl)) (Or.inl (ow hw 22 rfl)) (by decide) (t := (.array .long)) (t' := .int) (by decide) (by decide)))) (g := (mkF mM 143 #[.val (.ref a), .val (.int y0), .val (.long x2), .second, .val (.int y2), .val (.int (0 : Int32)), .val (.int (1 : Int32))] [(.ref a), (.int (0 : Int32)), (.ref d)])) rfl rfl (hb hby d_prog_33m6_143)
  obtain ⟨cl_19, Ar_19, qa_19, Sa_19, Na_19, Ha_19, Ga_19⟩ := id (V_d.other W_5 (Ne.symm nad))
  have hin_19 : ¬ ((1 : Int32) < 0 ∨ cl_19.slots.size ≤ ((1 : Int32)).toNatClampNeg) := inb_of Sa_19 ⟨by decide, by decide⟩
  have hat_19 : cl_19.slots[((1 : Int32)).toNatClampNeg]? = some (.long x1) := Has.at Ha_19 hin_19 rfl
  obtain ⟨cl_20, Ar_20, qa_20, Sa_20, Na_20, Ha_20, Ga_20⟩ := id (V_d.other W_5 (Ne.symm nad))
  have hin_20 : ¬ ((0 : Int32) < 0 ∨ cl_20.slots.size ≤ ((0 : Int32)).toNatClampNeg) := inb_of Sa_20 ⟨by decide, by decide⟩
  obtain ⟨T_20, h_20, X_20, e_20, W_20, st_20⟩ := stJ X_18 hx hZ e_18 Ar_20 (j := (0 : Int32)) hin_20 (g := (mkF mM 149 #[.val (.ref a), .val (.int y0), .val (.long x2), .second, .val (.int y2), .val (.int (0 : Int32)), .val (.int (1 : Int32))] [(.long x1), (.int (0 : Int32)), (.ref d)])) rfl rfl (hb hby d_prog_33m6_149)
  have V_20 : Arv Z h_20 d kd .long (16 : Int32) [(.long x1), (.long x1), (.long x2), (.long x3)] (.long (0 : Int64)) := Arv.set Ar_20 qa_20 Sa_20 Na_20 Ha_20 Ga_20 rfl W_20 0 rfl (Nat.le_of_ble_eq_true rfl)
  have Z_20 : n0 ≤ h_20.size := (Nat.le_trans Z_5 (Keep.of_wr W_20).1)
  have K_20 : Keep h0 h_20 [a, d, g] := K_5.wr W_20 (Or.inl (List.mem_of_getElem? (i := 1) rfl))
  have N_20 := Fr.snoc X_20 N_16 g_d
  obtain ⟨T_21, X_21, e_21, st_21⟩ := getF X_20 hx hZ hown (host := "") (Or.inl (ow hw 14 rfl)) Via.refl e_20 ((F_nodes_a.other W_5 (Or.inr (slot_ne (Or.inl (ow hw 15 rfl)) (Or.inl (ow hw 22 rfl)) (by decide) (t := (.array .int)) (t' := .int) (by decide) (by decide)))).other W_20 (Or.inl nad)) (g := (mkF mM 151 #[.val (.ref a), .val (.int y0), .val (.long x2), .second, .val (.int y2), .val (.int (0 : Int32)), .val (.int (1 : Int32))] [(.ref a)])) rfl rfl (hb hby d_prog_33m6_151)
  obtain ⟨T_22, X_22, e_22, st_22⟩ := getF X_21 hx hZ hown (host := "") (Or.inl (ow hw 14 rfl)) Via.refl e_21 ((F_nodes_a.other W_5 (Or.inr (slot_ne (Or.inl (ow hw 15 rfl)) (Or.inl (ow hw 22 rfl)) (by decide) (t := (.array .int)) (t' := .int) (by decide) (by decide)))).other W_20 (Or.inl nad)) (g := (mkF mM 157 #[.val (.ref a), .val (.int y0), .val (.long x2), .second, .val (.int y2), .val (.int (0 : Int32)), .val (.int (1 : Int32))] [(.ref a), (.int (0 : Int32)), (.ref g)])) rfl rfl (hb hby d_prog_33m6_157)
  obtain ⟨cl_23, Ar_23, qa_23, Sa_23, Na_23, Ha_23, Ga_23⟩ := id ((V_g.other W_5 (Ne.symm nag)).other W_20 (Ne.symm ndg))
  have hin_23 : ¬ ((1 : Int32) < 0 ∨ cl_23.slots.size ≤ ((1 : Int32)).toNatClampNeg) := inb_of Sa_23 ⟨by decide, by decide⟩
  have hat_23 : cl_23.slots[((1 : Int32)).toNatClampNeg]? = some (.int y1) := Has.at Ha_23 hin_23 rfl
  obtain ⟨cl_24, Ar_24, qa_24, Sa_24, Na_24, Ha_24, Ga_24⟩ := id ((V_g.other W_5 (Ne.symm nag)).other W_20 (Ne.symm ndg))
  have hin_24 : ¬ ((0 : Int32) < 0 ∨ cl_24.slots.size ≤ ((0 : Int32)).toNatClampNeg) := inb_of Sa_24 ⟨by decide, by decide⟩
  obtain ⟨T_24, h_24, X_24, e_24, W_24, st_24⟩ := stI X_22 hx hZ e_22 Ar_24 (j := (0 : Int32)) hin_24 (g := (mkF mM 163 #[.val (.ref a), .val (.int y0), .val (.long x2), .second, .val (.int y2), .val (.int (0 : Int32)), .val (.int (1 : Int32))] [(.int y1), (.int (0 : Int32)), (.ref g)])) rfl rfl (hb hby d_prog_33m6_163)
  have V_24 : Arv Z h_24 g kg .int (16 : Int32) [(.int y1), (.int y1), (.int y2), (.int y3)] (.int (0 : Int32)) := Arv.set Ar_24 qa_24 Sa_24 Na_24 Ha_24 Ga_24 rfl W_24 0 rfl (Nat.le_of_ble_eq_true rfl)
  have Z_24 : n0 ≤ h_24.size := (Nat.le_trans Z_20 (Keep.of_wr W_24).1)
  have K_24 : Keep h0 h_24 [a, d, g] := K_20.wr W_24 (Or.inl (List.mem_of_getElem? (i := 2) rfl))
  have N_24 := Fr.snoc X_24 N_20 g_g
  obtain ⟨T_25, X_25, e_25, st_25⟩ := getF X_24 hx hZ hown (host := "") (Or.inl (ow hw 21 rfl)) Via.refl e_24 ((Fw_5.other W_20 (Or.inl nad)).other W_24 (Or.inl nag)) (g := (mkF mM 49 #[.val (.ref a), .val (.int y0), .val (.long x2), .second, .val (.int y2), .val (.int (1 : Int32)), .val (.int (3 : Int32))] [(.ref a), (.int (3 : Int32))])) rfl rfl (hb hby d_prog_33m6_49)
  obtain ⟨T_26, X_26, e_26, st_26⟩ := getF X_25 hx hZ hown (host := "") (Or.inl (ow hw 11 rfl)) Via.refl e_25 (((F_keys_a.other W_5 (Or.inr (slot_ne (Or.inl (ow hw 12 rfl)) (Or.inl (ow hw 22 rfl)) (by decide) (t := (.array .long)) (t' := .int) (by decide) (by decide)))).other W_20 (Or.inl nad)).other W_24 (Or.inl nag)) (g := (mkF mM 172 #[.val (.ref a), .val (.int y0), .val (.long x2), .second, .val (.int y2), .val (.int (1 : Int32)), .val (.int (3 : Int32))] [(.ref a)])) rfl rfl (hb hby d_prog_33m6_172)
  obtain ⟨cl_27, Ar_27, qa_27, Sa_27, Na_27, Ha_27, Ga_27⟩ := id (V_20.other W_24 ndg)
  have hin_27 : ¬ ((1 : Int32) < 0 ∨ cl_27.slots.size ≤ ((1 : Int32)).toNatClampNeg) := inb_of Sa_27 ⟨by decide, by decide⟩
  obtain ⟨T_27, h_27, X_27, e_27, W_27, st_27⟩ := stJ X_26 hx hZ e_26 Ar_27 (j := (1 : Int32)) hin_27 (g := (mkF mM 178 #[.val (.ref a), .val (.int y0), .val (.long x2), .second, .val (.int y2), .val (.int (1 : Int32)), .val (.int (3 : Int32))] [(.long x2), (.int (1 : Int32)), (.ref d)])) rfl rfl (hb hby d_prog_33m6_178)
  have V_27 : Arv Z h_27 d kd .long (16 : Int32) [(.long x1), (.long x2), (.long x2), (.long x3)] (.long (0 : Int64)) := Arv.set Ar_27 qa_27 Sa_27 Na_27 Ha_27 Ga_27 rfl W_27 1 rfl (Nat.le_of_ble_eq_true rfl)
  have Z_27 : n0 ≤ h_27.size := (Nat.le_trans Z_24 (Keep.of_wr W_27).1)
  have K_27 : Keep h0 h_27 [a, d, g] := K_24.wr W_27 (Or.inl (List.mem_of_getElem? (i := 1) rfl))
  have N_27 := Fr.snoc X_27 N_24 g_d
  obtain ⟨T_28, X_28, e_28, st_28⟩ := getF X_27 hx hZ hown (host := "") (Or.inl (ow hw 14 rfl)) Via.refl e_27 ((((F_nodes_a.other W_5 (Or.inr (slot_ne (Or.inl (ow hw 15 rfl)) (Or.inl (ow hw 22 rfl)) (by decide) (t := (.array .int)) (t' := .int) (by decide) (by decide)))).other W_20 (Or.inl nad)).other W_24 (Or.inl nag)).other W_27 (Or.inl nad)) (g := (mkF mM 180 #[.val (.ref a), .val (.int y0), .val (.long x2), .second, .val (.int y2), .val (.int (1 : Int32)), .val (.int (3 : Int32))] [(.ref a)])) rfl rfl (hb hby d_prog_33m6_180)
  obtain ⟨cl_29, Ar_29, qa_29, Sa_29, Na_29, Ha_29, Ga_29⟩ := id (V_24.other W_27 (Ne.symm ndg))
  have hin_29 : ¬ ((1 : Int32) < 0 ∨ cl_29.slots.size ≤ ((1 : Int32)).toNatClampNeg) := inb_of Sa_29 ⟨by decide, by decide⟩
  obtain ⟨T_29, h_29, X_29, e_29, W_29, st_29⟩ := stI X_28 hx hZ e_28 Ar_29 (j := (1 : Int32)) hin_29 (g := (mkF mM 187 #[.val (.ref a), .val (.int y0), .val (.long x2), .second, .val (.int y2), .val (.int (1 : Int32)), .val (.int (3 : Int32))] [(.int y2), (.int (1 : Int32)), (.ref g)])) rfl rfl (hb hby d_prog_33m6_187)
  have V_29 : Arv Z h_29 g kg .int (16 : Int32) [(.int y1), (.int y2), (.int y2), (.int y3)] (.int (0 : Int32)) := Arv.set Ar_29 qa_29 Sa_29 Na_29 Ha_29 Ga_29 rfl W_29 1 rfl (Nat.le_of_ble_eq_true rfl)
  have Z_29 : n0 ≤ h_29.size := (Nat.le_trans Z_27 (Keep.of_wr W_29).1)
  have K_29 : Keep h0 h_29 [a, d, g] := K_27.wr W_29 (Or.inl (List.mem_of_getElem? (i := 2) rfl))
  have N_29 := Fr.snoc X_29 N_27 g_g
  obtain ⟨fs, hr, hrun, hended, hW, hsame⟩ := X_29.leave (v := some (.int y0)) (fun h => by rw [Bd.returns] at h; cases h)
  refine ⟨_, _, pre0 _ ?_, hrun, hended, _, _, rfl, ?_, ⟨_, rfl⟩, hW, hsame.mono (by decide) (by decide)⟩
  · show oS pP eE below s₁ (mkF mM 0 #[.val (.ref a), .unset, .unset, .unset, .unset, .unset, .unset] []) _
    refine XS.aloadN X0.here hx rfl (hb hby d_prog_33m6_0) rfl rfl ?_
    show oS pP eE below s₁ (mkF mM 1 #[.val (.ref a), .unset, .unset, .unset, .unset, .unset, .unset] [(.ref a)]) _
    refine st_1 _ ?_
    show oS pP eE below T_1 (mkF mM 4 #[.val (.ref a), .unset, .unset, .unset, .unset, .unset, .unset] [(.ref g)]) _
    refine XS.iconst X_1.here hx rfl (hb hby d_prog_33m6_4) ?_
    show oS pP eE below T_1 (mkF mM 5 #[.val (.ref a), .unset, .unset, .unset, .unset, .unset, .unset] [(.int (0 : Int32)), (.ref g)]) _
    refine X_1.iaload hx (j := (0 : Int32)) (v := (.int y0)) (by rw [e_1]; exact Ar_2.1) (State.isArrayOf_alike hZ.alike Ar_2.2.1) Ar_2.2.2 hin_2 hat_2 (g := (mkF mM 5 #[.val (.ref a), .unset, .unset, .unset, .unset, .unset, .unset] [(.int (0 : Int32)), (.ref g)])) rfl rfl (hb hby d_prog_33m6_5) _ ?_
    refine XS.istoreN X_1.here hx rfl (hb hby d_prog_33m6_6) rfl (l' := #[.val (.ref a), .val (.int y0), .unset, .unset, .unset, .unset, .unset]) rfl ?_
    refine XS.aloadN X_1.here hx rfl (hb hby d_prog_33m6_7) rfl rfl ?_
    show oS pP eE below T_1 (mkF mM 8 #[.val (.ref a), .val (.int y0), .unset, .unset, .unset, .unset, .unset] [(.ref a)]) _
    refine st_3 _ ?_
    show oS pP eE below T_3 (mkF mM 11 #[.val (.ref a), .val (.int y0), .unset, .unset, .unset, .unset, .unset] [(.ref d)]) _
    refine XS.aloadN X_3.here hx rfl (hb hby d_prog_33m6_11) rfl rfl ?_
    refine XS.dup X_3.here hx rfl (hb hby d_prog_33m6_12) rfl rfl ?_
    show oS pP eE below T_3 (mkF mM 13 #[.val (.ref a), .val (.int y0), .unset, .unset, .unset, .unset, .unset] [(.ref a), (.ref a), (.ref d)]) _
    refine st_4 _ ?_
    show oS pP eE below T_4 (mkF mM 16 #[.val (.ref a), .val (.int y0), .unset, .unset, .unset, .unset, .unset] [(.int (3 : Int32)), (.ref a), (.ref d)]) _
    refine XS.iconst X_4.here hx rfl (hb hby d_prog_33m6_16) ?_
    show oS pP eE below T_4 (mkF mM 17 #[.val (.ref a), .val (.int y0), .unset, .unset, .unset, .unset, .unset] [(.int (1 : Int32)), (.int (3 : Int32)), (.ref a), (.ref d)]) _
    refine XS.isub X_4.here hx rfl (hb hby d_prog_33m6_17) rfl ?_
    show oS pP eE below T_4 (mkF mM 18 #[.val (.ref a), .val (.int y0), .unset, .unset, .unset, .unset, .unset] [(.int ((3 : Int32) - (1 : Int32))), (.ref a), (.ref d)]) _
    rw [(by decide : ((3 : Int32) - (1 : Int32)) = (2 : Int32))]
    show oS pP eE below T_4 (mkF mM 18 #[.val (.ref a), .val (.int y0), .unset, .unset, .unset, .unset, .unset] [(.int (2 : Int32)), (.ref a), (.ref d)]) _
    refine XT.dupX1 X_4.here hx rfl (hb hby d_prog_33m6_18) rfl rfl rfl ?_
    show oS pP eE below T_4 (mkF mM 19 #[.val (.ref a), .val (.int y0), .unset, .unset, .unset, .unset, .unset] [(.int (2 : Int32)), (.ref a), (.int (2 : Int32)), (.ref d)]) _
    refine st_5 _ ?_
    show oS pP eE below T_5 (mkF mM 22 #[.val (.ref a), .val (.int y0), .unset, .unset, .unset, .unset, .unset] [(.int (2 : Int32)), (.ref d)]) _
    refine X_5.laload hx (j := (2 : Int32)) (v := (.long x2)) (by rw [e_5]; exact Ar_6.1) (State.isArrayOf_alike hZ.alike Ar_6.2.1) Ar_6.2.2 hin_6 hat_6 (g := (mkF mM 22 #[.val (.ref a), .val (.int y0), .unset, .unset, .unset, .unset, .unset] [(.int (2 : Int32)), (.ref d)])) rfl rfl (hb hby d_prog_33m6_22) _ ?_
    refine XT.lstoreN X_5.here hx rfl (hb hby d_prog_33m6_23) rfl (l' := #[.val (.ref a), .val (.int y0), .val (.long x2), .second, .unset, .unset, .unset]) rfl ?_
    refine XS.aloadN X_5.here hx rfl (hb hby d_prog_33m6_24) rfl rfl ?_
    show oS pP eE below T_5 (mkF mM 25 #[.val (.ref a), .val (.int y0), .val (.long x2), .second, .unset, .unset, .unset] [(.ref a)]) _
    refine st_7 _ ?_
    show oS pP eE below T_7 (mkF mM 28 #[.val (.ref a), .val (.int y0), .val (.long x2), .second, .unset, .unset, .unset] [(.ref g)]) _
    refine XS.aloadN X_7.here hx rfl (hb hby d_prog_33m6_28) rfl rfl ?_
    show oS pP eE below T_7 (mkF mM 29 #[.val (.ref a), .val (.int y0), .val (.long x2), .second, .unset, .unset, .unset] [(.ref a), (.ref g)]) _
    refine st_8 _ ?_
    show oS pP eE below T_8 (mkF mM 32 #[.val (.ref a), .val (.int y0), .val (.long x2), .second, .unset, .unset, .unset] [(.int (2 : Int32)), (.ref g)]) _
    refine X_8.iaload hx (j := (2 : Int32)) (v := (.int y2)) (by rw [e_8]; exact Ar_9.1) (State.isArrayOf_alike hZ.alike Ar_9.2.1) Ar_9.2.2 hin_9 hat_9 (g := (mkF mM 32 #[.val (.ref a), .val (.int y0), .val (.long x2), .second, .unset, .unset, .unset] [(.int (2 : Int32)), (.ref g)])) rfl rfl (hb hby d_prog_33m6_32) _ ?_
    refine XS.istore X_8.here hx rfl (hb hby d_prog_33m6_33) rfl (l' := #[.val (.ref a), .val (.int y0), .val (.long x2), .second, .val (.int y2), .unset, .unset]) rfl ?_
    refine XS.iconst X_8.here hx rfl (hb hby d_prog_33m6_35) ?_
    refine XS.istore X_8.here hx rfl (hb hby d_prog_33m6_36) rfl (l' := #[.val (.ref a), .val (.int y0), .val (.long x2), .second, .val (.int y2), .val (.int (0 : Int32)), .unset]) rfl ?_
    refine XS.iconst X_8.here hx rfl (hb hby d_prog_33m6_38) ?_
    refine XS.iload X_8.here hx rfl (hb hby d_prog_33m6_39) rfl ?_
    show oS pP eE below T_8 (mkF mM 41 #[.val (.ref a), .val (.int y0), .val (.long x2), .second, .val (.int y2), .val (.int (0 : Int32)), .unset] [(.int (0 : Int32)), (.int (2 : Int32))]) _
    refine XS.imul X_8.here hx rfl (hb hby d_prog_33m6_41) rfl ?_
    show oS pP eE below T_8 (mkF mM 42 #[.val (.ref a), .val (.int y0), .val (.long x2), .second, .val (.int y2), .val (.int (0 : Int32)), .unset] [(.int ((2 : Int32) * (0 : Int32)))]) _
    rw [(by decide : ((2 : Int32) * (0 : Int32)) = (0 : Int32))]
    refine XS.iconst X_8.here hx rfl (hb hby d_prog_33m6_42) ?_
    show oS pP eE below T_8 (mkF mM 43 #[.val (.ref a), .val (.int y0), .val (.long x2), .second, .val (.int y2), .val (.int (0 : Int32)), .unset] [(.int (1 : Int32)), (.int (0 : Int32))]) _
    refine XS.iadd X_8.here hx rfl (hb hby d_prog_33m6_43) rfl ?_
    show oS pP eE below T_8 (mkF mM 44 #[.val (.ref a), .val (.int y0), .val (.long x2), .second, .val (.int y2), .val (.int (0 : Int32)), .unset] [(.int ((0 : Int32) + (1 : Int32)))]) _
    rw [(by decide : ((0 : Int32) + (1 : Int32)) = (1 : Int32))]
    refine XS.istore X_8.here hx rfl (hb hby d_prog_33m6_44) rfl (l' := #[.val (.ref a), .val (.int y0), .val (.long x2), .second, .val (.int y2), .val (.int (0 : Int32)), .val (.int (1 : Int32))]) rfl ?_
    refine XS.iload X_8.here hx rfl (hb hby d_prog_33m6_46) rfl ?_
    refine XS.aloadN X_8.here hx rfl (hb hby d_prog_33m6_48) rfl rfl ?_
    show oS pP eE below T_8 (mkF mM 49 #[.val (.ref a), .val (.int y0), .val (.long x2), .second, .val (.int y2), .val (.int (0 : Int32)), .val (.int (1 : Int32))] [(.ref a), (.int (1 : Int32))]) _
    refine st_10 _ ?_
    show oS pP eE below T_10 (mkF mM 52 #[.val (.ref a), .val (.int y0), .val (.long x2), .second, .val (.int y2), .val (.int (0 : Int32)), .val (.int (1 : Int32))] [(.int (2 : Int32)), (.int (1 : Int32))]) _
    refine XS.icmpYes X_10.here hx rfl (pc0 := 52) (pc' := 58) rfl (hb hby d_prog_33m6_52) rfl (by decide) (by decide) (by decide) ?_
    refine XS.iload X_10.here hx rfl (hb hby d_prog_33m6_58) rfl ?_
    refine XS.iconst X_10.here hx rfl (hb hby d_prog_33m6_60) ?_
    show oS pP eE below T_10 (mkF mM 61 #[.val (.ref a), .val (.int y0), .val (.long x2), .second, .val (.int y2), .val (.int (0 : Int32)), .val (.int (1 : Int32))] [(.int (1 : Int32)), (.int (1 : Int32))]) _
    refine XS.iadd X_10.here hx rfl (hb hby d_prog_33m6_61) rfl ?_
    show oS pP eE below T_10 (mkF mM 62 #[.val (.ref a), .val (.int y0), .val (.long x2), .second, .val (.int y2), .val (.int (0 : Int32)), .val (.int (1 : Int32))] [(.int ((1 : Int32) + (1 : Int32)))]) _
    rw [(by decide : ((1 : Int32) + (1 : Int32)) = (2 : Int32))]
    refine XS.aloadN X_10.here hx rfl (hb hby d_prog_33m6_62) rfl rfl ?_
    show oS pP eE below T_10 (mkF mM 63 #[.val (.ref a), .val (.int y0), .val (.long x2), .second, .val (.int y2), .val (.int (0 : Int32)), .val (.int (1 : Int32))] [(.ref a), (.int (2 : Int32))]) _
    refine st_11 _ ?_
    show oS pP eE below T_11 (mkF mM 66 #[.val (.ref a), .val (.int y0), .val (.long x2), .second, .val (.int y2), .val (.int (0 : Int32)), .val (.int (1 : Int32))] [(.int (2 : Int32)), (.int (2 : Int32))]) _
    refine XS.icmpYes X_11.here hx rfl (pc0 := 66) (pc' := 110) rfl (hb hby d_prog_33m6_66) rfl (by decide) (by decide) (by decide) ?_
    refine XS.aloadN X_11.here hx rfl (hb hby d_prog_33m6_110) rfl rfl ?_
    show oS pP eE below T_11 (mkF mM 111 #[.val (.ref a), .val (.int y0), .val (.long x2), .second, .val (.int y2), .val (.int (0 : Int32)), .val (.int (1 : Int32))] [(.ref a)]) _
    refine st_12 _ ?_
    show oS pP eE below T_12 (mkF mM 114 #[.val (.ref a), .val (.int y0), .val (.long x2), .second, .val (.int y2), .val (.int (0 : Int32)), .val (.int (1 : Int32))] [(.ref d)]) _
    refine XS.iload X_12.here hx rfl (hb hby d_prog_33m6_114) rfl ?_
    show oS pP eE below T_12 (mkF mM 116 #[.val (.ref a), .val (.int y0), .val (.long x2), .second, .val (.int y2), .val (.int (0 : Int32)), .val (.int (1 : Int32))] [(.int (1 : Int32)), (.ref d)]) _
    refine X_12.laload hx (j := (1 : Int32)) (v := (.long x1)) (by rw [e_12]; exact Ar_13.1) (State.isArrayOf_alike hZ.alike Ar_13.2.1) Ar_13.2.2 hin_13 hat_13 (g := (mkF mM 116 #[.val (.ref a), .val (.int y0), .val (.long x2), .second, .val (.int y2), .val (.int (0 : Int32)), .val (.int (1 : Int32))] [(.int (1 : Int32)), (.ref d)])) rfl rfl (hb hby d_prog_33m6_116) _ ?_
    refine XS.aloadN X_12.here hx rfl (hb hby d_prog_33m6_117) rfl rfl ?_
    show oS pP eE below T_12 (mkF mM 118 #[.val (.ref a), .val (.int y0), .val (.long x2), .second, .val (.int y2), .val (.int (0 : Int32)), .val (.int (1 : Int32))] [(.ref a), (.long x1)]) _
    refine st_14 _ ?_
    show oS pP eE below T_14 (mkF mM 121 #[.val (.ref a), .val (.int y0), .val (.long x2), .second, .val (.int y2), .val (.int (0 : Int32)), .val (.int (1 : Int32))] [(.ref g), (.long x1)]) _
    refine XS.iload X_14.here hx rfl (hb hby d_prog_33m6_121) rfl ?_
    show oS pP eE below T_14 (mkF mM 123 #[.val (.ref a), .val (.int y0), .val (.long x2), .second, .val (.int y2), .val (.int (0 : Int32)), .val (.int (1 : Int32))] [(.int (1 : Int32)), (.ref g), (.long x1)]) _
    refine X_14.iaload hx (j := (1 : Int32)) (v := (.int y1)) (by rw [e_14]; exact Ar_15.1) (State.isArrayOf_alike hZ.alike Ar_15.2.1) Ar_15.2.2 hin_15 hat_15 (g := (mkF mM 123 #[.val (.ref a), .val (.int y0), .val (.long x2), .second, .val (.int y2), .val (.int (0 : Int32)), .val (.int (1 : Int32))] [(.int (1 : Int32)), (.ref g), (.long x1)])) rfl rfl (hb hby d_prog_33m6_123) _ ?_
    refine XT.lloadN X_14.here hx rfl (hb hby d_prog_33m6_124) rfl ?_
    refine XS.iload X_14.here hx rfl (hb hby d_prog_33m6_125) rfl ?_
    show oS pP eE below T_14 (mkF mM 127 #[.val (.ref a), .val (.int y0), .val (.long x2), .second, .val (.int y2), .val (.int (0 : Int32)), .val (.int (1 : Int32))] [(.int y2), (.long x2), (.int y1), (.long x1)]) _
    refine st_16 _ ?_
    show oS pP eE below T_16 (mkF mM 130 #[.val (.ref a), .val (.int y0), .val (.long x2), .second, .val (.int y2), .val (.int (0 : Int32)), .val (.int (1 : Int32))] [(.int (1 : Int32))]) _
    refine XS.ifYes X_16.here hx rfl (pc0 := 130) (pc' := 136) rfl (hb hby d_prog_33m6_130) rfl (by decide) (by decide) (by decide) ?_
    refine XS.aloadN X_16.here hx rfl (hb hby d_prog_33m6_136) rfl rfl ?_
    show oS pP eE below T_16 (mkF mM 137 #[.val (.ref a), .val (.int y0), .val (.long x2), .second, .val (.int y2), .val (.int (0 : Int32)), .val (.int (1 : Int32))] [(.ref a)]) _
    refine st_17 _ ?_
    show oS pP eE below T_17 (mkF mM 140 #[.val (.ref a), .val (.int y0), .val (.long x2), .second, .val (.int y2), .val (.int (0 : Int32)), .val (.int (1 : Int32))] [(.ref d)]) _
    refine XS.iload X_17.here hx rfl (hb hby d_prog_33m6_140) rfl ?_
    refine XS.aloadN X_17.here hx rfl (hb hby d_prog_33m6_142) rfl rfl ?_
    show oS pP eE below T_17 (mkF mM 143 #[.val (.ref a), .val (.int y0), .val (.long x2), .second, .val (.int y2), .val (.int (0 : Int32)), .val (.int (1 : Int32))] [(.ref a), (.int (0 : Int32)), (.ref d)]) _
    refine st_18 _ ?_
    show oS pP eE below T_18 (mkF mM 146 #[.val (.ref a), .val (.int y0), .val (.long x2), .second, .val (.int y2), .val (.int (0 : Int32)), .val (.int (1 : Int32))] [(.ref d), (.int (0 : Int32)), (.ref d)]) _
    refine XS.iload X_18.here hx rfl (hb hby d_prog_33m6_146) rfl ?_
    show oS pP eE below T_18 (mkF mM 148 #[.val (.ref a), .val (.int y0), .val (.long x2), .second, .val (.int y2), .val (.int (0 : Int32)), .val (.int (1 : Int32))] [(.int (1 : Int32)), (.ref d), (.int (0 : Int32)), (.ref d)]) _
    refine X_18.laload hx (j := (1 : Int32)) (v := (.long x1)) (by rw [e_18]; exact Ar_19.1) (State.isArrayOf_alike hZ.alike Ar_19.2.1) Ar_19.2.2 hin_19 hat_19 (g := (mkF mM 148 #[.val (.ref a), .val (.int y0), .val (.long x2), .second, .val (.int y2), .val (.int (0 : Int32)), .val (.int (1 : Int32))] [(.int (1 : Int32)), (.ref d), (.int (0 : Int32)), (.ref d)])) rfl rfl (hb hby d_prog_33m6_148) _ ?_
    show oS pP eE below T_18 (mkF mM 149 #[.val (.ref a), .val (.int y0), .val (.long x2), .second, .val (.int y2), .val (.int (0 : Int32)), .val (.int (1 : Int32))] [(.long x1), (.int (0 : Int32)), (.ref d)]) _
    refine st_20 _ ?_
    show oS pP eE below T_20 (mkF mM 150 #[.val (.ref a), .val (.int y0), .val (.long x2), .second, .val (.int y2), .val (.int (0 : Int32)), .val (.int (1 : Int32))] []) _
    refine XS.aloadN X_20.here hx rfl (hb hby d_prog_33m6_150) rfl rfl ?_
    show oS pP eE below T_20 (mkF mM 151 #[.val (.ref a), .val (.int y0), .val (.long x2), .second, .val (.int y2), .val (.int (0 : Int32)), .val (.int (1 : Int32))] [(.ref a)]) _
    refine st_21 _ ?_
    show oS pP eE below T_21 (mkF mM 154 #[.val (.ref a), .val (.int y0), .val (.long x2), .second, .val (.int y2), .val (.int (0 : Int32)), .val (.int (1 : Int32))] [(.ref g)]) _
    refine XS.iload X_21.here hx rfl (hb hby d_prog_33m6_154) rfl ?_
    refine XS.aloadN X_21.here hx rfl (hb hby d_prog_33m6_156) rfl rfl ?_
    show oS pP eE below T_21 (mkF mM 157 #[.val (.ref a), .val (.int y0), .val (.long x2), .second, .val (.int y2), .val (.int (0 : Int32)), .val (.int (1 : Int32))] [(.ref a), (.int (0 : Int32)), (.ref g)]) _
    refine st_22 _ ?_
    show oS pP eE below T_22 (mkF mM 160 #[.val (.ref a), .val (.int y0), .val (.long x2), .second, .val (.int y2), .val (.int (0 : Int32)), .val (.int (1 : Int32))] [(.ref g), (.int (0 : Int32)), (.ref g)]) _
    refine XS.iload X_22.here hx rfl (hb hby d_prog_33m6_160) rfl ?_
    show oS pP eE below T_22 (mkF mM 162 #[.val (.ref a), .val (.int y0), .val (.long x2), .second, .val (.int y2), .val (.int (0 : Int32)), .val (.int (1 : Int32))] [(.int (1 : Int32)), (.ref g), (.int (0 : Int32)), (.ref g)]) _
    refine X_22.iaload hx (j := (1 : Int32)) (v := (.int y1)) (by rw [e_22]; exact Ar_23.1) (State.isArrayOf_alike hZ.alike Ar_23.2.1) Ar_23.2.2 hin_23 hat_23 (g := (mkF mM 162 #[.val (.ref a), .val (.int y0), .val (.long x2), .second, .val (.int y2), .val (.int (0 : Int32)), .val (.int (1 : Int32))] [(.int (1 : Int32)), (.ref g), (.int (0 : Int32)), (.ref g)])) rfl rfl (hb hby d_prog_33m6_162) _ ?_
    show oS pP eE below T_22 (mkF mM 163 #[.val (.ref a), .val (.int y0), .val (.long x2), .second, .val (.int y2), .val (.int (0 : Int32)), .val (.int (1 : Int32))] [(.int y1), (.int (0 : Int32)), (.ref g)]) _
    refine st_24 _ ?_
    show oS pP eE below T_24 (mkF mM 164 #[.val (.ref a), .val (.int y0), .val (.long x2), .second, .val (.int y2), .val (.int (0 : Int32)), .val (.int (1 : Int32))] []) _
    refine XS.iload X_24.here hx rfl (hb hby d_prog_33m6_164) rfl ?_
    refine XS.istore X_24.here hx rfl (hb hby d_prog_33m6_166) rfl (l' := #[.val (.ref a), .val (.int y0), .val (.long x2), .second, .val (.int y2), .val (.int (1 : Int32)), .val (.int (1 : Int32))]) rfl ?_
    refine XS.goto X_24.here hx rfl (pc0 := 168) (pc' := 38) rfl (hb hby d_prog_33m6_168) (by decide) (by decide) ?_
    refine XS.iconst X_24.here hx rfl (hb hby d_prog_33m6_38) ?_
    refine XS.iload X_24.here hx rfl (hb hby d_prog_33m6_39) rfl ?_
    show oS pP eE below T_24 (mkF mM 41 #[.val (.ref a), .val (.int y0), .val (.long x2), .second, .val (.int y2), .val (.int (1 : Int32)), .val (.int (1 : Int32))] [(.int (1 : Int32)), (.int (2 : Int32))]) _
    refine XS.imul X_24.here hx rfl (hb hby d_prog_33m6_41) rfl ?_
    show oS pP eE below T_24 (mkF mM 42 #[.val (.ref a), .val (.int y0), .val (.long x2), .second, .val (.int y2), .val (.int (1 : Int32)), .val (.int (1 : Int32))] [(.int ((2 : Int32) * (1 : Int32)))]) _
    rw [(by decide : ((2 : Int32) * (1 : Int32)) = (2 : Int32))]
    refine XS.iconst X_24.here hx rfl (hb hby d_prog_33m6_42) ?_
    show oS pP eE below T_24 (mkF mM 43 #[.val (.ref a), .val (.int y0), .val (.long x2), .second, .val (.int y2), .val (.int (1 : Int32)), .val (.int (1 : Int32))] [(.int (1 : Int32)), (.int (2 : Int32))]) _
    refine XS.iadd X_24.here hx rfl (hb hby d_prog_33m6_43) rfl ?_
    show oS pP eE below T_24 (mkF mM 44 #[.val (.ref a), .val (.int y0), .val (.long x2), .second, .val (.int y2), .val (.int (1 : Int32)), .val (.int (1 : Int32))] [(.int ((2 : Int32) + (1 : Int32)))]) _
    rw [(by decide : ((2 : Int32) + (1 : Int32)) = (3 : Int32))]
    refine XS.istore X_24.here hx rfl (hb hby d_prog_33m6_44) rfl (l' := #[.val (.ref a), .val (.int y0), .val (.long x2), .second, .val (.int y2), .val (.int (1 : Int32)), .val (.int (3 : Int32))]) rfl ?_
    refine XS.iload X_24.here hx rfl (hb hby d_prog_33m6_46) rfl ?_
    refine XS.aloadN X_24.here hx rfl (hb hby d_prog_33m6_48) rfl rfl ?_
    show oS pP eE below T_24 (mkF mM 49 #[.val (.ref a), .val (.int y0), .val (.long x2), .second, .val (.int y2), .val (.int (1 : Int32)), .val (.int (3 : Int32))] [(.ref a), (.int (3 : Int32))]) _
    refine st_25 _ ?_
    show oS pP eE below T_25 (mkF mM 52 #[.val (.ref a), .val (.int y0), .val (.long x2), .second, .val (.int y2), .val (.int (1 : Int32)), .val (.int (3 : Int32))] [(.int (2 : Int32)), (.int (3 : Int32))]) _
    refine XS.icmpNo X_25.here hx rfl (hb hby d_prog_33m6_52) rfl (by decide) ?_
    refine XS.goto X_25.here hx rfl (pc0 := 55) (pc' := 171) rfl (hb hby d_prog_33m6_55) (by decide) (by decide) ?_
    refine XS.aloadN X_25.here hx rfl (hb hby d_prog_33m6_171) rfl rfl ?_
    show oS pP eE below T_25 (mkF mM 172 #[.val (.ref a), .val (.int y0), .val (.long x2), .second, .val (.int y2), .val (.int (1 : Int32)), .val (.int (3 : Int32))] [(.ref a)]) _
    refine st_26 _ ?_
    show oS pP eE below T_26 (mkF mM 175 #[.val (.ref a), .val (.int y0), .val (.long x2), .second, .val (.int y2), .val (.int (1 : Int32)), .val (.int (3 : Int32))] [(.ref d)]) _
    refine XS.iload X_26.here hx rfl (hb hby d_prog_33m6_175) rfl ?_
    refine XT.lloadN X_26.here hx rfl (hb hby d_prog_33m6_177) rfl ?_
    show oS pP eE below T_26 (mkF mM 178 #[.val (.ref a), .val (.int y0), .val (.long x2), .second, .val (.int y2), .val (.int (1 : Int32)), .val (.int (3 : Int32))] [(.long x2), (.int (1 : Int32)), (.ref d)]) _
    refine st_27 _ ?_
    show oS pP eE below T_27 (mkF mM 179 #[.val (.ref a), .val (.int y0), .val (.long x2), .second, .val (.int y2), .val (.int (1 : Int32)), .val (.int (3 : Int32))] []) _
    refine XS.aloadN X_27.here hx rfl (hb hby d_prog_33m6_179) rfl rfl ?_
    show oS pP eE below T_27 (mkF mM 180 #[.val (.ref a), .val (.int y0), .val (.long x2), .second, .val (.int y2), .val (.int (1 : Int32)), .val (.int (3 : Int32))] [(.ref a)]) _
    refine st_28 _ ?_
    show oS pP eE below T_28 (mkF mM 183 #[.val (.ref a), .val (.int y0), .val (.long x2), .second, .val (.int y2), .val (.int (1 : Int32)), .val (.int (3 : Int32))] [(.ref g)]) _
    refine XS.iload X_28.here hx rfl (hb hby d_prog_33m6_183) rfl ?_
    refine XS.iload X_28.here hx rfl (hb hby d_prog_33m6_185) rfl ?_
    show oS pP eE below T_28 (mkF mM 187 #[.val (.ref a), .val (.int y0), .val (.long x2), .second, .val (.int y2), .val (.int (1 : Int32)), .val (.int (3 : Int32))] [(.int y2), (.int (1 : Int32)), (.ref g)]) _
    refine st_29 _ ?_
    show oS pP eE below T_29 (mkF mM 188 #[.val (.ref a), .val (.int y0), .val (.long x2), .second, .val (.int y2), .val (.int (1 : Int32)), .val (.int (3 : Int32))] []) _
    refine XS.iloadN X_29.here hx rfl (hb hby d_prog_33m6_188) rfl ?_
    show oS pP eE below T_29 (mkF mM 189 #[.val (.ref a), .val (.int y0), .val (.long x2), .second, .val (.int y2), .val (.int (1 : Int32)), .val (.int (3 : Int32))] [(.int y0)]) _
    exact retI X_29 hx Bd.returns (hb hby d_prog_33m6_189) hr
  · show Q_take3 Z a d g kd kg x0 x1 x2 x3 y0 y1 y2 y3 h0 n0 _ T_29.heap _
    rw [e_29]
    exact ⟨x1, x2, x2, x3, y1, y2, y2, y3, rfl, N_29, K_29, ((((Fw_5.other W_20 (Or.inl nad)).other W_24 (Or.inl nag)).other W_27 (Or.inl nad)).other W_29 (Or.inl nag)), (((((F_keys_a.other W_5 (Or.inr (slot_ne (Or.inl (ow hw 12 rfl)) (Or.inl (ow hw 22 rfl)) (by decide) (t := (.array .long)) (t' := .int) (by decide) (by decide)))).other W_20 (Or.inl nad)).other W_24 (Or.inl nag)).other W_27 (Or.inl nad)).other W_29 (Or.inl nag)), (((((F_nodes_a.other W_5 (Or.inr (slot_ne (Or.inl (ow hw 15 rfl)) (Or.inl (ow hw 22 rfl)) (by decide) (t := (.array .int)) (t' := .int) (by decide) (by decide)))).other W_20 (Or.inl nad)).other W_24 (Or.inl nag)).other W_27 (Or.inl nad)).other W_29 (Or.inl nag)), (((((E_a.wr W_5).wr W_20).wr W_24).wr W_27).wr W_29), (V_27.other W_29 ndg), V_29⟩
set_option maxRecDepth 65536 in
set_option maxHeartbeats 40000000 in
theorem rm_take3 (l : Launch) (Z : State) (a0 : Array Value) (hw : ∀ d ∈ tables_1, d.before a0 Z = true) (ws : List Jvm.Cond) (a : Addr) (d : Addr) (g : Addr) (kd : ClassId) (kg : ClassId) (x0 : Int64) (x1 : Int64) (x2 : Int64) (x3 : Int64) (y0 : Int32) (y1 : Int32) (y2 : Int32) (y3 : Int32) (h0 : Heap) (n0 : Nat) (Z0 : n0 ≤ h0.size) (F_size_a : Fld Z h0 a "com/example/greenweft/greenweft/steiner/NodeHeap" "size" "I" (.int (3 : Int32))) (F_keys_a : Fld Z h0 a "com/example/greenweft/greenweft/steiner/NodeHeap" "keys" "[J" (.ref d)) (F_nodes_a : Fld Z h0 a "com/example/greenweft/greenweft/steiner/NodeHeap" "nodes" "[I" (.ref g)) (E_a : Exa Z h0 a "com/example/greenweft/greenweft/steiner/NodeHeap") (g_a : n0 ≤ a) (g_d : n0 ≤ d) (g_g : n0 ≤ g) (V_d : Arv Z h0 d kd .long (16 : Int32) [(.long x0), (.long x1), (.long x2), (.long x3)] (.long (0 : Int64))) (V_g : Arv Z h0 g kg .int (16 : Int32) [(.int y0), (.int y1), (.int y2), (.int y3)] (.int (0 : Int32))) (ndg : d ≠ g) (nad : a ≠ d) (nag : a ≠ g) :
    MetFree l (⟨"com/example/greenweft/greenweft/steiner/NodeHeap", "takeLowest", "()I"⟩ : MethodName) (head1 (Jvm.Cond.code (⟨"com/example/greenweft/greenweft/steiner/NodeHeap", "takeLowest", "()I"⟩ : MethodName) prog_33_method_6_code 7 (some .int) :: ws) ({ frames := 1, cells := 0, slots := 0, locals := 17 } : Room)) (fun aa_ U_ => aa_ = #[(.ref a)] ∧ Z.Warmed39 U_.vm ∧ U_.heap = h0) (fun _ _ _ _ _ => True) (fun _ U_ o_ U'_ => ∃ v_ L_, o_ = .returned v_ ∧ Q_take3 Z a d g kd kg x0 x1 x2 x3 y0 y1 y2 y3 h0 n0 v_ U'_.heap L_ ∧ FrameEnd U_ o_ U'_ L_ ({ frames := 1, cells := 0, slots := 0, locals := 17 } : Room).cells ({ frames := 1, cells := 0, slots := 0, locals := 17 } : Room).slots) := by
  by_cases hr0 : own_pre x1 y1 x2 y2
  · exact rm_take3y_ l Z a0 hw ws a d g kd kg x0 x1 x2 x3 y0 y1 y2 y3 h0 n0 Z0 F_size_a F_keys_a F_nodes_a E_a g_a g_d g_g V_d V_g ndg nad nag hr0
  · exact rm_take3n_ l Z a0 hw ws a d g kd kg x0 x1 x2 x3 y0 y1 y2 y3 h0 n0 Z0 F_size_a F_keys_a F_nodes_a E_a g_a g_d g_g V_d V_g ndg nad nag hr0
theorem d_prog_33m2_0 : decode prog_33_method_2_code 0 = .ok (.aload_n 0, 1) := by decide +kernel
theorem d_prog_33m2_1 : decode prog_33_method_2_code 1 = .ok (.getfield 17, 3) := by decide +kernel
theorem d_prog_33m2_4 : decode prog_33_method_2_code 4 = .ok (.ifCond .ne 7, 3) := by decide +kernel
theorem d_prog_33m2_7 : decode prog_33_method_2_code 7 = .ok (.iconst 1, 1) := by decide +kernel
theorem d_prog_33m2_8 : decode prog_33_method_2_code 8 = .ok (.goto 4, 3) := by decide +kernel
theorem d_prog_33m2_12 : decode prog_33_method_2_code 12 = .ok (.ireturn, 1) := by decide +kernel
theorem ef_ie0 (mM : MethodId) (x0 : Addr) : entryFrame mM #[(.ref x0)] 1 = mkF mM 0 #[.val (.ref x0)] [] := by first | (simp [entryFrame, mkF, argsToLocals, Value.category]; done) | rfl
def Q_ie0 (Z : State) (a : Addr) (h0 : Heap) (n0 : Nat) (v_ : Option Value) (h_ : Heap) (L_ : List Loc) : Prop := v_ = some (.int (1 : Int32)) ∧ Fr n0 L_ ∧ h_ = h0
set_option maxRecDepth 65536 in
set_option maxHeartbeats 40000000 in
theorem rm_ie0 (l : Launch) (Z : State) (a0 : Array Value) (hw : ∀ d ∈ tables_1, d.before a0 Z = true) (ws : List Jvm.Cond) (a : Addr) (h0 : Heap) (n0 : Nat) (Z0 : n0 ≤ h0.size) (F_size_a : Fld Z h0 a "com/example/greenweft/greenweft/steiner/NodeHeap" "size" "I" (.int (0 : Int32))) :
    MetFree l (⟨"com/example/greenweft/greenweft/steiner/NodeHeap", "isEmpty", "()Z"⟩ : MethodName) (head1 (Jvm.Cond.code (⟨"com/example/greenweft/greenweft/steiner/NodeHeap", "isEmpty", "()Z"⟩ : MethodName) prog_33_method_2_code 1 (some .boolean) :: ws) ({ frames := 0, cells := 0, slots := 0, locals := 0 } : Room)) (fun aa_ U_ => aa_ = #[(.ref a)] ∧ Z.Warmed39 U_.vm ∧ U_.heap = h0) (fun _ _ _ _ _ => True) (fun _ U_ o_ U'_ => ∃ v_ L_, o_ = .returned v_ ∧ Q_ie0 Z a h0 n0 v_ U'_.heap L_ ∧ FrameEnd U_ o_ U'_ L_ ({ frames := 0, cells := 0, slots := 0, locals := 0 } : Room).cells ({ frames := 0, cells := 0, slots := 0, locals := 0 } : Room).slots) := by
  refine MetFree.of_bodySF (plainFor_of_name pn_0) hisR ?_
  intro pP eE sS mM argsA below meth cC s₁ Bd hml0 hP hK
  obtain ⟨rfl, hZ, hh⟩ := hP
  have hx := Bd.exec
  have hby := Bd.bytes
  have hml : cC.maxLocals = 1 := hml0
  have hown : sS.vm.findClass "com/example/greenweft/greenweft/steiner/NodeHeap" = some mM.cls := findClass_of_methodNamed Bd.named
  have hnm := (name_of_methodNamed Bd.named Bd.method).1
  have X0 : Stand pP l eE ({ frames := 0, cells := 0, slots := 0, locals := 0 } : Room) sS mM #[(.ref a)] below meth cC s₁ [] 0 0 := Stand.of_body Bd
  have e0 : s₁.heap = h0 := by rw [← hh, Bd.state]; rfl
  have N0 := Fr.nil n0
  have pre0 : ∀ t_, Steps pP.tables eE below (s₁.setTop (mkF mM 0 #[.val (.ref a)] [])) t_ → Steps pP.tables eE below (s₁.setTop (entryFrame mM #[(.ref a)] 1)) t_ := fun t_ k_ => castTop (ef_ie0 mM a) k_
  obtain ⟨T_1, X_1, e_1, st_1⟩ := getF X0 hx hZ hown (host := "") (Or.inl (ow hw 21 rfl)) Via.refl e0 F_size_a (g := (mkF mM 1 #[.val (.ref a)] [(.ref a)])) rfl rfl (hb hby d_prog_33m2_1)
  obtain ⟨fs, hr, hrun, hended, hW, hsame⟩ := X_1.leave (v := some (.int (1 : Int32))) (fun h => by rw [Bd.returns] at h; cases h)
  refine ⟨_, _, pre0 _ ?_, hrun, hended, _, _, rfl, ?_, ⟨_, rfl⟩, hW, hsame.mono (by decide) (by decide)⟩
  · show oS pP eE below s₁ (mkF mM 0 #[.val (.ref a)] []) _
    refine XS.aloadN X0.here hx rfl (hb hby d_prog_33m2_0) rfl rfl ?_
    show oS pP eE below s₁ (mkF mM 1 #[.val (.ref a)] [(.ref a)]) _
    refine st_1 _ ?_
    show oS pP eE below T_1 (mkF mM 4 #[.val (.ref a)] [(.int (0 : Int32))]) _
    refine XS.ifNo X_1.here hx rfl (hb hby d_prog_33m2_4) rfl (by decide) ?_
    refine XS.iconst X_1.here hx rfl (hb hby d_prog_33m2_7) ?_
    refine XS.goto X_1.here hx rfl (pc0 := 8) (pc' := 12) rfl (hb hby d_prog_33m2_8) (by decide) (by decide) ?_
    show oS pP eE below T_1 (mkF mM 12 #[.val (.ref a)] [(.int (1 : Int32))]) _
    exact retN X_1 hx (t := .boolean) Bd.returns (by simp) (hb hby d_prog_33m2_12) hr
  · show Q_ie0 Z a h0 n0 _ T_1.heap _
    rw [e_1]
    exact ⟨rfl, N0, rfl⟩
theorem d_prog_33m2_11 : decode prog_33_method_2_code 11 = .ok (.iconst 0, 1) := by decide +kernel
theorem ef_ie1 (mM : MethodId) (x0 : Addr) : entryFrame mM #[(.ref x0)] 1 = mkF mM 0 #[.val (.ref x0)] [] := by first | (simp [entryFrame, mkF, argsToLocals, Value.category]; done) | rfl
def Q_ie1 (Z : State) (a : Addr) (h0 : Heap) (n0 : Nat) (v_ : Option Value) (h_ : Heap) (L_ : List Loc) : Prop := v_ = some (.int (0 : Int32)) ∧ Fr n0 L_ ∧ h_ = h0
set_option maxRecDepth 65536 in
set_option maxHeartbeats 40000000 in
theorem rm_ie1 (l : Launch) (Z : State) (a0 : Array Value) (hw : ∀ d ∈ tables_1, d.before a0 Z = true) (ws : List Jvm.Cond) (a : Addr) (h0 : Heap) (n0 : Nat) (Z0 : n0 ≤ h0.size) (F_size_a : Fld Z h0 a "com/example/greenweft/greenweft/steiner/NodeHeap" "size" "I" (.int (1 : Int32))) :
    MetFree l (⟨"com/example/greenweft/greenweft/steiner/NodeHeap", "isEmpty", "()Z"⟩ : MethodName) (head1 (Jvm.Cond.code (⟨"com/example/greenweft/greenweft/steiner/NodeHeap", "isEmpty", "()Z"⟩ : MethodName) prog_33_method_2_code 1 (some .boolean) :: ws) ({ frames := 0, cells := 0, slots := 0, locals := 0 } : Room)) (fun aa_ U_ => aa_ = #[(.ref a)] ∧ Z.Warmed39 U_.vm ∧ U_.heap = h0) (fun _ _ _ _ _ => True) (fun _ U_ o_ U'_ => ∃ v_ L_, o_ = .returned v_ ∧ Q_ie1 Z a h0 n0 v_ U'_.heap L_ ∧ FrameEnd U_ o_ U'_ L_ ({ frames := 0, cells := 0, slots := 0, locals := 0 } : Room).cells ({ frames := 0, cells := 0, slots := 0, locals := 0 } : Room).slots) := by
  refine MetFree.of_bodySF (plainFor_of_name pn_0) hisR ?_
  intro pP eE sS mM argsA below meth cC s₁ Bd hml0 hP hK
  obtain ⟨rfl, hZ, hh⟩ := hP
  have hx := Bd.exec
  have hby := Bd.bytes
  have hml : cC.maxLocals = 1 := hml0
  have hown : sS.vm.findClass "com/example/greenweft/greenweft/steiner/NodeHeap" = some mM.cls := findClass_of_methodNamed Bd.named
  have hnm := (name_of_methodNamed Bd.named Bd.method).1
  have X0 : Stand pP l eE ({ frames := 0, cells := 0, slots := 0, locals := 0 } : Room) sS mM #[(.ref a)] below meth cC s₁ [] 0 0 := Stand.of_body Bd
  have e0 : s₁.heap = h0 := by rw [← hh, Bd.state]; rfl
  have N0 := Fr.nil n0
  have pre0 : ∀ t_, Steps pP.tables eE below (s₁.setTop (mkF mM 0 #[.val (.ref a)] [])) t_ → Steps pP.tables eE below (s₁.setTop (entryFrame mM #[(.ref a)] 1)) t_ := fun t_ k_ => castTop (ef_ie1 mM a) k_
  obtain ⟨T_1, X_1, e_1, st_1⟩ := getF X0 hx hZ hown (host := "") (Or.inl (ow hw 21 rfl)) Via.refl e0 F_size_a (g := (mkF mM 1 #[.val (.ref a)] [(.ref a)])) rfl rfl (hb hby d_prog_33m2_1)
  obtain ⟨fs, hr, hrun, hended, hW, hsame⟩ := X_1.leave (v := some (.int (0 : Int32))) (fun h => by rw [Bd.returns] at h; cases h)
  refine ⟨_, _, pre0 _ ?_, hrun, hended, _, _, rfl, ?_, ⟨_, rfl⟩, hW, hsame.mono (by decide) (by decide)⟩
  · show oS pP eE below s₁ (mkF mM 0 #[.val (.ref a)] []) _
    refine XS.aloadN X0.here hx rfl (hb hby d_prog_33m2_0) rfl rfl ?_
    show oS pP eE below s₁ (mkF mM 1 #[.val (.ref a)] [(.ref a)]) _
    refine st_1 _ ?_
    show oS pP eE below T_1 (mkF mM 4 #[.val (.ref a)] [(.int (1 : Int32))]) _
    refine XS.ifYes X_1.here hx rfl (pc0 := 4) (pc' := 11) rfl (hb hby d_prog_33m2_4) rfl (by decide) (by decide) (by decide) ?_
    refine XS.iconst X_1.here hx rfl (hb hby d_prog_33m2_11) ?_
    show oS pP eE below T_1 (mkF mM 12 #[.val (.ref a)] [(.int (0 : Int32))]) _
    exact retN X_1 hx (t := .boolean) Bd.returns (by simp) (hb hby d_prog_33m2_12) hr
  · show Q_ie1 Z a h0 n0 _ T_1.heap _
    rw [e_1]
    exact ⟨rfl, N0, rfl⟩
theorem ef_ie2 (mM : MethodId) (x0 : Addr) : entryFrame mM #[(.ref x0)] 1 = mkF mM 0 #[.val (.ref x0)] [] := by first | (simp [entryFrame, mkF, argsToLocals, Value.category]; done) | rfl
def Q_ie2 (Z : State) (a : Addr) (h0 : Heap) (n0 : Nat) (v_ : Option Value) (h_ : Heap) (L_ : List Loc) : Prop := v_ = some (.int (0 : Int32)) ∧ Fr n0 L_ ∧ h_ = h0
set_option maxRecDepth 65536 in
set_option maxHeartbeats 40000000 in
theorem rm_ie2 (l : Launch) (Z : State) (a0 : Array Value) (hw : ∀ d ∈ tables_1, d.before a0 Z = true) (ws : List Jvm.Cond) (a : Addr) (h0 : Heap) (n0 : Nat) (Z0 : n0 ≤ h0.size) (F_size_a : Fld Z h0 a "com/example/greenweft/greenweft/steiner/NodeHeap" "size" "I" (.int (2 : Int32))) :
    MetFree l (⟨"com/example/greenweft/greenweft/steiner/NodeHeap", "isEmpty", "()Z"⟩ : MethodName) (head1 (Jvm.Cond.code (⟨"com/example/greenweft/greenweft/steiner/NodeHeap", "isEmpty", "()Z"⟩ : MethodName) prog_33_method_2_code 1 (some .boolean) :: ws) ({ frames := 0, cells := 0, slots := 0, locals := 0 } : Room)) (fun aa_ U_ => aa_ = #[(.ref a)] ∧ Z.Warmed39 U_.vm ∧ U_.heap = h0) (fun _ _ _ _ _ => True) (fun _ U_ o_ U'_ => ∃ v_ L_, o_ = .returned v_ ∧ Q_ie2 Z a h0 n0 v_ U'_.heap L_ ∧ FrameEnd U_ o_ U'_ L_ ({ frames := 0, cells := 0, slots := 0, locals := 0 } : Room).cells ({ frames := 0, cells := 0, slots := 0, locals := 0 } : Room).slots) := by
  refine MetFree.of_bodySF (plainFor_of_name pn_0) hisR ?_
  intro pP eE sS mM argsA below meth cC s₁ Bd hml0 hP hK
  obtain ⟨rfl, hZ, hh⟩ := hP
  have hx := Bd.exec
  have hby := Bd.bytes
  have hml : cC.maxLocals = 1 := hml0
  have hown : sS.vm.findClass "com/example/greenweft/greenweft/steiner/NodeHeap" = some mM.cls := findClass_of_methodNamed Bd.named
  have hnm := (name_of_methodNamed Bd.named Bd.method).1
  have X0 : Stand pP l eE ({ frames := 0, cells := 0, slots := 0, locals := 0 } : Room) sS mM #[(.ref a)] below meth cC s₁ [] 0 0 := Stand.of_body Bd
  have e0 : s₁.heap = h0 := by rw [← hh, Bd.state]; rfl
  have N0 := Fr.nil n0
  have pre0 : ∀ t_, Steps pP.tables eE below (s₁.setTop (mkF mM 0 #[.val (.ref a)] [])) t_ → Steps pP.tables eE below (s₁.setTop (entryFrame mM #[(.ref a)] 1)) t_ := fun t_ k_ => castTop (ef_ie2 mM a) k_
  obtain ⟨T_1, X_1, e_1, st_1⟩ := getF X0 hx hZ hown (host := "") (Or.inl (ow hw 21 rfl)) Via.refl e0 F_size_a (g := (mkF mM 1 #[.val (.ref a)] [(.ref a)])) rfl rfl (hb hby d_prog_33m2_1)
  obtain ⟨fs, hr, hrun, hended, hW, hsame⟩ := X_1.leave (v := some (.int (0 : Int32))) (fun h => by rw [Bd.returns] at h; cases h)
  refine ⟨_, _, pre0 _ ?_, hrun, hended, _, _, rfl, ?_, ⟨_, rfl⟩, hW, hsame.mono (by decide) (by decide)⟩
  · show oS pP eE below s₁ (mkF mM 0 #[.val (.ref a)] []) _
    refine XS.aloadN X0.here hx rfl (hb hby d_prog_33m2_0) rfl rfl ?_
    show oS pP eE below s₁ (mkF mM 1 #[.val (.ref a)] [(.ref a)]) _
    refine st_1 _ ?_
    show oS pP eE below T_1 (mkF mM 4 #[.val (.ref a)] [(.int (2 : Int32))]) _
    refine XS.ifYes X_1.here hx rfl (pc0 := 4) (pc' := 11) rfl (hb hby d_prog_33m2_4) rfl (by decide) (by decide) (by decide) ?_
    refine XS.iconst X_1.here hx rfl (hb hby d_prog_33m2_11) ?_
    show oS pP eE below T_1 (mkF mM 12 #[.val (.ref a)] [(.int (0 : Int32))]) _
    exact retN X_1 hx (t := .boolean) Bd.returns (by simp) (hb hby d_prog_33m2_12) hr
  · show Q_ie2 Z a h0 n0 _ T_1.heap _
    rw [e_1]
    exact ⟨rfl, N0, rfl⟩
theorem ef_ie3 (mM : MethodId) (x0 : Addr) : entryFrame mM #[(.ref x0)] 1 = mkF mM 0 #[.val (.ref x0)] [] := by first | (simp [entryFrame, mkF, argsToLocals, Value.category]; done) | rfl
def Q_ie3 (Z : State) (a : Addr) (h0 : Heap) (n0 : Nat) (v_ : Option Value) (h_ : Heap) (L_ : List Loc) : Prop := v_ = some (.int (0 : Int32)) ∧ Fr n0 L_ ∧ h_ = h0
set_option maxRecDepth 65536 in
set_option maxHeartbeats 40000000 in
theorem rm_ie3 (l : Launch) (Z : State) (a0 : Array Value) (hw : ∀ d ∈ tables_1, d.before a0 Z = true) (ws : List Jvm.Cond) (a : Addr) (h0 : Heap) (n0 : Nat) (Z0 : n0 ≤ h0.size) (F_size_a : Fld Z h0 a "com/example/greenweft/greenweft/steiner/NodeHeap" "size" "I" (.int (3 : Int32))) :
    MetFree l (⟨"com/example/greenweft/greenweft/steiner/NodeHeap", "isEmpty", "()Z"⟩ : MethodName) (head1 (Jvm.Cond.code (⟨"com/example/greenweft/greenweft/steiner/NodeHeap", "isEmpty", "()Z"⟩ : MethodName) prog_33_method_2_code 1 (some .boolean) :: ws) ({ frames := 0, cells := 0, slots := 0, locals := 0 } : Room)) (fun aa_ U_ => aa_ = #[(.ref a)] ∧ Z.Warmed39 U_.vm ∧ U_.heap = h0) (fun _ _ _ _ _ => True) (fun _ U_ o_ U'_ => ∃ v_ L_, o_ = .returned v_ ∧ Q_ie3 Z a h0 n0 v_ U'_.heap L_ ∧ FrameEnd U_ o_ U'_ L_ ({ frames := 0, cells := 0, slots := 0, locals := 0 } : Room).cells ({ frames := 0, cells := 0, slots := 0, locals := 0 } : Room).slots) := by
  refine MetFree.of_bodySF (plainFor_of_name pn_0) hisR ?_
  intro pP eE sS mM argsA below meth cC s₁ Bd hml0 hP hK
  obtain ⟨rfl, hZ, hh⟩ := hP
  have hx := Bd.exec
  have hby := Bd.bytes
  have hml : cC.maxLocals = 1 := hml0
  have hown : sS.vm.findClass "com/example/greenweft/greenweft/steiner/NodeHeap" = some mM.cls := findClass_of_methodNamed Bd.named
  have hnm := (name_of_methodNamed Bd.named Bd.method).1
  have X0 : Stand pP l eE ({ frames := 0, cells := 0, slots := 0, locals := 0 } : Room) sS mM #[(.ref a)] below meth cC s₁ [] 0 0 := Stand.of_body Bd
  have e0 : s₁.heap = h0 := by rw [← hh, Bd.state]; rfl
  have N0 := Fr.nil n0
  have pre0 : ∀ t_, Steps pP.tables eE below (s₁.setTop (mkF mM 0 #[.val (.ref a)] [])) t_ → Steps pP.tables eE below (s₁.setTop (entryFrame mM #[(.ref a)] 1)) t_ := fun t_ k_ => castTop (ef_ie3 mM a) k_
  obtain ⟨T_1, X_1, e_1, st_1⟩ := getF X0 hx hZ hown (host := "") (Or.inl (ow hw 21 rfl)) Via.refl e0 F_size_a (g := (mkF mM 1 #[.val (.ref a)] [(.ref a)])) rfl rfl (hb hby d_prog_33m2_1)
  obtain ⟨fs, hr, hrun, hended, hW, hsame⟩ := X_1.leave (v := some (.int (0 : Int32))) (fun h => by rw [Bd.returns] at h; cases h)
  refine ⟨_, _, pre0 _ ?_, hrun, hended, _, _, rfl, ?_, ⟨_, rfl⟩, hW, hsame.mono (by decide) (by decide)⟩
  · show oS pP eE below s₁ (mkF mM 0 #[.val (.ref a)] []) _
    refine XS.aloadN X0.here hx rfl (hb hby d_prog_33m2_0) rfl rfl ?_
    show oS pP eE below s₁ (mkF mM 1 #[.val (.ref a)] [(.ref a)]) _
    refine st_1 _ ?_
    show oS pP eE below T_1 (mkF mM 4 #[.val (.ref a)] [(.int (3 : Int32))]) _
    refine XS.ifYes X_1.here hx rfl (pc0 := 4) (pc' := 11) rfl (hb hby d_prog_33m2_4) rfl (by decide) (by decide) (by decide) ?_
    refine XS.iconst X_1.here hx rfl (hb hby d_prog_33m2_11) ?_
    show oS pP eE below T_1 (mkF mM 12 #[.val (.ref a)] [(.int (0 : Int32))]) _
    exact retN X_1 hx (t := .boolean) Bd.returns (by simp) (hb hby d_prog_33m2_12) hr
  · show Q_ie3 Z a h0 n0 _ T_1.heap _
    rw [e_1]
    exact ⟨rfl, N0, rfl⟩
theorem ef_ie4 (mM : MethodId) (x0 : Addr) : entryFrame mM #[(.ref x0)] 1 = mkF mM 0 #[.val (.ref x0)] [] := by first | (simp [entryFrame, mkF, argsToLocals, Value.category]; done) | rfl
def Q_ie4 (Z : State) (a : Addr) (h0 : Heap) (n0 : Nat) (v_ : Option Value) (h_ : Heap) (L_ : List Loc) : Prop := v_ = some (.int (0 : Int32)) ∧ Fr n0 L_ ∧ h_ = h0
set_option maxRecDepth 65536 in
set_option maxHeartbeats 40000000 in
theorem rm_ie4 (l : Launch) (Z : State) (a0 : Array Value) (hw : ∀ d ∈ tables_1, d.before a0 Z = true) (ws : List Jvm.Cond) (a : Addr) (h0 : Heap) (n0 : Nat) (Z0 : n0 ≤ h0.size) (F_size_a : Fld Z h0 a "com/example/greenweft/greenweft/steiner/NodeHeap" "size" "I" (.int (4 : Int32))) :
    MetFree l (⟨"com/example/greenweft/greenweft/steiner/NodeHeap", "isEmpty", "()Z"⟩ : MethodName) (head1 (Jvm.Cond.code (⟨"com/example/greenweft/greenweft/steiner/NodeHeap", "isEmpty", "()Z"⟩ : MethodName) prog_33_method_2_code 1 (some .boolean) :: ws) ({ frames := 0, cells := 0, slots := 0, locals := 0 } : Room)) (fun aa_ U_ => aa_ = #[(.ref a)] ∧ Z.Warmed39 U_.vm ∧ U_.heap = h0) (fun _ _ _ _ _ => True) (fun _ U_ o_ U'_ => ∃ v_ L_, o_ = .returned v_ ∧ Q_ie4 Z a h0 n0 v_ U'_.heap L_ ∧ FrameEnd U_ o_ U'_ L_ ({ frames := 0, cells := 0, slots := 0, locals := 0 } : Room).cells ({ frames := 0, cells := 0, slots := 0, locals := 0 } : Room).slots) := by
  refine MetFree.of_bodySF (plainFor_of_name pn_0) hisR ?_
  intro pP eE sS mM argsA below meth cC s₁ Bd hml0 hP hK
  obtain ⟨rfl, hZ, hh⟩ := hP
  have hx := Bd.exec
  have hby := Bd.bytes
  have hml : cC.maxLocals = 1 := hml0
  have hown : sS.vm.findClass "com/example/greenweft/greenweft/steiner/NodeHeap" = some mM.cls := findClass_of_methodNamed Bd.named
  have hnm := (name_of_methodNamed Bd.named Bd.method).1
  have X0 : Stand pP l eE ({ frames := 0, cells := 0, slots := 0, locals := 0 } : Room) sS mM #[(.ref a)] below meth cC s₁ [] 0 0 := Stand.of_body Bd
  have e0 : s₁.heap = h0 := by rw [← hh, Bd.state]; rfl
  have N0 := Fr.nil n0
  have pre0 : ∀ t_, Steps pP.tables eE below (s₁.setTop (mkF mM 0 #[.val (.ref a)] [])) t_ → Steps pP.tables eE below (s₁.setTop (entryFrame mM #[(.ref a)] 1)) t_ := fun t_ k_ => castTop (ef_ie4 mM a) k_
  obtain ⟨T_1, X_1, e_1, st_1⟩ := getF X0 hx hZ hown (host := "") (Or.inl (ow hw 21 rfl)) Via.refl e0 F_size_a (g := (mkF mM 1 #[.val (.ref a)] [(.ref a)])) rfl rfl (hb hby d_prog_33m2_1)
  obtain ⟨fs, hr, hrun, hended, hW, hsame⟩ := X_1.leave (v := some (.int (0 : Int32))) (fun h => by rw [Bd.returns] at h; cases h)
  refine ⟨_, _, pre0 _ ?_, hrun, hended, _, _, rfl, ?_, ⟨_, rfl⟩, hW, hsame.mono (by decide) (by decide)⟩
  · show oS pP eE below s₁ (mkF mM 0 #[.val (.ref a)] []) _
    refine XS.aloadN X0.here hx rfl (hb hby d_prog_33m2_0) rfl rfl ?_
    show oS pP eE below s₁ (mkF mM 1 #[.val (.ref a)] [(.ref a)]) _
    refine st_1 _ ?_
    show oS pP eE below T_1 (mkF mM 4 #[.val (.ref a)] [(.int (4 : Int32))]) _
    refine XS.ifYes X_1.here hx rfl (pc0 := 4) (pc' := 11) rfl (hb hby d_prog_33m2_4) rfl (by decide) (by decide) (by decide) ?_
    refine XS.iconst X_1.here hx rfl (hb hby d_prog_33m2_11) ?_
    show oS pP eE below T_1 (mkF mM 12 #[.val (.ref a)] [(.int (0 : Int32))]) _
    exact retN X_1 hx (t := .boolean) Bd.returns (by simp) (hb hby d_prog_33m2_12) hr
  · show Q_ie4 Z a h0 n0 _ T_1.heap _
    rw [e_1]
    exact ⟨rfl, N0, rfl⟩
theorem d_prog_33m3_0 : decode prog_33_method_3_code 0 = .ok (.aload_n 0, 1) := by decide +kernel
theorem d_prog_33m3_1 : decode prog_33_method_3_code 1 = .ok (.iconst 0, 1) := by decide +kernel
theorem d_prog_33m3_2 : decode prog_33_method_3_code 2 = .ok (.putfield 17, 3) := by decide +kernel
theorem d_prog_33m3_5 : decode prog_33_method_3_code 5 = .ok (.return_, 1) := by decide +kernel
theorem ef_clear (mM : MethodId) (x0 : Addr) : entryFrame mM #[(.ref x0)] 1 = mkF mM 0 #[.val (.ref x0)] [] := by first | (simp [entryFrame, mkF, argsToLocals, Value.category]; done) | rfl
def Q_clear (Z : State) (a : Addr) (d : Addr) (g : Addr) (p : Int32) (h0 : Heap) (n0 : Nat) (v_ : Option Value) (h_ : Heap) (L_ : List Loc) : Prop := v_ = none ∧ Fr n0 L_ ∧ Keep h0 h_ [a] ∧ Fld Z h_ a "com/example/greenweft/greenweft/steiner/NodeHeap" "size" "I" (.int (0 : Int32)) ∧ Fld Z h_ a "com/example/greenweft/greenweft/steiner/NodeHeap" "keys" "[J" (.ref d) ∧ Fld Z h_ a "com/example/greenweft/greenweft/steiner/NodeHeap" "nodes" "[I" (.ref g) ∧ Exa Z h_ a "com/example/greenweft/greenweft/steiner/NodeHeap"
set_option maxRecDepth 65536 in
set_option maxHeartbeats 40000000 in
theorem rm_clear (l : Launch) (Z : State) (a0 : Array Value) (hw : ∀ d ∈ tables_1, d.before a0 Z = true) (ws : List Jvm.Cond) (a : Addr) (d : Addr) (g : Addr) (p : Int32) (h0 : Heap) (n0 : Nat) (Z0 : n0 ≤ h0.size) (F_size_a : Fld Z h0 a "com/example/greenweft/greenweft/steiner/NodeHeap" "size" "I" (.int p)) (F_keys_a : Fld Z h0 a "com/example/greenweft/greenweft/steiner/NodeHeap" "keys" "[J" (.ref d)) (F_nodes_a : Fld Z h0 a "com/example/greenweft/greenweft/steiner/NodeHeap" "nodes" "[I" (.ref g)) (E_a : Exa Z h0 a "com/example/greenweft/greenweft/steiner/NodeHeap") (g_a : n0 ≤ a) :
    MetFree l (⟨"com/example/greenweft/greenweft/steiner/NodeHeap", "clear", "()V"⟩ : MethodName) (head1 (Jvm.Cond.code (⟨"com/example/greenweft/greenweft/steiner/NodeHeap", "clear", "()V"⟩ : MethodName) prog_33_method_3_code 1 none :: ws) ({ frames := 0, cells := 0, slots := 0, locals := 0 } : Room)) (fun aa_ U_ => aa_ = #[(.ref a)] ∧ Z.Warmed39 U_.vm ∧ U_.heap = h0) (fun _ _ _ _ _ => True) (fun _ U_ o_ U'_ => ∃ v_ L_, o_ = .returned v_ ∧ Q_clear Z a d g p h0 n0 v_ U'_.heap L_ ∧ FrameEnd U_ o_ U'_ L_ ({ frames := 0, cells := 0, slots := 0, locals := 0 } : Room).cells ({ frames := 0, cells := 0, slots := 0, locals := 0 } : Room).slots) := by
  refine MetFree.of_bodySF (plainFor_of_name pn_0) hisR ?_
  intro pP eE sS mM argsA below meth cC s₁ Bd hml0 hP hK
  obtain ⟨rfl, hZ, hh⟩ := hP
  have hx := Bd.exec
  have hby := Bd.bytes
  have hml : cC.maxLocals = 1 := hml0
  have hown : sS.vm.findClass "com/example/greenweft/greenweft/steiner/NodeHeap" = some mM.cls := findClass_of_methodNamed Bd.named
  have hnm := (name_of_methodNamed Bd.named Bd.method).1
  have X0 : Stand pP l eE ({ frames := 0, cells := 0, slots := 0, locals := 0 } : Room) sS mM #[(.ref a)] below meth cC s₁ [] 0 0 := Stand.of_body Bd
  have e0 : s₁.heap = h0 := by rw [← hh, Bd.state]; rfl
  have N0 := Fr.nil n0
  have pre0 : ∀ t_, Steps pP.tables eE below (s₁.setTop (mkF mM 0 #[.val (.ref a)] [])) t_ → Steps pP.tables eE below (s₁.setTop (entryFrame mM #[(.ref a)] 1)) t_ := fun t_ k_ => castTop (ef_clear mM a) k_
  obtain ⟨T_1, h_1, X_1, e_1, W_1, st_1⟩ := putF X0 hx hZ hown (host := "") (Or.inl (ow hw 21 rfl)) Via.refl e0 F_size_a E_a (Or.inl (ow hw 22 rfl)) (ow hw 2 rfl) (ty := .int) (by decide) rfl rfl (g := (mkF mM 2 #[.val (.ref a)] [(.int (0 : Int32)), (.ref a)])) rfl rfl (hb hby d_prog_33m3_2)
  have Fw_1 := F_size_a.same W_1
  have Z_1 : n0 ≤ h_1.size := (Nat.le_trans Z0 (Keep.of_wr W_1).1)
  have K_1 : Keep h0 h_1 [a] := (Keep.refl h0 [a]).wr W_1 (Or.inl (List.mem_of_getElem? (i := 0) rfl))
  have N_1 := Fr.snoc X_1 N0 g_a
  obtain ⟨fs, hr, hrun, hended, hW, hsame⟩ := X_1.leave (v := none) (fun _ => rfl)
  refine ⟨_, _, pre0 _ ?_, hrun, hended, _, _, rfl, ?_, ⟨_, rfl⟩, hW, hsame.mono (by decide) (by decide)⟩
  · show oS pP eE below s₁ (mkF mM 0 #[.val (.ref a)] []) _
    refine XS.aloadN X0.here hx rfl (hb hby d_prog_33m3_0) rfl rfl ?_
    refine XS.iconst X0.here hx rfl (hb hby d_prog_33m3_1) ?_
    show oS pP eE below s₁ (mkF mM 2 #[.val (.ref a)] [(.int (0 : Int32)), (.ref a)]) _
    refine st_1 _ ?_
    show oS pP eE below T_1 (mkF mM 5 #[.val (.ref a)] []) _
    exact X_1.returnOut hx Bd.returns (hb hby d_prog_33m3_5) hr
  · show Q_clear Z a d g p h0 n0 _ T_1.heap _
    rw [e_1]
    exact ⟨rfl, N_1, K_1, Fw_1, (F_keys_a.other W_1 (Or.inr (slot_ne (Or.inl (ow hw 12 rfl)) (Or.inl (ow hw 22 rfl)) (by decide) (t := (.array .long)) (t' := .int) (by decide) (by decide)))), (F_nodes_a.other W_1 (Or.inr (slot_ne (Or.inl (ow hw 15 rfl)) (Or.inl (ow hw 22 rfl)) (by decide) (t := (.array .int)) (t' := .int) (by decide) (by decide)))), (E_a.wr W_1)⟩
abbrev lc0 (p1 : Int32) (p2 : Int32) (k1 : Int64) (k2 : Int64) (nd : Int32) (fl : Int32) (pn : Int32) (pt : Int32) (pd : Int32) (a : Addr) : Array Slot := #[.val (.int p1), .val (.int p2), .val (.long k1), .second, .val (.long k2), .second, .val (.int nd), .val (.int fl), .val (.int pn), .val (.int pt), .val (.int pd), .val (.ref a), .val (.int (1 : Int32)), .val (.int (1 : Int32)), .unset, .unset]
theorem pd_1 : parseMethodDescriptor "()Z" = some ⟨[], some .boolean⟩ := by decide +kernel
abbrev MN1 : MethodName := ⟨"com/example/greenweft/greenweft/steiner/NodeHeap", "isEmpty", "()Z"⟩
abbrev lc1 (p1 : Int32) (p2 : Int32) (k1 : Int64) (k2 : Int64) (nd : Int32) (fl : Int32) (pn : Int32) (pt : Int32) (pd : Int32) (a : Addr) : Array Slot := #[.val (.int p1), .val (.int p2), .val (.long k1), .second, .val (.long k2), .second, .val (.int nd), .val (.int fl), .val (.int pn), .val (.int pt), .val (.int pd), .val (.ref a), .val (.int (1 : Int32)), .val (.int (1 : Int32)), .val (.int (1 : Int32)), .unset]
theorem pd_2 : parseMethodDescriptor "(JI)V" = some ⟨[.long, .int], none⟩ := by decide +kernel
abbrev MN2 : MethodName := ⟨"com/example/greenweft/greenweft/steiner/NodeHeap", "add", "(JI)V"⟩
abbrev lc2 (p1 : Int32) (p2 : Int32) (k1 : Int64) (k2 : Int64) (nd : Int32) (fl : Int32) (pn : Int32) (pt : Int32) (pd : Int32) (a : Addr) : Array Slot := #[.val (.int p1), .val (.int p2), .val (.long k1), .second, .val (.long k2), .second, .val (.int nd), .val (.int fl), .val (.int pn), .val (.int pt), .val (.int pd), .val (.ref a), .val (.int (1 : Int32)), .val (.int (1 : Int32)), .val (.int (1 : Int32)), .val (.int (0 : Int32))]
set_option maxRecDepth 65536 in
set_option maxHeartbeats 40000000 in
theorem pc_tail0 {pP : Program} {l : Launch} {eE : Env} {sS : State} {mM : MethodId} {argsA : Array Value} {below : List Frame} {meth : Method} {cC : Code} {T0 : State} {locs : List Loc} {Z : State} {a0 : Array Value} {h0 : Heap} {n0 : Nat} (p1 : Int32) (p2 : Int32) (k1 : Int64) (k2 : Int64) (nd : Int32) (fl : Int32) (pn : Int32) (pt : Int32) (pd : Int32) (a : Addr) (d : Addr) (g : Addr) (kd : ClassId) (kg : ClassId) (x0 : Int64) (x1 : Int64) (x2 : Int64) (x3 : Int64) (y0 : Int32) (y1 : Int32) (y2 : Int32) (y3 : Int32) (X0 : Stand pP l eE room_1 sS mM argsA below meth cC T0 locs 3 35) (hx : pP.tables.exec = Jvm.exec) (hZ : Z.Warmed39 sS.vm) (hw : ∀ d ∈ tables_1, d.before a0 Z = true) (hby : cC.code = code) (hml : cC.maxLocals = 16) (hown : sS.vm.findClass "com/example/greenweft/greenweft/steiner/NodeHeapIsEmptyPinLaw" = some mM.cls) (e0 : T0.heap = h0) (N0 : Fr n0 locs) (Z0 : n0 ≤ h0.size) (F_size_a : Fld Z h0 a "com/example/greenweft/greenweft/steiner/NodeHeap" "size" "I" (.int (0 : Int32))) (F_keys_a : Fld Z h0 a "com/example/greenweft/greenweft/steiner/NodeHeap" "keys" "[J" (.ref d)) (F_nodes_a : Fld Z h0 a "com/example/greenweft/greenweft/steiner/NodeHeap" "nodes" "[I" (.ref g)) (E_a : Exa Z h0 a "com/example/greenweft/greenweft/steiner/NodeHeap") (g_a : n0 ≤ a) (g_d : n0 ≤ d) (g_g : n0 ≤ g) (V_d : Arv Z h0 d kd .long (16 : Int32) [(.long x0), (.long x1), (.long x2), (.long x3)] (.long (0 : Int64))) (V_g : Arv Z h0 g kg .int (16 : Int32) [(.int y0), (.int y1), (.int y2), (.int y3)] (.int (0 : Int32))) (ndg : d ≠ g) (nad : a ≠ d) (nag : a ≠ g) :
    ∃ (T_ : State) (h_ : Heap) (L_ : List Loc), Stand pP l eE room_1 sS mM argsA below meth cC T_ L_ 3 35 ∧ T_.heap = h_ ∧ Fr n0 L_ ∧ Keep h0 h_ [a, d, g] ∧ ∀ target, Steps pP.tables eE below (T_.setTop (mkF mM 207 (lc2 p1 p2 k1 k2 nd fl pn pt pd a) [(.int (1 : Int32))])) target → Steps pP.tables eE below (T0.setTop (mkF mM 162 (lc0 p1 p2 k1 k2 nd fl pn pt pd a) [])) target := by
  obtain ⟨cq_1, kq_1, q_1a, q_1b, q_1c⟩ := isOf hZ e0 E_a
  obtain ⟨_, _, ⟨T_1, L_1, k_1, n_1⟩, -, X_1, ⟨Lc_1, hQ_1, l_1, y_1, z_1⟩, st_1⟩ := X0.virtualBack hx (y := MN1) (z := MN1) hown (mvT hZ (ow hw 16 rfl)) (mvT hZ (ow hw 17 rfl)) (notFace_of_selects (args := #[]) (mvT hZ (ow hw 19 rfl))) (mvT hZ (ow hw 19 rfl)) (mvT hZ (ow hw 18 rfl)) (by decide) (backOf (W := 0) (rm_ie0 l Z a0 hw [] a h0 n0 Z0 F_size_a) hZ (ow hw 20 rfl) (ow hw 3 rfl) (by decide) (by decide)) q_1a q_1c (g := (mkF mM 164 (lc0 p1 p2 k1 k2 nd fl pn pt pd a) [(.ref a)])) rfl (by rw [hml]; rfl) (Steps.refl _) (argsL := []) (rest := []) (lenOf pd_1 rfl) rfl (by show 2 * 0 + _ ≤ _; exact Nat.le_of_eq rfl) (hb hby at_164) (fun _ _ => ⟨rfl, e0, (by decide : 3 + 0 ≤ _), (by decide : 35 + 0 ≤ _)⟩)
  dsimp only [Pt.U, Pt.locs, Pt.cells, Pt.slots] at X_1 l_1 y_1 z_1 st_1 hQ_1
  subst l_1 y_1 z_1
  obtain ⟨rfl, N_1q, eh_1⟩ := hQ_1
  have N_1 := Fr.app N0 N_1q
  obtain ⟨cq_2, kq_2, q_2a, q_2b, q_2c⟩ := isOf hZ eh_1 E_a
  obtain ⟨_, _, ⟨T_2, L_2, k_2, n_2⟩, -, X_2, ⟨Lc_2, hQ_2, l_2, y_2, z_2⟩, st_2⟩ := X_1.virtualBack hx (y := MN2) (z := MN2) hown (mvT hZ (ow hw 28 rfl)) (mvT hZ (ow hw 29 rfl)) (notFace_of_selects (args := #[]) (mvT hZ (ow hw 31 rfl))) (mvT hZ (ow hw 31 rfl)) (mvT hZ (ow hw 30 rfl)) (by decide) (backOf (W := 0) (rm_add0 l Z a0 hw [] a d g kd kg k2 nd x0 x1 x2 x3 y0 y1 y2 y3 h0 n0 Z0 F_size_a F_keys_a F_nodes_a E_a g_a g_d g_g V_d V_g ndg nad nag) hZ (ow hw 32 rfl) (ow hw 3 rfl) (by decide) (by decide)) q_2a q_2c (g := (mkF mM 175 (lc1 p1 p2 k1 k2 nd fl pn pt pd a) [(.int nd), (.long k2), (.ref a)])) rfl (by rw [hml]; rfl) (Steps.refl _) (argsL := [(.long k2), (.int nd)]) (rest := []) (lenOf pd_2 rfl) rfl (by show 2 * 0 + _ ≤ _; exact Nat.le_of_eq rfl) (hb hby at_175) (fun _ _ => ⟨rfl, eh_1, (by decide : 3 + 0 ≤ _), (by decide : 35 + 0 ≤ _)⟩)
  dsimp only [Pt.U, Pt.locs, Pt.cells, Pt.slots] at X_2 l_2 y_2 z_2 st_2 hQ_2
  subst l_2 y_2 z_2
  obtain ⟨u0__2, ⟨u1__2, ⟨u2__2, ⟨u3__2, ⟨v0__2, ⟨v1__2, ⟨v2__2, ⟨v3__2, ⟨rfl, N_2q, Kc_2, pfF_size_a_2, pfF_keys_a_2, pfF_nodes_a_2, pfE_a_2, pfV_d_2, pfV_g_2⟩⟩⟩⟩⟩⟩⟩⟩⟩ := hQ_2
  have Z_2 : n0 ≤ T_2.heap.size := (Nat.le_trans Z0 Kc_2.1)
  have K_2 : Keep h0 T_2.heap [a, d, g] := (Keep.refl h0 [a, d, g]).trans Kc_2 (allS (Or.inl (List.mem_of_getElem? (i := 0) rfl)) (allS (Or.inl (List.mem_of_getElem? (i := 1) rfl)) (allS (Or.inl (List.mem_of_getElem? (i := 2) rfl)) all0)))
  have N_2 := Fr.app N_1 N_2q
  obtain ⟨cq_3, kq_3, q_3a, q_3b, q_3c⟩ := isOf hZ rfl pfE_a_2
  obtain ⟨_, _, ⟨T_3, L_3, k_3, n_3⟩, -, X_3, ⟨Lc_3, hQ_3, l_3, y_3, z_3⟩, st_3⟩ := X_2.virtualBack hx (y := MN1) (z := MN1) hown (mvT hZ (ow hw 16 rfl)) (mvT hZ (ow hw 17 rfl)) (notFace_of_selects (args := #[]) (mvT hZ (ow hw 19 rfl))) (mvT hZ (ow hw 19 rfl)) (mvT hZ (ow hw 18 rfl)) (by decide) (backOf (W := 0) (rm_ie1 l Z a0 hw [] a T_2.heap n0 Z_2 pfF_size_a_2) hZ (ow hw 20 rfl) (ow hw 3 rfl) (by decide) (by decide)) q_3a q_3c (g := (mkF mM 180 (lc1 p1 p2 k1 k2 nd fl pn pt pd a) [(.ref a)])) rfl (by rw [hml]; rfl) (Steps.refl _) (argsL := []) (rest := []) (lenOf pd_1 rfl) rfl (by show 2 * 0 + _ ≤ _; exact Nat.le_of_eq rfl) (hb hby at_180) (fun _ _ => ⟨rfl, rfl, (by decide : 3 + 0 ≤ _), (by decide : 35 + 0 ≤ _)⟩)
  dsimp only [Pt.U, Pt.locs, Pt.cells, Pt.slots] at X_3 l_3 y_3 z_3 st_3 hQ_3
  subst l_3 y_3 z_3
  obtain ⟨rfl, N_3q, eh_3⟩ := hQ_3
  have N_3 := Fr.app N_2 N_3q
  refine ⟨T_3, _, _, X_3, eh_3, N_3, K_2, fun target kt => ?_⟩
  show oS pP eE below T0 (mkF mM 162 (lc0 p1 p2 k1 k2 nd fl pn pt pd a) []) _
  refine XS.aload X0.here hx rfl (hb hby at_162) rfl rfl ?_
  show oS pP eE below T0 (mkF mM 164 (lc0 p1 p2 k1 k2 nd fl pn pt pd a) [(.ref a)]) _
  refine st_1.trans ?_
  show oS pP eE below T_1 (mkF mM 167 (lc0 p1 p2 k1 k2 nd fl pn pt pd a) [(.int (1 : Int32))]) _
  refine XS.istore X_1.here hx rfl (hb hby at_167) rfl (l' := (lc1 p1 p2 k1 k2 nd fl pn pt pd a)) rfl ?_
  refine XS.aload X_1.here hx rfl (hb hby at_169) rfl rfl ?_
  refine XT.lload X_1.here hx rfl (hb hby at_171) rfl ?_
  refine XS.iload X_1.here hx rfl (hb hby at_173) rfl ?_
  show oS pP eE below T_1 (mkF mM 175 (lc1 p1 p2 k1 k2 nd fl pn pt pd a) [(.int nd), (.long k2), (.ref a)]) _
  refine st_2.trans ?_
  show oS pP eE below T_2 (mkF mM 178 (lc1 p1 p2 k1 k2 nd fl pn pt pd a) []) _
  refine XS.aload X_2.here hx rfl (hb hby at_178) rfl rfl ?_
  show oS pP eE below T_2 (mkF mM 180 (lc1 p1 p2 k1 k2 nd fl pn pt pd a) [(.ref a)]) _
  refine st_3.trans ?_
  show oS pP eE below T_3 (mkF mM 183 (lc1 p1 p2 k1 k2 nd fl pn pt pd a) [(.int (0 : Int32))]) _
  refine XS.istore X_3.here hx rfl (hb hby at_183) rfl (l' := (lc2 p1 p2 k1 k2 nd fl pn pt pd a)) rfl ?_
  refine XS.iload X_3.here hx rfl (hb hby at_185) rfl ?_
  refine XS.ifNo X_3.here hx rfl (hb hby at_187) rfl (by decide) ?_
  refine XS.iload X_3.here hx rfl (hb hby at_190) rfl ?_
  refine XS.iload X_3.here hx rfl (hb hby at_192) rfl ?_
  refine XS.icmpNo X_3.here hx rfl (hb hby at_194) rfl (by decide) ?_
  refine XS.iload X_3.here hx rfl (hb hby at_197) rfl ?_
  refine XS.ifNo X_3.here hx rfl (hb hby at_199) rfl (by decide) ?_
  show oS pP eE below T_3 (mkF mM 202 (lc2 p1 p2 k1 k2 nd fl pn pt pd a) []) _
  refine XS.iconst X_3.here hx rfl (hb hby at_202) ?_
  refine XS.goto X_3.here hx rfl (pc0 := 203) (pc' := 207) rfl (hb hby at_203) (by decide) (by decide) ?_
  show oS pP eE below T_3 (mkF mM 207 (lc2 p1 p2 k1 k2 nd fl pn pt pd a) [(.int (1 : Int32))]) _
  exact kt
abbrev lc3 (p1 : Int32) (p2 : Int32) (k1 : Int64) (k2 : Int64) (nd : Int32) (fl : Int32) (pn : Int32) (pt : Int32) (pd : Int32) (a : Addr) : Array Slot := #[.val (.int p1), .val (.int p2), .val (.long k1), .second, .val (.long k2), .second, .val (.int nd), .val (.int fl), .val (.int pn), .val (.int pt), .val (.int pd), .val (.ref a), .val (.int (1 : Int32)), .val (.int (0 : Int32)), .unset, .unset]
abbrev lc4 (p1 : Int32) (p2 : Int32) (k1 : Int64) (k2 : Int64) (nd : Int32) (fl : Int32) (pn : Int32) (pt : Int32) (pd : Int32) (a : Addr) : Array Slot := #[.val (.int p1), .val (.int p2), .val (.long k1), .second, .val (.long k2), .second, .val (.int nd), .val (.int fl), .val (.int pn), .val (.int pt), .val (.int pd), .val (.ref a), .val (.int (1 : Int32)), .val (.int (0 : Int32)), .val (.int (0 : Int32)), .unset]
abbrev lc5 (p1 : Int32) (p2 : Int32) (k1 : Int64) (k2 : Int64) (nd : Int32) (fl : Int32) (pn : Int32) (pt : Int32) (pd : Int32) (a : Addr) : Array Slot := #[.val (.int p1), .val (.int p2), .val (.long k1), .second, .val (.long k2), .second, .val (.int nd), .val (.int fl), .val (.int pn), .val (.int pt), .val (.int pd), .val (.ref a), .val (.int (1 : Int32)), .val (.int (0 : Int32)), .val (.int (0 : Int32)), .val (.int (0 : Int32))]
set_option maxRecDepth 65536 in
set_option maxHeartbeats 40000000 in
theorem pc_tail1 {pP : Program} {l : Launch} {eE : Env} {sS : State} {mM : MethodId} {argsA : Array Value} {below : List Frame} {meth : Method} {cC : Code} {T0 : State} {locs : List Loc} {Z : State} {a0 : Array Value} {h0 : Heap} {n0 : Nat} (p1 : Int32) (p2 : Int32) (k1 : Int64) (k2 : Int64) (nd : Int32) (fl : Int32) (pn : Int32) (pt : Int32) (pd : Int32) (a : Addr) (d : Addr) (g : Addr) (kd : ClassId) (kg : ClassId) (x0 : Int64) (x1 : Int64) (x2 : Int64) (x3 : Int64) (y0 : Int32) (y1 : Int32) (y2 : Int32) (y3 : Int32) (X0 : Stand pP l eE room_1 sS mM argsA below meth cC T0 locs 3 35) (hx : pP.tables.exec = Jvm.exec) (hZ : Z.Warmed39 sS.vm) (hw : ∀ d ∈ tables_1, d.before a0 Z = true) (hby : cC.code = code) (hml : cC.maxLocals = 16) (hown : sS.vm.findClass "com/example/greenweft/greenweft/steiner/NodeHeapIsEmptyPinLaw" = some mM.cls) (e0 : T0.heap = h0) (N0 : Fr n0 locs) (Z0 : n0 ≤ h0.size) (F_size_a : Fld Z h0 a "com/example/greenweft/greenweft/steiner/NodeHeap" "size" "I" (.int (1 : Int32))) (F_keys_a : Fld Z h0 a "com/example/greenweft/greenweft/steiner/NodeHeap" "keys" "[J" (.ref d)) (F_nodes_a : Fld Z h0 a "com/example/greenweft/greenweft/steiner/NodeHeap" "nodes" "[I" (.ref g)) (E_a : Exa Z h0 a "com/example/greenweft/greenweft/steiner/NodeHeap") (g_a : n0 ≤ a) (g_d : n0 ≤ d) (g_g : n0 ≤ g) (V_d : Arv Z h0 d kd .long (16 : Int32) [(.long x0), (.long x1), (.long x2), (.long x3)] (.long (0 : Int64))) (V_g : Arv Z h0 g kg .int (16 : Int32) [(.int y0), (.int y1), (.int y2), (.int y3)] (.int (0 : Int32))) (ndg : d ≠ g) (nad : a ≠ d) (nag : a ≠ g) :
    ∃ (T_ : State) (h_ : Heap) (L_ : List Loc), Stand pP l eE room_1 sS mM argsA below meth cC T_ L_ 3 35 ∧ T_.heap = h_ ∧ Fr n0 L_ ∧ Keep h0 h_ [a, d, g] ∧ ∀ target, Steps pP.tables eE below (T_.setTop (mkF mM 207 (lc5 p1 p2 k1 k2 nd fl pn pt pd a) [(.int (1 : Int32))])) target → Steps pP.tables eE below (T0.setTop (mkF mM 162 (lc3 p1 p2 k1 k2 nd fl pn pt pd a) [])) target := by
  obtain ⟨cq_1, kq_1, q_1a, q_1b, q_1c⟩ := isOf hZ e0 E_a
  obtain ⟨_, _, ⟨T_1, L_1, k_1, n_1⟩, -, X_1, ⟨Lc_1, hQ_1, l_1, y_1, z_1⟩, st_1⟩ := X0.virtualBack hx (y := MN1) (z := MN1) hown (mvT hZ (ow hw 16 rfl)) (mvT hZ (ow hw 17 rfl)) (notFace_of_selects (args := #[]) (mvT hZ (ow hw 19 rfl))) (mvT hZ (ow hw 19 rfl)) (mvT hZ (ow hw 18 rfl)) (by decide) (backOf (W := 0) (rm_ie1 l Z a0 hw [] a h0 n0 Z0 F_size_a) hZ (ow hw 20 rfl) (ow hw 3 rfl) (by decide) (by decide)) q_1a q_1c (g := (mkF mM 164 (lc3 p1 p2 k1 k2 nd fl pn pt pd a) [(.ref a)])) rfl (by rw [hml]; rfl) (Steps.refl _) (argsL := []) (rest := []) (lenOf pd_1 rfl) rfl (by show 2 * 0 + _ ≤ _; exact Nat.le_of_eq rfl) (hb hby at_164) (fun _ _ => ⟨rfl, e0, (by decide : 3 + 0 ≤ _), (by decide : 35 + 0 ≤ _)⟩)
  dsimp only [Pt.U, Pt.locs, Pt.cells, Pt.slots] at X_1 l_1 y_1 z_1 st_1 hQ_1
  subst l_1 y_1 z_1
  obtain ⟨rfl, N_1q, eh_1⟩ := hQ_1
  have N_1 := Fr.app N0 N_1q
  obtain ⟨cq_2, kq_2, q_2a, q_2b, q_2c⟩ := isOf hZ eh_1 E_a
  obtain ⟨_, _, ⟨T_2, L_2, k_2, n_2⟩, -, X_2, ⟨Lc_2, hQ_2, l_2, y_2, z_2⟩, st_2⟩ := X_1.virtualBack hx (y := MN2) (z := MN2) hown (mvT hZ (ow hw 28 rfl)) (mvT hZ (ow hw 29 rfl)) (notFace_of_selects (args := #[]) (mvT hZ (ow hw 31 rfl))) (mvT hZ (ow hw 31 rfl)) (mvT hZ (ow hw 30 rfl)) (by decide) (backOf (W := 0) (rm_add1 l Z a0 hw [] a d g kd kg k2 nd x0 x1 x2 x3 y0 y1 y2 y3 h0 n0 Z0 F_size_a F_keys_a F_nodes_a E_a g_a g_d g_g V_d V_g ndg nad nag) hZ (ow hw 32 rfl) (ow hw 3 rfl) (by decide) (by decide)) q_2a q_2c (g := (mkF mM 175 (lc4 p1 p2 k1 k2 nd fl pn pt pd a) [(.int nd), (.long k2), (.ref a)])) rfl (by rw [hml]; rfl) (Steps.refl _) (argsL := [(.long k2), (.int nd)]) (rest := []) (lenOf pd_2 rfl) rfl (by show 2 * 0 + _ ≤ _; exact Nat.le_of_eq rfl) (hb hby at_175) (fun _ _ => ⟨rfl, eh_1, (by decide : 3 + 0 ≤ _), (by decide : 35 + 0 ≤ _)⟩)
  dsimp only [Pt.U, Pt.locs, Pt.cells, Pt.slots] at X_2 l_2 y_2 z_2 st_2 hQ_2
  subst l_2 y_2 z_2
  obtain ⟨u0__2, ⟨u1__2, ⟨u2__2, ⟨u3__2, ⟨v0__2, ⟨v1__2, ⟨v2__2, ⟨v3__2, ⟨rfl, N_2q, Kc_2, pfF_size_a_2, pfF_keys_a_2, pfF_nodes_a_2, pfE_a_2, pfV_d_2, pfV_g_2⟩⟩⟩⟩⟩⟩⟩⟩⟩ := hQ_2
  have Z_2 : n0 ≤ T_2.heap.size := (Nat.le_trans Z0 Kc_2.1)
  have K_2 : Keep h0 T_2.heap [a, d, g] := (Keep.refl h0 [a, d, g]).trans Kc_2 (allS (Or.inl (List.mem_of_getElem? (i := 0) rfl)) (allS (Or.inl (List.mem_of_getElem? (i := 1) rfl)) (allS (Or.inl (List.mem_of_getElem? (i := 2) rfl)) all0)))
  have N_2 := Fr.app N_1 N_2q
  obtain ⟨cq_3, kq_3, q_3a, q_3b, q_3c⟩ := isOf hZ rfl pfE_a_2
  obtain ⟨_, _, ⟨T_3, L_3, k_3, n_3⟩, -, X_3, ⟨Lc_3, hQ_3, l_3, y_3, z_3⟩, st_3⟩ := X_2.virtualBack hx (y := MN1) (z := MN1) hown (mvT hZ (ow hw 16 rfl)) (mvT hZ (ow hw 17 rfl)) (notFace_of_selects (args := #[]) (mvT hZ (ow hw 19 rfl))) (mvT hZ (ow hw 19 rfl)) (mvT hZ (ow hw 18 rfl)) (by decide) (backOf (W := 0) (rm_ie2 l Z a0 hw [] a T_2.heap n0 Z_2 pfF_size_a_2) hZ (ow hw 20 rfl) (ow hw 3 rfl) (by decide) (by decide)) q_3a q_3c (g := (mkF mM 180 (lc4 p1 p2 k1 k2 nd fl pn pt pd a) [(.ref a)])) rfl (by rw [hml]; rfl) (Steps.refl _) (argsL := []) (rest := []) (lenOf pd_1 rfl) rfl (by show 2 * 0 + _ ≤ _; exact Nat.le_of_eq rfl) (hb hby at_180) (fun _ _ => ⟨rfl, rfl, (by decide : 3 + 0 ≤ _), (by decide : 35 + 0 ≤ _)⟩)
  dsimp only [Pt.U, Pt.locs, Pt.cells, Pt.slots] at X_3 l_3 y_3 z_3 st_3 hQ_3
  subst l_3 y_3 z_3
  obtain ⟨rfl, N_3q, eh_3⟩ := hQ_3
  have N_3 := Fr.app N_2 N_3q
  refine ⟨T_3, _, _, X_3, eh_3, N_3, K_2, fun target kt => ?_⟩
  show oS pP eE below T0 (mkF mM 162 (lc3 p1 p2 k1 k2 nd fl pn pt pd a) []) _
  refine XS.aload X0.here hx rfl (hb hby at_162) rfl rfl ?_
  show oS pP eE below T0 (mkF mM 164 (lc3 p1 p2 k1 k2 nd fl pn pt pd a) [(.ref a)]) _
  refine st_1.trans ?_
  show oS pP eE below T_1 (mkF mM 167 (lc3 p1 p2 k1 k2 nd fl pn pt pd a) [(.int (0 : Int32))]) _
  refine XS.istore X_1.here hx rfl (hb hby at_167) rfl (l' := (lc4 p1 p2 k1 k2 nd fl pn pt pd a)) rfl ?_
  refine XS.aload X_1.here hx rfl (hb hby at_169) rfl rfl ?_
  refine XT.lload X_1.here hx rfl (hb hby at_171) rfl ?_
  refine XS.iload X_1.here hx rfl (hb hby at_173) rfl ?_
  show oS pP eE below T_1 (mkF mM 175 (lc4 p1 p2 k1 k2 nd fl pn pt pd a) [(.int nd), (.long k2), (.ref a)]) _
  refine st_2.trans ?_
  show oS pP eE below T_2 (mkF mM 178 (lc4 p1 p2 k1 k2 nd fl pn pt pd a) []) _
  refine XS.aload X_2.here hx rfl (hb hby at_178) rfl rfl ?_
  show oS pP eE below T_2 (mkF mM 180 (lc4 p1 p2 k1 k2 nd fl pn pt pd a) [(.ref a)]) _
  refine st_3.trans ?_
  show oS pP eE below T_3 (mkF mM 183 (lc4 p1 p2 k1 k2 nd fl pn pt pd a) [(.int (0 : Int32))]) _
  refine XS.istore X_3.here hx rfl (hb hby at_183) rfl (l' := (lc5 p1 p2 k1 k2 nd fl pn pt pd a)) rfl ?_
  refine XS.iload X_3.here hx rfl (hb hby at_185) rfl ?_
  refine XS.ifNo X_3.here hx rfl (hb hby at_187) rfl (by decide) ?_
  refine XS.iload X_3.here hx rfl (hb hby at_190) rfl ?_
  refine XS.iload X_3.here hx rfl (hb hby at_192) rfl ?_
  refine XS.icmpNo X_3.here hx rfl (hb hby at_194) rfl (by decide) ?_
  refine XS.iload X_3.here hx rfl (hb hby at_197) rfl ?_
  refine XS.ifNo X_3.here hx rfl (hb hby at_199) rfl (by decide) ?_
  show oS pP eE below T_3 (mkF mM 202 (lc5 p1 p2 k1 k2 nd fl pn pt pd a) []) _
  refine XS.iconst X_3.here hx rfl (hb hby at_202) ?_
  refine XS.goto X_3.here hx rfl (pc0 := 203) (pc' := 207) rfl (hb hby at_203) (by decide) (by decide) ?_
  show oS pP eE below T_3 (mkF mM 207 (lc5 p1 p2 k1 k2 nd fl pn pt pd a) [(.int (1 : Int32))]) _
  exact kt
set_option maxRecDepth 65536 in
set_option maxHeartbeats 40000000 in
theorem pc_tail2 {pP : Program} {l : Launch} {eE : Env} {sS : State} {mM : MethodId} {argsA : Array Value} {below : List Frame} {meth : Method} {cC : Code} {T0 : State} {locs : List Loc} {Z : State} {a0 : Array Value} {h0 : Heap} {n0 : Nat} (p1 : Int32) (p2 : Int32) (k1 : Int64) (k2 : Int64) (nd : Int32) (fl : Int32) (pn : Int32) (pt : Int32) (pd : Int32) (a : Addr) (d : Addr) (g : Addr) (kd : ClassId) (kg : ClassId) (x0 : Int64) (x1 : Int64) (x2 : Int64) (x3 : Int64) (y0 : Int32) (y1 : Int32) (y2 : Int32) (y3 : Int32) (X0 : Stand pP l eE room_1 sS mM argsA below meth cC T0 locs 3 35) (hx : pP.tables.exec = Jvm.exec) (hZ : Z.Warmed39 sS.vm) (hw : ∀ d ∈ tables_1, d.before a0 Z = true) (hby : cC.code = code) (hml : cC.maxLocals = 16) (hown : sS.vm.findClass "com/example/greenweft/greenweft/steiner/NodeHeapIsEmptyPinLaw" = some mM.cls) (e0 : T0.heap = h0) (N0 : Fr n0 locs) (Z0 : n0 ≤ h0.size) (F_size_a : Fld Z h0 a "com/example/greenweft/greenweft/steiner/NodeHeap" "size" "I" (.int (2 : Int32))) (F_keys_a : Fld Z h0 a "com/example/greenweft/greenweft/steiner/NodeHeap" "keys" "[J" (.ref d)) (F_nodes_a : Fld Z h0 a "com/example/greenweft/greenweft/steiner/NodeHeap" "nodes" "[I" (.ref g)) (E_a : Exa Z h0 a "com/example/greenweft/greenweft/steiner/NodeHeap") (g_a : n0 ≤ a) (g_d : n0 ≤ d) (g_g : n0 ≤ g) (V_d : Arv Z h0 d kd .long (16 : Int32) [(.long x0), (.long x1), (.long x2), (.long x3)] (.long (0 : Int64))) (V_g : Arv Z h0 g kg .int (16 : Int32) [(.int y0), (.int y1), (.int y2), (.int y3)] (.int (0 : Int32))) (ndg : d ≠ g) (nad : a ≠ d) (nag : a ≠ g) :
    ∃ (T_ : State) (h_ : Heap) (L_ : List Loc), Stand pP l eE room_1 sS mM argsA below meth cC T_ L_ 3 35 ∧ T_.heap = h_ ∧ Fr n0 L_ ∧ Keep h0 h_ [a, d, g] ∧ ∀ target, Steps pP.tables eE below (T_.setTop (mkF mM 207 (lc5 p1 p2 k1 k2 nd fl pn pt pd a) [(.int (1 : Int32))])) target → Steps pP.tables eE below (T0.setTop (mkF mM 162 (lc3 p1 p2 k1 k2 nd fl pn pt pd a) [])) target := by
  obtain ⟨cq_1, kq_1, q_1a, q_1b, q_1c⟩ := isOf hZ e0 E_a
  obtain ⟨_, _, ⟨T_1, L_1, k_1, n_1⟩, -, X_1, ⟨Lc_1, hQ_1, l_1, y_1, z_1⟩, st_1⟩ := X0.virtualBack hx (y := MN1) (z := MN1) hown (mvT hZ (ow hw 16 rfl)) (mvT hZ (ow hw 17 rfl)) (notFace_of_selects (args := #[]) (mvT hZ (ow hw 19 rfl))) (mvT hZ (ow hw 19 rfl)) (mvT hZ (ow hw 18 rfl)) (by decide) (backOf (W := 0) (rm_ie2 l Z a0 hw [] a h0 n0 Z0 F_size_a) hZ (ow hw 20 rfl) (ow hw 3 rfl) (by decide) (by decide)) q_1a q_1c (g := (mkF mM 164 (lc3 p1 p2 k1 k2 nd fl pn pt pd a) [(.ref a)])) rfl (by rw [hml]; rfl) (Steps.refl _) (argsL := []) (rest := []) (lenOf pd_1 rfl) rfl (by show 2 * 0 + _ ≤ _; exact Nat.le_of_eq rfl) (hb hby at_164) (fun _ _ => ⟨rfl, e0, (by decide : 3 + 0 ≤ _), (by decide : 35 + 0 ≤ _)⟩)
  dsimp only [Pt.U, Pt.locs, Pt.cells, Pt.slots] at X_1 l_1 y_1 z_1 st_1 hQ_1
  subst l_1 y_1 z_1
  obtain ⟨rfl, N_1q, eh_1⟩ := hQ_1
  have N_1 := Fr.app N0 N_1q
  obtain ⟨cq_2, kq_2, q_2a, q_2b, q_2c⟩ := isOf hZ eh_1 E_a
  obtain ⟨_, _, ⟨T_2, L_2, k_2, n_2⟩, -, X_2, ⟨Lc_2, hQ_2, l_2, y_2, z_2⟩, st_2⟩ := X_1.virtualBack hx (y := MN2) (z := MN2) hown (mvT hZ (ow hw 28 rfl)) (mvT hZ (ow hw 29 rfl)) (notFace_of_selects (args := #[]) (mvT hZ (ow hw 31 rfl))) (mvT hZ (ow hw 31 rfl)) (mvT hZ (ow hw 30 rfl)) (by decide) (backOf (W := 0) (rm_add2 l Z a0 hw [] a d g kd kg k2 nd x0 x1 x2 x3 y0 y1 y2 y3 h0 n0 Z0 F_size_a F_keys_a F_nodes_a E_a g_a g_d g_g V_d V_g ndg nad nag) hZ (ow hw 32 rfl) (ow hw 3 rfl) (by decide) (by decide)) q_2a q_2c (g := (mkF mM 175 (lc4 p1 p2 k1 k2 nd fl pn pt pd a) [(.int nd), (.long k2), (.ref a)])) rfl (by rw [hml]; rfl) (Steps.refl _) (argsL := [(.long k2), (.int nd)]) (rest := []) (lenOf pd_2 rfl) rfl (by show 2 * 0 + _ ≤ _; exact Nat.le_of_eq rfl) (hb hby at_175) (fun _ _ => ⟨rfl, eh_1, (by decide : 3 + 0 ≤ _), (by decide : 35 + 0 ≤ _)⟩)
  dsimp only [Pt.U, Pt.locs, Pt.cells, Pt.slots] at X_2 l_2 y_2 z_2 st_2 hQ_2
  subst l_2 y_2 z_2
  obtain ⟨u0__2, ⟨u1__2, ⟨u2__2, ⟨u3__2, ⟨v0__2, ⟨v1__2, ⟨v2__2, ⟨v3__2, ⟨rfl, N_2q, Kc_2, pfF_size_a_2, pfF_keys_a_2, pfF_nodes_a_2, pfE_a_2, pfV_d_2, pfV_g_2⟩⟩⟩⟩⟩⟩⟩⟩⟩ := hQ_2
  have Z_2 : n0 ≤ T_2.heap.size := (Nat.le_trans Z0 Kc_2.1)
  have K_2 : Keep h0 T_2.heap [a, d, g] := (Keep.refl h0 [a, d, g]).trans Kc_2 (allS (Or.inl (List.mem_of_getElem? (i := 0) rfl)) (allS (Or.inl (List.mem_of_getElem? (i := 1) rfl)) (allS (Or.inl (List.mem_of_getElem? (i := 2) rfl)) all0)))
  have N_2 := Fr.app N_1 N_2q
  obtain ⟨cq_3, kq_3, q_3a, q_3b, q_3c⟩ := isOf hZ rfl pfE_a_2
  obtain ⟨_, _, ⟨T_3, L_3, k_3, n_3⟩, -, X_3, ⟨Lc_3, hQ_3, l_3, y_3, z_3⟩, st_3⟩ := X_2.virtualBack hx (y := MN1) (z := MN1) hown (mvT hZ (ow hw 16 rfl)) (mvT hZ (ow hw 17 rfl)) (notFace_of_selects (args := #[]) (mvT hZ (ow hw 19 rfl))) (mvT hZ (ow hw 19 rfl)) (mvT hZ (ow hw 18 rfl)) (by decide) (backOf (W := 0) (rm_ie3 l Z a0 hw [] a T_2.heap n0 Z_2 pfF_size_a_2) hZ (ow hw 20 rfl) (ow hw 3 rfl) (by decide) (by decide)) q_3a q_3c (g := (mkF mM 180 (lc4 p1 p2 k1 k2 nd fl pn pt pd a) [(.ref a)])) rfl (by rw [hml]; rfl) (Steps.refl _) (argsL := []) (rest := []) (lenOf pd_1 rfl) rfl (by show 2 * 0 + _ ≤ _; exact Nat.le_of_eq rfl) (hb hby at_180) (fun _ _ => ⟨rfl, rfl, (by decide : 3 + 0 ≤ _), (by decide : 35 + 0 ≤ _)⟩)
  dsimp only [Pt.U, Pt.locs, Pt.cells, Pt.slots] at X_3 l_3 y_3 z_3 st_3 hQ_3
  subst l_3 y_3 z_3
  obtain ⟨rfl, N_3q, eh_3⟩ := hQ_3
  have N_3 := Fr.app N_2 N_3q
  refine ⟨T_3, _, _, X_3, eh_3, N_3, K_2, fun target kt => ?_⟩
  show oS pP eE below T0 (mkF mM 162 (lc3 p1 p2 k1 k2 nd fl pn pt pd a) []) _
  refine XS.aload X0.here hx rfl (hb hby at_162) rfl rfl ?_
  show oS pP eE below T0 (mkF mM 164 (lc3 p1 p2 k1 k2 nd fl pn pt pd a) [(.ref a)]) _
  refine st_1.trans ?_
  show oS pP eE below T_1 (mkF mM 167 (lc3 p1 p2 k1 k2 nd fl pn pt pd a) [(.int (0 : Int32))]) _
  refine XS.istore X_1.here hx rfl (hb hby at_167) rfl (l' := (lc4 p1 p2 k1 k2 nd fl pn pt pd a)) rfl ?_
  refine XS.aload X_1.here hx rfl (hb hby at_169) rfl rfl ?_
  refine XT.lload X_1.here hx rfl (hb hby at_171) rfl ?_
  refine XS.iload X_1.here hx rfl (hb hby at_173) rfl ?_
  show oS pP eE below T_1 (mkF mM 175 (lc4 p1 p2 k1 k2 nd fl pn pt pd a) [(.int nd), (.long k2), (.ref a)]) _
  refine st_2.trans ?_
  show oS pP eE below T_2 (mkF mM 178 (lc4 p1 p2 k1 k2 nd fl pn pt pd a) []) _
  refine XS.aload X_2.here hx rfl (hb hby at_178) rfl rfl ?_
  show oS pP eE below T_2 (mkF mM 180 (lc4 p1 p2 k1 k2 nd fl pn pt pd a) [(.ref a)]) _
  refine st_3.trans ?_
  show oS pP eE below T_3 (mkF mM 183 (lc4 p1 p2 k1 k2 nd fl pn pt pd a) [(.int (0 : Int32))]) _
  refine XS.istore X_3.here hx rfl (hb hby at_183) rfl (l' := (lc5 p1 p2 k1 k2 nd fl pn pt pd a)) rfl ?_
  refine XS.iload X_3.here hx rfl (hb hby at_185) rfl ?_
  refine XS.ifNo X_3.here hx rfl (hb hby at_187) rfl (by decide) ?_
  refine XS.iload X_3.here hx rfl (hb hby at_190) rfl ?_
  refine XS.iload X_3.here hx rfl (hb hby at_192) rfl ?_
  refine XS.icmpNo X_3.here hx rfl (hb hby at_194) rfl (by decide) ?_
  refine XS.iload X_3.here hx rfl (hb hby at_197) rfl ?_
  refine XS.ifNo X_3.here hx rfl (hb hby at_199) rfl (by decide) ?_
  show oS pP eE below T_3 (mkF mM 202 (lc5 p1 p2 k1 k2 nd fl pn pt pd a) []) _
  refine XS.iconst X_3.here hx rfl (hb hby at_202) ?_
  refine XS.goto X_3.here hx rfl (pc0 := 203) (pc' := 207) rfl (hb hby at_203) (by decide) (by decide) ?_
  show oS pP eE below T_3 (mkF mM 207 (lc5 p1 p2 k1 k2 nd fl pn pt pd a) [(.int (1 : Int32))]) _
  exact kt
set_option maxRecDepth 65536 in
set_option maxHeartbeats 40000000 in
theorem pc_tail3 {pP : Program} {l : Launch} {eE : Env} {sS : State} {mM : MethodId} {argsA : Array Value} {below : List Frame} {meth : Method} {cC : Code} {T0 : State} {locs : List Loc} {Z : State} {a0 : Array Value} {h0 : Heap} {n0 : Nat} (p1 : Int32) (p2 : Int32) (k1 : Int64) (k2 : Int64) (nd : Int32) (fl : Int32) (pn : Int32) (pt : Int32) (pd : Int32) (a : Addr) (d : Addr) (g : Addr) (kd : ClassId) (kg : ClassId) (x0 : Int64) (x1 : Int64) (x2 : Int64) (x3 : Int64) (y0 : Int32) (y1 : Int32) (y2 : Int32) (y3 : Int32) (X0 : Stand pP l eE room_1 sS mM argsA below meth cC T0 locs 3 35) (hx : pP.tables.exec = Jvm.exec) (hZ : Z.Warmed39 sS.vm) (hw : ∀ d ∈ tables_1, d.before a0 Z = true) (hby : cC.code = code) (hml : cC.maxLocals = 16) (hown : sS.vm.findClass "com/example/greenweft/greenweft/steiner/NodeHeapIsEmptyPinLaw" = some mM.cls) (e0 : T0.heap = h0) (N0 : Fr n0 locs) (Z0 : n0 ≤ h0.size) (F_size_a : Fld Z h0 a "com/example/greenweft/greenweft/steiner/NodeHeap" "size" "I" (.int (3 : Int32))) (F_keys_a : Fld Z h0 a "com/example/greenweft/greenweft/steiner/NodeHeap" "keys" "[J" (.ref d)) (F_nodes_a : Fld Z h0 a "com/example/greenweft/greenweft/steiner/NodeHeap" "nodes" "[I" (.ref g)) (E_a : Exa Z h0 a "com/example/greenweft/greenweft/steiner/NodeHeap") (g_a : n0 ≤ a) (g_d : n0 ≤ d) (g_g : n0 ≤ g) (V_d : Arv Z h0 d kd .long (16 : Int32) [(.long x0), (.long x1), (.long x2), (.long x3)] (.long (0 : Int64))) (V_g : Arv Z h0 g kg .int (16 : Int32) [(.int y0), (.int y1), (.int y2), (.int y3)] (.int (0 : Int32))) (ndg : d ≠ g) (nad : a ≠ d) (nag : a ≠ g) :
    ∃ (T_ : State) (h_ : Heap) (L_ : List Loc), Stand pP l eE room_1 sS mM argsA below meth cC T_ L_ 3 35 ∧ T_.heap = h_ ∧ Fr n0 L_ ∧ Keep h0 h_ [a, d, g] ∧ ∀ target, Steps pP.tables eE below (T_.setTop (mkF mM 207 (lc5 p1 p2 k1 k2 nd fl pn pt pd a) [(.int (1 : Int32))])) target → Steps pP.tables eE below (T0.setTop (mkF mM 162 (lc3 p1 p2 k1 k2 nd fl pn pt pd a) [])) target := by
  obtain ⟨cq_1, kq_1, q_1a, q_1b, q_1c⟩ := isOf hZ e0 E_a
  obtain ⟨_, _, ⟨T_1, L_1, k_1, n_1⟩, -, X_1, ⟨Lc_1, hQ_1, l_1, y_1, z_1⟩, st_1⟩ := X0.virtualBack hx (y := MN1) (z := MN1) hown (mvT hZ (ow hw 16 rfl)) (mvT hZ (ow hw 17 rfl)) (notFace_of_selects (args := #[]) (mvT hZ (ow hw 19 rfl))) (mvT hZ (ow hw 19 rfl)) (mvT hZ (ow hw 18 rfl)) (by decide) (backOf (W := 0) (rm_ie3 l Z a0 hw [] a h0 n0 Z0 F_size_a) hZ (ow hw 20 rfl) (ow hw 3 rfl) (by decide) (by decide)) q_1a q_1c (g := (mkF mM 164 (lc3 p1 p2 k1 k2 nd fl pn pt pd a) [(.ref a)])) rfl (by rw [hml]; rfl) (Steps.refl _) (argsL := []) (rest := []) (lenOf pd_1 rfl) rfl (by show 2 * 0 + _ ≤ _; exact Nat.le_of_eq rfl) (hb hby at_164) (fun _ _ => ⟨rfl, e0, (by decide : 3 + 0 ≤ _), (by decide : 35 + 0 ≤ _)⟩)
  dsimp only [Pt.U, Pt.locs, Pt.cells, Pt.slots] at X_1 l_1 y_1 z_1 st_1 hQ_1
  subst l_1 y_1 z_1
  obtain ⟨rfl, N_1q, eh_1⟩ := hQ_1
  have N_1 := Fr.app N0 N_1q
  obtain ⟨cq_2, kq_2, q_2a, q_2b, q_2c⟩ := isOf hZ eh_1 E_a
  obtain ⟨_, _, ⟨T_2, L_2, k_2, n_2⟩, -, X_2, ⟨Lc_2, hQ_2, l_2, y_2, z_2⟩, st_2⟩ := X_1.virtualBack hx (y := MN2) (z := MN2) hown (mvT hZ (ow hw 28 rfl)) (mvT hZ (ow hw 29 rfl)) (notFace_of_selects (args := #[]) (mvT hZ (ow hw 31 rfl))) (mvT hZ (ow hw 31 rfl)) (mvT hZ (ow hw 30 rfl)) (by decide) (backOf (W := 0) (rm_add3 l Z a0 hw [] a d g kd kg k2 nd x0 x1 x2 x3 y0 y1 y2 y3 h0 n0 Z0 F_size_a F_keys_a F_nodes_a E_a g_a g_d g_g V_d V_g ndg nad nag) hZ (ow hw 32 rfl) (ow hw 3 rfl) (by decide) (by decide)) q_2a q_2c (g := (mkF mM 175 (lc4 p1 p2 k1 k2 nd fl pn pt pd a) [(.int nd), (.long k2), (.ref a)])) rfl (by rw [hml]; rfl) (Steps.refl _) (argsL := [(.long k2), (.int nd)]) (rest := []) (lenOf pd_2 rfl) rfl (by show 2 * 0 + _ ≤ _; exact Nat.le_of_eq rfl) (hb hby at_175) (fun _ _ => ⟨rfl, eh_1, (by decide : 3 + 0 ≤ _), (by decide : 35 + 0 ≤ _)⟩)
  dsimp only [Pt.U, Pt.locs, Pt.cells, Pt.slots] at X_2 l_2 y_2 z_2 st_2 hQ_2
  subst l_2 y_2 z_2
  obtain ⟨u0__2, ⟨u1__2, ⟨u2__2, ⟨u3__2, ⟨v0__2, ⟨v1__2, ⟨v2__2, ⟨v3__2, ⟨rfl, N_2q, Kc_2, pfF_size_a_2, pfF_keys_a_2, pfF_nodes_a_2, pfE_a_2, pfV_d_2, pfV_g_2⟩⟩⟩⟩⟩⟩⟩⟩⟩ := hQ_2
  have Z_2 : n0 ≤ T_2.heap.size := (Nat.le_trans Z0 Kc_2.1)
  have K_2 : Keep h0 T_2.heap [a, d, g] := (Keep.refl h0 [a, d, g]).trans Kc_2 (allS (Or.inl (List.mem_of_getElem? (i := 0) rfl)) (allS (Or.inl (List.mem_of_getElem? (i := 1) rfl)) (allS (Or.inl (List.mem_of_getElem? (i := 2) rfl)) all0)))
  have N_2 := Fr.app N_1 N_2q
  obtain ⟨cq_3, kq_3, q_3a, q_3b, q_3c⟩ := isOf hZ rfl pfE_a_2
  obtain ⟨_, _, ⟨T_3, L_3, k_3, n_3⟩, -, X_3, ⟨Lc_3, hQ_3, l_3, y_3, z_3⟩, st_3⟩ := X_2.virtualBack hx (y := MN1) (z := MN1) hown (mvT hZ (ow hw 16 rfl)) (mvT hZ (ow hw 17 rfl)) (notFace_of_selects (args := #[]) (mvT hZ (ow hw 19 rfl))) (mvT hZ (ow hw 19 rfl)) (mvT hZ (ow hw 18 rfl)) (by decide) (backOf (W := 0) (rm_ie4 l Z a0 hw [] a T_2.heap n0 Z_2 pfF_size_a_2) hZ (ow hw 20 rfl) (ow hw 3 rfl) (by decide) (by decide)) q_3a q_3c (g := (mkF mM 180 (lc4 p1 p2 k1 k2 nd fl pn pt pd a) [(.ref a)])) rfl (by rw [hml]; rfl) (Steps.refl _) (argsL := []) (rest := []) (lenOf pd_1 rfl) rfl (by show 2 * 0 + _ ≤ _; exact Nat.le_of_eq rfl) (hb hby at_180) (fun _ _ => ⟨rfl, rfl, (by decide : 3 + 0 ≤ _), (by decide : 35 + 0 ≤ _)⟩)
  dsimp only [Pt.U, Pt.locs, Pt.cells, Pt.slots] at X_3 l_3 y_3 z_3 st_3 hQ_3
  subst l_3 y_3 z_3
  obtain ⟨rfl, N_3q, eh_3⟩ := hQ_3
  have N_3 := Fr.app N_2 N_3q
  refine ⟨T_3, _, _, X_3, eh_3, N_3, K_2, fun target kt => ?_⟩
  show oS pP eE below T0 (mkF mM 162 (lc3 p1 p2 k1 k2 nd fl pn pt pd a) []) _
  refine XS.aload X0.here hx rfl (hb hby at_162) rfl rfl ?_
  show oS pP eE below T0 (mkF mM 164 (lc3 p1 p2 k1 k2 nd fl pn pt pd a) [(.ref a)]) _
  refine st_1.trans ?_
  show oS pP eE below T_1 (mkF mM 167 (lc3 p1 p2 k1 k2 nd fl pn pt pd a) [(.int (0 : Int32))]) _
  refine XS.istore X_1.here hx rfl (hb hby at_167) rfl (l' := (lc4 p1 p2 k1 k2 nd fl pn pt pd a)) rfl ?_
  refine XS.aload X_1.here hx rfl (hb hby at_169) rfl rfl ?_
  refine XT.lload X_1.here hx rfl (hb hby at_171) rfl ?_
  refine XS.iload X_1.here hx rfl (hb hby at_173) rfl ?_
  show oS pP eE below T_1 (mkF mM 175 (lc4 p1 p2 k1 k2 nd fl pn pt pd a) [(.int nd), (.long k2), (.ref a)]) _
  refine st_2.trans ?_
  show oS pP eE below T_2 (mkF mM 178 (lc4 p1 p2 k1 k2 nd fl pn pt pd a) []) _
  refine XS.aload X_2.here hx rfl (hb hby at_178) rfl rfl ?_
  show oS pP eE below T_2 (mkF mM 180 (lc4 p1 p2 k1 k2 nd fl pn pt pd a) [(.ref a)]) _
  refine st_3.trans ?_
  show oS pP eE below T_3 (mkF mM 183 (lc4 p1 p2 k1 k2 nd fl pn pt pd a) [(.int (0 : Int32))]) _
  refine XS.istore X_3.here hx rfl (hb hby at_183) rfl (l' := (lc5 p1 p2 k1 k2 nd fl pn pt pd a)) rfl ?_
  refine XS.iload X_3.here hx rfl (hb hby at_185) rfl ?_
  refine XS.ifNo X_3.here hx rfl (hb hby at_187) rfl (by decide) ?_
  refine XS.iload X_3.here hx rfl (hb hby at_190) rfl ?_
  refine XS.iload X_3.here hx rfl (hb hby at_192) rfl ?_
  refine XS.icmpNo X_3.here hx rfl (hb hby at_194) rfl (by decide) ?_
  refine XS.iload X_3.here hx rfl (hb hby at_197) rfl ?_
  refine XS.ifNo X_3.here hx rfl (hb hby at_199) rfl (by decide) ?_
  show oS pP eE below T_3 (mkF mM 202 (lc5 p1 p2 k1 k2 nd fl pn pt pd a) []) _
  refine XS.iconst X_3.here hx rfl (hb hby at_202) ?_
  refine XS.goto X_3.here hx rfl (pc0 := 203) (pc' := 207) rfl (hb hby at_203) (by decide) (by decide) ?_
  show oS pP eE below T_3 (mkF mM 207 (lc5 p1 p2 k1 k2 nd fl pn pt pd a) [(.int (1 : Int32))]) _
  exact kt
abbrev lc6 (p1 : Int32) (p2 : Int32) (k1 : Int64) (k2 : Int64) (nd : Int32) (fl : Int32) : Array Slot := #[.val (.int p1), .val (.int p2), .val (.long k1), .second, .val (.long k2), .second, .val (.int nd), .val (.int fl), .unset, .unset, .unset, .unset, .unset, .unset, .unset, .unset]
abbrev lc7 (p1 : Int32) (p2 : Int32) (k1 : Int64) (k2 : Int64) (nd : Int32) (fl : Int32) : Array Slot := #[.val (.int p1), .val (.int p2), .val (.long k1), .second, .val (.long k2), .second, .val (.int nd), .val (.int fl), .val (.int (0 : Int32)), .unset, .unset, .unset, .unset, .unset, .unset, .unset]
abbrev lc8 (p1 : Int32) (p2 : Int32) (k1 : Int64) (k2 : Int64) (nd : Int32) (fl : Int32) : Array Slot := #[.val (.int p1), .val (.int p2), .val (.long k1), .second, .val (.long k2), .second, .val (.int nd), .val (.int fl), .val (.int (0 : Int32)), .val (.int (0 : Int32)), .unset, .unset, .unset, .unset, .unset, .unset]
abbrev lc9 (p1 : Int32) (p2 : Int32) (k1 : Int64) (k2 : Int64) (nd : Int32) (fl : Int32) : Array Slot := #[.val (.int p1), .val (.int p2), .val (.long k1), .second, .val (.long k2), .second, .val (.int nd), .val (.int fl), .val (.int (0 : Int32)), .val (.int (0 : Int32)), .val (.int (0 : Int32)), .unset, .unset, .unset, .unset, .unset]
theorem pd_3 : parseMethodDescriptor "()V" = some ⟨[], none⟩ := by decide +kernel
abbrev MN3 : MethodName := ⟨"com/example/greenweft/greenweft/steiner/NodeHeap", "<init>", "()V"⟩
abbrev lc10 (p1 : Int32) (p2 : Int32) (k1 : Int64) (k2 : Int64) (nd : Int32) (fl : Int32) (b_1 : Addr) : Array Slot := #[.val (.int p1), .val (.int p2), .val (.long k1), .second, .val (.long k2), .second, .val (.int nd), .val (.int fl), .val (.int (0 : Int32)), .val (.int (0 : Int32)), .val (.int (0 : Int32)), .val (.ref b_1), .unset, .unset, .unset, .unset]
abbrev lc11 (p1 : Int32) (p2 : Int32) (k1 : Int64) (k2 : Int64) (nd : Int32) (fl : Int32) (b_1 : Addr) : Array Slot := #[.val (.int p1), .val (.int p2), .val (.long k1), .second, .val (.long k2), .second, .val (.int nd), .val (.int fl), .val (.int (0 : Int32)), .val (.int (0 : Int32)), .val (.int (0 : Int32)), .val (.ref b_1), .val (.int (1 : Int32)), .unset, .unset, .unset]
abbrev lc12 (p1 : Int32) (p2 : Int32) (k1 : Int64) (k2 : Int64) (nd : Int32) (fl : Int32) (b_1 : Addr) : Array Slot := #[.val (.int p1), .val (.int p2), .val (.long k1), .second, .val (.long k2), .second, .val (.int nd), .val (.int fl), .val (.int (0 : Int32)), .val (.int (0 : Int32)), .val (.int (0 : Int32)), .val (.ref b_1), .val (.int (1 : Int32)), .val (.int (1 : Int32)), .unset, .unset]
abbrev lc13 (p1 : Int32) (p2 : Int32) (k1 : Int64) (k2 : Int64) (nd : Int32) (fl : Int32) (b_1 : Addr) : Array Slot := #[.val (.int p1), .val (.int p2), .val (.long k1), .second, .val (.long k2), .second, .val (.int nd), .val (.int fl), .val (.int (0 : Int32)), .val (.int (0 : Int32)), .val (.int (0 : Int32)), .val (.ref b_1), .val (.int (1 : Int32)), .val (.int (1 : Int32)), .val (.int (1 : Int32)), .val (.int (0 : Int32))]
theorem pn_1 : plainName "com/example/greenweft/greenweft/steiner/NodeHeapIsEmptyPinLaw" = true := by first | (simp [plainName, overriddenIn]; done) | decide +kernel
theorem ef_law000 (mM : MethodId) (x0 : Int32) (x1 : Int32) (x2 : Int64) (x3 : Int64) (x4 : Int32) (x5 : Int32) : entryFrame mM #[(.int x0), (.int x1), (.long x2), (.long x3), (.int x4), (.int x5)] maxLocals = mkF mM 0 #[.val (.int x0), .val (.int x1), .val (.long x2), .second, .val (.long x3), .second, .val (.int x4), .val (.int x5), .unset, .unset, .unset, .unset, .unset, .unset, .unset, .unset] [] := by first | (simp [entryFrame, mkF, argsToLocals, Value.category, maxLocals]; done) | rfl
def Q_law000 (Z : State) (p1 : Int32) (p2 : Int32) (k1 : Int64) (k2 : Int64) (nd : Int32) (fl : Int32) (h0 : Heap) (n0 : Nat) (v_ : Option Value) (h_ : Heap) (L_ : List Loc) : Prop := v_ = some (.int (1 : Int32)) ∧ Fr n0 L_
set_option maxRecDepth 65536 in
set_option maxHeartbeats 40000000 in
theorem rm_law000 (l : Launch) (Z : State) (a0 : Array Value) (hw : ∀ d ∈ tables_1, d.before a0 Z = true) (ws : List Jvm.Cond) (p1 : Int32) (p2 : Int32) (k1 : Int64) (k2 : Int64) (nd : Int32) (fl : Int32) (h0 : Heap) (n0 : Nat) (Z0 : n0 ≤ h0.size) (hn : (p1 &&& (3 : Int32)) = (0 : Int32)) (ht : ((p2 &&& (2147483647 : Int32)) % (1 : Int32)) = (0 : Int32)) (hc : (fl &&& (1 : Int32)) = 0) :
    MetFree l x (head1 (Jvm.Cond.code x code maxLocals ret :: ws) room_1) (fun aa_ U_ => aa_ = #[(.int p1), (.int p2), (.long k1), (.long k2), (.int nd), (.int fl)] ∧ Z.Warmed39 U_.vm ∧ U_.heap = h0) (fun _ _ _ _ _ => True) (fun _ U_ o_ U'_ => ∃ v_ L_, o_ = .returned v_ ∧ Q_law000 Z p1 p2 k1 k2 nd fl h0 n0 v_ U'_.heap L_ ∧ FrameEnd U_ o_ U'_ L_ 3 35) := by
  refine MetFree.of_bodySF (plainFor_of_name pn_1) hisR ?_
  intro pP eE sS mM argsA below meth cC s₁ Bd hml0 hP hK
  obtain ⟨rfl, hZ, hh⟩ := hP
  have hx := Bd.exec
  have hby := Bd.bytes
  have hml : cC.maxLocals = 16 := hml0
  have hown : sS.vm.findClass "com/example/greenweft/greenweft/steiner/NodeHeapIsEmptyPinLaw" = some mM.cls := findClass_of_methodNamed Bd.named
  have hnm := (name_of_methodNamed Bd.named Bd.method).1
  have X0 : Stand pP l eE room_1 sS mM #[(.int p1), (.int p2), (.long k1), (.long k2), (.int nd), (.int fl)] below meth cC s₁ [] 0 0 := Stand.of_body Bd
  have e0 : s₁.heap = h0 := by rw [← hh, Bd.state]; rfl
  have N0 := Fr.nil n0
  have pre0 : ∀ t_, Steps pP.tables eE below (s₁.setTop (mkF mM 0 #[.val (.int p1), .val (.int p2), .val (.long k1), .second, .val (.long k2), .second, .val (.int nd), .val (.int fl), .unset, .unset, .unset, .unset, .unset, .unset, .unset, .unset] [])) t_ → Steps pP.tables eE below (s₁.setTop (entryFrame mM #[(.int p1), (.int p2), (.long k1), (.long k2), (.int nd), (.int fl)] maxLocals)) t_ := fun t_ k_ => castTop (ef_law000 mM p1 p2 k1 k2 nd fl) k_
  obtain ⟨T_1, h_1, X_1, e_1, E_1, A_1, D_1, -, st_1⟩ := newO X0 hx hZ hown (ow hw 1 rfl) (ow hw 2 rfl) (ow hw 3 rfl) e0 (g := (mkF mM 30 (lc9 p1 p2 k1 k2 nd fl) [])) rfl (hb hby at_30) (by decide) (by decide)
  obtain ⟨b_1, g_1⟩ : ∃ z, z = h0.size := ⟨_, rfl⟩
  rw [← g_1] at A_1 D_1 st_1
  have g_b_1 : n0 ≤ b_1 := Nat.le_trans Z0 (Nat.le_of_eq g_1.symm)
  have sz_b_1 : h0.size ≤ b_1 := Nat.le_trans (Keep.refl h0 []).1 (Nat.le_of_eq g_1.symm)
  have Z_1 : n0 ≤ h_1.size := (Nat.le_trans Z0 E_1.1)
  have K_1 : Keep h0 h_1 [] := (Keep.refl h0 []).ext E_1
  have F_keys_b_1__1 : Fld Z h_1 b_1 "com/example/greenweft/greenweft/steiner/NodeHeap" "keys" "[J" .null := D_1 (Or.inl (ow hw 12 rfl)) (ty := (.array .long)) (by decide)
  have F_nodes_b_1__1 : Fld Z h_1 b_1 "com/example/greenweft/greenweft/steiner/NodeHeap" "nodes" "[I" .null := D_1 (Or.inl (ow hw 15 rfl)) (ty := (.array .int)) (by decide)
  have F_size_b_1__1 : Fld Z h_1 b_1 "com/example/greenweft/greenweft/steiner/NodeHeap" "size" "I" (.int (0 : Int32)) := D_1 (Or.inl (ow hw 22 rfl)) (ty := .int) (by decide)
  obtain ⟨_, _, ⟨T_2, L_2, k_2, n_2⟩, -, X_2, ⟨Lc_2, hQ_2, l_2, y_2, z_2⟩, st_2⟩ := X_1.specialBack hx (y := MN3) rfl hown (mvT hZ (ow hw 4 rfl)) (mvT hZ (ow hw 5 rfl)) (mvT hZ (ow hw 6 rfl)) (by decide) (backOf (W := 1) (rm_init l Z a0 hw [] b_1 h_1 n0 Z_1 F_keys_b_1__1 F_nodes_b_1__1 F_size_b_1__1 A_1 g_b_1) hZ (ow hw 6 rfl) (ow hw 3 rfl) (by decide) (by decide)) (g := (mkF mM 34 (lc9 p1 p2 k1 k2 nd fl) [(.ref b_1), (.ref b_1)])) rfl (by rw [hml]; rfl) (Steps.refl _) (a := b_1) (argsL := []) (rest := [(.ref b_1)]) (lenOf pd_3 rfl) rfl (by show 2 * 0 + _ ≤ _; exact Nat.le_of_eq rfl) (hb hby at_34) (fun _ _ => ⟨rfl, e_1, (by decide : 1 + 2 ≤ _), (by decide : 3 + 32 ≤ _)⟩)
  dsimp only [Pt.U, Pt.locs, Pt.cells, Pt.slots] at X_2 l_2 y_2 z_2 st_2 hQ_2
  subst l_2 y_2 z_2
  obtain ⟨d__2, ⟨g__2, ⟨kd__2, ⟨kg__2, ⟨rfl, N_2q, Kc_2, pfsz_d_2, pfsz_g_2, pfndg_2, pfE_a_2, pfF_keys_a_2, pfF_nodes_a_2, pfF_size_a_2, pfV_d_2, pfV_g_2⟩⟩⟩⟩⟩ := hQ_2
  have Z_2 : n0 ≤ T_2.heap.size := (Nat.le_trans Z_1 Kc_2.1)
  have K_2 : Keep h0 T_2.heap [] := K_1.trans Kc_2 (allS (Or.inr sz_b_1) all0)
  have sz_d__2 : h0.size ≤ d__2 := Nat.le_trans K_1.1 pfsz_d_2
  have g_d__2 : n0 ≤ d__2 := Nat.le_trans Z_1 pfsz_d_2
  have sz_g__2 : h0.size ≤ g__2 := Nat.le_trans K_1.1 pfsz_g_2
  have g_g__2 : n0 ≤ g__2 := Nat.le_trans Z_1 pfsz_g_2
  have N_2 := Fr.app N0 N_2q
  obtain ⟨cq_3, kq_3, q_3a, q_3b, q_3c⟩ := isOf hZ rfl pfE_a_2
  obtain ⟨_, _, ⟨T_3, L_3, k_3, n_3⟩, -, X_3, ⟨Lc_3, hQ_3, l_3, y_3, z_3⟩, st_3⟩ := X_2.virtualBack hx (y := MN1) (z := MN1) hown (mvT hZ (ow hw 16 rfl)) (mvT hZ (ow hw 17 rfl)) (notFace_of_selects (args := #[]) (mvT hZ (ow hw 19 rfl))) (mvT hZ (ow hw 19 rfl)) (mvT hZ (ow hw 18 rfl)) (by decide) (backOf (W := 0) (rm_ie0 l Z a0 hw [] b_1 T_2.heap n0 Z_2 pfF_size_a_2) hZ (ow hw 20 rfl) (ow hw 3 rfl) (by decide) (by decide)) q_3a q_3c (g := (mkF mM 41 (lc10 p1 p2 k1 k2 nd fl b_1) [(.ref b_1)])) rfl (by rw [hml]; rfl) (Steps.refl _) (argsL := []) (rest := []) (lenOf pd_1 rfl) rfl (by show 2 * 0 + _ ≤ _; exact Nat.le_of_eq rfl) (hb hby at_41) (fun _ _ => ⟨rfl, rfl, (by decide : 3 + 0 ≤ _), (by decide : 35 + 0 ≤ _)⟩)
  dsimp only [Pt.U, Pt.locs, Pt.cells, Pt.slots] at X_3 l_3 y_3 z_3 st_3 hQ_3
  subst l_3 y_3 z_3
  obtain ⟨rfl, N_3q, eh_3⟩ := hQ_3
  have N_3 := Fr.app N_2 N_3q
  obtain ⟨T_4, h_4, L_4, X_4, e_4, N_4, Kc_4, st_4⟩ := pc_tail0 p1 p2 k1 k2 nd fl (0 : Int32) (0 : Int32) (0 : Int32) b_1 d__2 g__2 kd__2 kg__2 (0 : Int64) (0 : Int64) (0 : Int64) (0 : Int64) (0 : Int32) (0 : Int32) (0 : Int32) (0 : Int32) X_3 hx hZ hw hby hml hown eh_3 N_3 Z_2 pfF_size_a_2 pfF_keys_a_2 pfF_nodes_a_2 pfE_a_2 g_b_1 g_d__2 g_g__2 pfV_d_2 pfV_g_2 pfndg_2 (Nat.ne_of_lt (Nat.lt_of_lt_of_le A_1.lt pfsz_d_2)) (Nat.ne_of_lt (Nat.lt_of_lt_of_le A_1.lt pfsz_g_2))
  have Z_4 : n0 ≤ h_4.size := (Nat.le_trans Z_2 Kc_4.1)
  have K_4 : Keep h0 h_4 [] := K_2.trans Kc_4 (allS (Or.inr sz_b_1) (allS (Or.inr sz_d__2) (allS (Or.inr sz_g__2) all0)))
  obtain ⟨fs, hr, hrun, hended, hW, hsame⟩ := X_4.leave (v := some (.int (1 : Int32))) (fun h => by rw [Bd.returns] at h; cases h)
  refine ⟨_, _, pre0 _ ?_, hrun, hended, _, _, rfl, ?_, ⟨_, rfl⟩, hW, hsame.mono (by decide) (by decide)⟩
  · show oS pP eE below s₁ (mkF mM 0 (lc6 p1 p2 k1 k2 nd fl) []) _
    refine XS.iloadN X0.here hx rfl (hb hby at_0) rfl ?_
    refine XS.iconst X0.here hx rfl (hb hby at_1) ?_
    show oS pP eE below s₁ (mkF mM 2 (lc6 p1 p2 k1 k2 nd fl) [(.int (3 : Int32)), (.int p1)]) _
    refine XS.iand X0.here hx rfl (hb hby at_2) rfl ?_
    show oS pP eE below s₁ (mkF mM 3 (lc6 p1 p2 k1 k2 nd fl) [(.int (p1 &&& (3 : Int32)))]) _
    rw [hn]
    refine XS.istore X0.here hx rfl (hb hby at_3) rfl (l' := (lc7 p1 p2 k1 k2 nd fl)) rfl ?_
    refine XS.iloadN X0.here hx rfl (hb hby at_5) rfl ?_
    show oS pP eE below s₁ (mkF mM 6 (lc7 p1 p2 k1 k2 nd fl) [(.int p2)]) _
    refine X0.ldcI hx hown (mvT hZ (ow hw 0 rfl)) (g := (mkF mM 6 (lc7 p1 p2 k1 k2 nd fl) [(.int p2)])) rfl (hb hby at_6) ?_
    show oS pP eE below s₁ (mkF mM 8 (lc7 p1 p2 k1 k2 nd fl) [(.int (2147483647 : Int32)), (.int p2)]) _
    refine XS.iand X0.here hx rfl (hb hby at_8) rfl ?_
    refine XS.iload X0.here hx rfl (hb hby at_9) rfl ?_
    refine XS.iconst X0.here hx rfl (hb hby at_11) ?_
    show oS pP eE below s₁ (mkF mM 12 (lc7 p1 p2 k1 k2 nd fl) [(.int (1 : Int32)), (.int (0 : Int32)), (.int (p2 &&& (2147483647 : Int32)))]) _
    refine XS.iadd X0.here hx rfl (hb hby at_12) rfl ?_
    show oS pP eE below s₁ (mkF mM 13 (lc7 p1 p2 k1 k2 nd fl) [(.int ((0 : Int32) + (1 : Int32))), (.int (p2 &&& (2147483647 : Int32)))]) _
    rw [(by decide : ((0 : Int32) + (1 : Int32)) = (1 : Int32))]
    show oS pP eE below s₁ (mkF mM 13 (lc7 p1 p2 k1 k2 nd fl) [(.int (1 : Int32)), (.int (p2 &&& (2147483647 : Int32)))]) _
    refine iremM X0 hx rfl (hb hby at_13) rfl (by decide) ?_
    show oS pP eE below s₁ (mkF mM 14 (lc7 p1 p2 k1 k2 nd fl) [(.int ((p2 &&& (2147483647 : Int32)) % (1 : Int32)))]) _
    rw [ht]
    refine XS.istore X0.here hx rfl (hb hby at_14) rfl (l' := (lc8 p1 p2 k1 k2 nd fl)) rfl ?_
    refine XS.iload X0.here hx rfl (hb hby at_16) rfl ?_
    refine XS.iconst X0.here hx rfl (hb hby at_18) ?_
    show oS pP eE below s₁ (mkF mM 19 (lc8 p1 p2 k1 k2 nd fl) [(.int (1 : Int32)), (.int fl)]) _
    refine XS.iand X0.here hx rfl (hb hby at_19) rfl ?_
    refine XS.ifYes X0.here hx rfl (pc0 := 20) (pc' := 27) rfl (hb hby at_20) rfl (XT.i0_eq_t hc) (by decide) (by decide) ?_
    refine XS.iconst X0.here hx rfl (hb hby at_27) ?_
    refine XS.istore X0.here hx rfl (hb hby at_28) rfl (l' := (lc9 p1 p2 k1 k2 nd fl)) rfl ?_
    show oS pP eE below s₁ (mkF mM 30 (lc9 p1 p2 k1 k2 nd fl) []) _
    refine st_1 _ ?_
    show oS pP eE below T_1 (mkF mM 33 (lc9 p1 p2 k1 k2 nd fl) [(.ref b_1)]) _
    refine XS.dup X_1.here hx rfl (hb hby at_33) rfl rfl ?_
    show oS pP eE below T_1 (mkF mM 34 (lc9 p1 p2 k1 k2 nd fl) [(.ref b_1), (.ref b_1)]) _
    refine st_2.trans ?_
    show oS pP eE below T_2 (mkF mM 37 (lc9 p1 p2 k1 k2 nd fl) [(.ref b_1)]) _
    refine XS.astore X_2.here hx rfl (hb hby at_37) rfl rfl (l' := (lc10 p1 p2 k1 k2 nd fl b_1)) rfl ?_
    refine XS.aload X_2.here hx rfl (hb hby at_39) rfl rfl ?_
    show oS pP eE below T_2 (mkF mM 41 (lc10 p1 p2 k1 k2 nd fl b_1) [(.ref b_1)]) _
    refine st_3.trans ?_
    show oS pP eE below T_3 (mkF mM 44 (lc10 p1 p2 k1 k2 nd fl b_1) [(.int (1 : Int32))]) _
    refine XS.istore X_3.here hx rfl (hb hby at_44) rfl (l' := (lc11 p1 p2 k1 k2 nd fl b_1)) rfl ?_
    refine XS.iload X_3.here hx rfl (hb hby at_46) rfl ?_
    refine XS.iconst X_3.here hx rfl (hb hby at_48) ?_
    refine XS.icmpYes X_3.here hx rfl (pc0 := 49) (pc' := 60) rfl (hb hby at_49) rfl (by decide) (by decide) (by decide) ?_
    refine XS.iload X_3.here hx rfl (hb hby at_60) rfl ?_
    refine XS.iconst X_3.here hx rfl (hb hby at_62) ?_
    refine XS.icmpYes X_3.here hx rfl (pc0 := 63) (pc' := 77) rfl (hb hby at_63) rfl (by decide) (by decide) (by decide) ?_
    refine XS.iload X_3.here hx rfl (hb hby at_77) rfl ?_
    show oS pP eE below T_3 (mkF mM 79 (lc11 p1 p2 k1 k2 nd fl b_1) [(.int (0 : Int32))]) _
    refine XS.iconst X_3.here hx rfl (hb hby at_79) ?_
    refine XS.icmpYes X_3.here hx rfl (pc0 := 80) (pc' := 96) rfl (hb hby at_80) rfl (by decide) (by decide) (by decide) ?_
    refine XS.iload X_3.here hx rfl (hb hby at_96) rfl ?_
    refine XS.iconst X_3.here hx rfl (hb hby at_98) ?_
    refine XS.icmpYes X_3.here hx rfl (pc0 := 99) (pc' := 108) rfl (hb hby at_99) rfl (by decide) (by decide) (by decide) ?_
    refine XS.iload X_3.here hx rfl (hb hby at_108) rfl ?_
    refine XS.iconst X_3.here hx rfl (hb hby at_110) ?_
    refine XS.icmpYes X_3.here hx rfl (pc0 := 111) (pc' := 120) rfl (hb hby at_111) rfl (by decide) (by decide) (by decide) ?_
    show oS pP eE below T_3 (mkF mM 120 (lc11 p1 p2 k1 k2 nd fl b_1) []) _
    refine XS.iload X_3.here hx rfl (hb hby at_120) rfl ?_
    refine XS.iconst X_3.here hx rfl (hb hby at_122) ?_
    refine XS.icmpYes X_3.here hx rfl (pc0 := 123) (pc' := 132) rfl (hb hby at_123) rfl (by decide) (by decide) (by decide) ?_
    refine XS.iload X_3.here hx rfl (hb hby at_132) rfl ?_
    refine XS.ifYes X_3.here hx rfl (pc0 := 134) (pc' := 142) rfl (hb hby at_134) rfl (by decide) (by decide) (by decide) ?_
    refine XS.iload X_3.here hx rfl (hb hby at_142) rfl ?_
    refine XS.ifNo X_3.here hx rfl (hb hby at_144) rfl (by decide) ?_
    refine XS.iload X_3.here hx rfl (hb hby at_147) rfl ?_
    show oS pP eE below T_3 (mkF mM 149 (lc11 p1 p2 k1 k2 nd fl b_1) [(.int (0 : Int32))]) _
    refine XS.iload X_3.here hx rfl (hb hby at_149) rfl ?_
    show oS pP eE below T_3 (mkF mM 151 (lc11 p1 p2 k1 k2 nd fl b_1) [(.int (0 : Int32)), (.int (0 : Int32))]) _
    refine XS.isub X_3.here hx rfl (hb hby at_151) rfl ?_
    show oS pP eE below T_3 (mkF mM 152 (lc11 p1 p2 k1 k2 nd fl b_1) [(.int ((0 : Int32) - (0 : Int32)))]) _
    rw [(by decide : ((0 : Int32) - (0 : Int32)) = (0 : Int32))]
    refine XS.ifNo X_3.here hx rfl (hb hby at_152) rfl (by decide) ?_
    refine XS.iconst X_3.here hx rfl (hb hby at_155) ?_
    refine XS.goto X_3.here hx rfl (pc0 := 156) (pc' := 160) rfl (hb hby at_156) (by decide) (by decide) ?_
    refine XS.istore X_3.here hx rfl (hb hby at_160) rfl (l' := (lc12 p1 p2 k1 k2 nd fl b_1)) rfl ?_
    show oS pP eE below T_3 (mkF mM 162 (lc12 p1 p2 k1 k2 nd fl b_1) []) _
    refine st_4 _ ?_
    show oS pP eE below T_4 (mkF mM 207 (lc13 p1 p2 k1 k2 nd fl b_1) [(.int (1 : Int32))]) _
    exact retN X_4 hx (t := .boolean) Bd.returns (by simp) (hb hby at_207) hr
  · show Q_law000 Z p1 p2 k1 k2 nd fl h0 n0 _ T_4.heap _
    exact ⟨rfl, N_4⟩
abbrev lc14 (p1 : Int32) (p2 : Int32) (k1 : Int64) (k2 : Int64) (nd : Int32) (fl : Int32) : Array Slot := #[.val (.int p1), .val (.int p2), .val (.long k1), .second, .val (.long k2), .second, .val (.int nd), .val (.int fl), .val (.int (0 : Int32)), .val (.int (0 : Int32)), .val (.int (1 : Int32)), .unset, .unset, .unset, .unset, .unset]
abbrev lc15 (p1 : Int32) (p2 : Int32) (k1 : Int64) (k2 : Int64) (nd : Int32) (fl : Int32) (b_1 : Addr) : Array Slot := #[.val (.int p1), .val (.int p2), .val (.long k1), .second, .val (.long k2), .second, .val (.int nd), .val (.int fl), .val (.int (0 : Int32)), .val (.int (0 : Int32)), .val (.int (1 : Int32)), .val (.ref b_1), .unset, .unset, .unset, .unset]
abbrev lc16 (p1 : Int32) (p2 : Int32) (k1 : Int64) (k2 : Int64) (nd : Int32) (fl : Int32) (b_1 : Addr) : Array Slot := #[.val (.int p1), .val (.int p2), .val (.long k1), .second, .val (.long k2), .second, .val (.int nd), .val (.int fl), .val (.int (0 : Int32)), .val (.int (0 : Int32)), .val (.int (1 : Int32)), .val (.ref b_1), .val (.int (1 : Int32)), .unset, .unset, .unset]
abbrev MN4 : MethodName := ⟨"com/example/greenweft/greenweft/steiner/NodeHeap", "clear", "()V"⟩
abbrev lc17 (p1 : Int32) (p2 : Int32) (k1 : Int64) (k2 : Int64) (nd : Int32) (fl : Int32) (b_1 : Addr) : Array Slot := #[.val (.int p1), .val (.int p2), .val (.long k1), .second, .val (.long k2), .second, .val (.int nd), .val (.int fl), .val (.int (0 : Int32)), .val (.int (0 : Int32)), .val (.int (1 : Int32)), .val (.ref b_1), .val (.int (1 : Int32)), .val (.int (1 : Int32)), .unset, .unset]
abbrev lc18 (p1 : Int32) (p2 : Int32) (k1 : Int64) (k2 : Int64) (nd : Int32) (fl : Int32) (b_1 : Addr) : Array Slot := #[.val (.int p1), .val (.int p2), .val (.long k1), .second, .val (.long k2), .second, .val (.int nd), .val (.int fl), .val (.int (0 : Int32)), .val (.int (0 : Int32)), .val (.int (1 : Int32)), .val (.ref b_1), .val (.int (1 : Int32)), .val (.int (1 : Int32)), .val (.int (1 : Int32)), .val (.int (0 : Int32))]
theorem ef_law001 (mM : MethodId) (x0 : Int32) (x1 : Int32) (x2 : Int64) (x3 : Int64) (x4 : Int32) (x5 : Int32) : entryFrame mM #[(.int x0), (.int x1), (.long x2), (.long x3), (.int x4), (.int x5)] maxLocals = mkF mM 0 #[.val (.int x0), .val (.int x1), .val (.long x2), .second, .val (.long x3), .second, .val (.int x4), .val (.int x5), .unset, .unset, .unset, .unset, .unset, .unset, .unset, .unset] [] := by first | (simp [entryFrame, mkF, argsToLocals, Value.category, maxLocals]; done) | rfl
def Q_law001 (Z : State) (p1 : Int32) (p2 : Int32) (k1 : Int64) (k2 : Int64) (nd : Int32) (fl : Int32) (h0 : Heap) (n0 : Nat) (v_ : Option Value) (h_ : Heap) (L_ : List Loc) : Prop := v_ = some (.int (1 : Int32)) ∧ Fr n0 L_
set_option maxRecDepth 65536 in
set_option maxHeartbeats 40000000 in
theorem rm_law001 (l : Launch) (Z : State) (a0 : Array Value) (hw : ∀ d ∈ tables_1, d.before a0 Z = true) (ws : List Jvm.Cond) (p1 : Int32) (p2 : Int32) (k1 : Int64) (k2 : Int64) (nd : Int32) (fl : Int32) (h0 : Heap) (n0 : Nat) (Z0 : n0 ≤ h0.size) (hn : (p1 &&& (3 : Int32)) = (0 : Int32)) (ht : ((p2 &&& (2147483647 : Int32)) % (1 : Int32)) = (0 : Int32)) (hc : ¬ (fl &&& (1 : Int32)) = 0) :
    MetFree l x (head1 (Jvm.Cond.code x code maxLocals ret :: ws) room_1) (fun aa_ U_ => aa_ = #[(.int p1), (.int p2), (.long k1), (.long k2), (.int nd), (.int fl)] ∧ Z.Warmed39 U_.vm ∧ U_.heap = h0) (fun _ _ _ _ _ => True) (fun _ U_ o_ U'_ => ∃ v_ L_, o_ = .returned v_ ∧ Q_law001 Z p1 p2 k1 k2 nd fl h0 n0 v_ U'_.heap L_ ∧ FrameEnd U_ o_ U'_ L_ 3 35) := by
  refine MetFree.of_bodySF (plainFor_of_name pn_1) hisR ?_
  intro pP eE sS mM argsA below meth cC s₁ Bd hml0 hP hK
  obtain ⟨rfl, hZ, hh⟩ := hP
  have hx := Bd.exec
  have hby := Bd.bytes
  have hml : cC.maxLocals = 16 := hml0
  have hown : sS.vm.findClass "com/example/greenweft/greenweft/steiner/NodeHeapIsEmptyPinLaw" = some mM.cls := findClass_of_methodNamed Bd.named
  have hnm := (name_of_methodNamed Bd.named Bd.method).1
  have X0 : Stand pP l eE room_1 sS mM #[(.int p1), (.int p2), (.long k1), (.long k2), (.int nd), (.int fl)] below meth cC s₁ [] 0 0 := Stand.of_body Bd
  have e0 : s₁.heap = h0 := by rw [← hh, Bd.state]; rfl
  have N0 := Fr.nil n0
  have pre0 : ∀ t_, Steps pP.tables eE below (s₁.setTop (mkF mM 0 #[.val (.int p1), .val (.int p2), .val (.long k1), .second, .val (.long k2), .second, .val (.int nd), .val (.int fl), .unset, .unset, .unset, .unset, .unset, .unset, .unset, .unset] [])) t_ → Steps pP.tables eE below (s₁.setTop (entryFrame mM #[(.int p1), (.int p2), (.long k1), (.long k2), (.int nd), (.int fl)] maxLocals)) t_ := fun t_ k_ => castTop (ef_law001 mM p1 p2 k1 k2 nd fl) k_
  obtain ⟨T_1, h_1, X_1, e_1, E_1, A_1, D_1, -, st_1⟩ := newO X0 hx hZ hown (ow hw 1 rfl) (ow hw 2 rfl) (ow hw 3 rfl) e0 (g := (mkF mM 30 (lc14 p1 p2 k1 k2 nd fl) [])) rfl (hb hby at_30) (by decide) (by decide)
  obtain ⟨b_1, g_1⟩ : ∃ z, z = h0.size := ⟨_, rfl⟩
  rw [← g_1] at A_1 D_1 st_1
  have g_b_1 : n0 ≤ b_1 := Nat.le_trans Z0 (Nat.le_of_eq g_1.symm)
  have sz_b_1 : h0.size ≤ b_1 := Nat.le_trans (Keep.refl h0 []).1 (Nat.le_of_eq g_1.symm)
  have Z_1 : n0 ≤ h_1.size := (Nat.le_trans Z0 E_1.1)
  have K_1 : Keep h0 h_1 [] := (Keep.refl h0 []).ext E_1
  have F_keys_b_1__1 : Fld Z h_1 b_1 "com/example/greenweft/greenweft/steiner/NodeHeap" "keys" "[J" .null := D_1 (Or.inl (ow hw 12 rfl)) (ty := (.array .long)) (by decide)
  have F_nodes_b_1__1 : Fld Z h_1 b_1 "com/example/greenweft/greenweft/steiner/NodeHeap" "nodes" "[I" .null := D_1 (Or.inl (ow hw 15 rfl)) (ty := (.array .int)) (by decide)
  have F_size_b_1__1 : Fld Z h_1 b_1 "com/example/greenweft/greenweft/steiner/NodeHeap" "size" "I" (.int (0 : Int32)) := D_1 (Or.inl (ow hw 22 rfl)) (ty := .int) (by decide)
  obtain ⟨_, _, ⟨T_2, L_2, k_2, n_2⟩, -, X_2, ⟨Lc_2, hQ_2, l_2, y_2, z_2⟩, st_2⟩ := X_1.specialBack hx (y := MN3) rfl hown (mvT hZ (ow hw 4 rfl)) (mvT hZ (ow hw 5 rfl)) (mvT hZ (ow hw 6 rfl)) (by decide) (backOf (W := 1) (rm_init l Z a0 hw [] b_1 h_1 n0 Z_1 F_keys_b_1__1 F_nodes_b_1__1 F_size_b_1__1 A_1 g_b_1) hZ (ow hw 6 rfl) (ow hw 3 rfl) (by decide) (by decide)) (g := (mkF mM 34 (lc14 p1 p2 k1 k2 nd fl) [(.ref b_1), (.ref b_1)])) rfl (by rw [hml]; rfl) (Steps.refl _) (a := b_1) (argsL := []) (rest := [(.ref b_1)]) (lenOf pd_3 rfl) rfl (by show 2 * 0 + _ ≤ _; exact Nat.le_of_eq rfl) (hb hby at_34) (fun _ _ => ⟨rfl, e_1, (by decide : 1 + 2 ≤ _), (by decide : 3 + 32 ≤ _)⟩)
  dsimp only [Pt.U, Pt.locs, Pt.cells, Pt.slots] at X_2 l_2 y_2 z_2 st_2 hQ_2
  subst l_2 y_2 z_2
  obtain ⟨d__2, ⟨g__2, ⟨kd__2, ⟨kg__2, ⟨rfl, N_2q, Kc_2, pfsz_d_2, pfsz_g_2, pfndg_2, pfE_a_2, pfF_keys_a_2, pfF_nodes_a_2, pfF_size_a_2, pfV_d_2, pfV_g_2⟩⟩⟩⟩⟩ := hQ_2
  have Z_2 : n0 ≤ T_2.heap.size := (Nat.le_trans Z_1 Kc_2.1)
  have K_2 : Keep h0 T_2.heap [] := K_1.trans Kc_2 (allS (Or.inr sz_b_1) all0)
  have sz_d__2 : h0.size ≤ d__2 := Nat.le_trans K_1.1 pfsz_d_2
  have g_d__2 : n0 ≤ d__2 := Nat.le_trans Z_1 pfsz_d_2
  have sz_g__2 : h0.size ≤ g__2 := Nat.le_trans K_1.1 pfsz_g_2
  have g_g__2 : n0 ≤ g__2 := Nat.le_trans Z_1 pfsz_g_2
  have N_2 := Fr.app N0 N_2q
  obtain ⟨cq_3, kq_3, q_3a, q_3b, q_3c⟩ := isOf hZ rfl pfE_a_2
  obtain ⟨_, _, ⟨T_3, L_3, k_3, n_3⟩, -, X_3, ⟨Lc_3, hQ_3, l_3, y_3, z_3⟩, st_3⟩ := X_2.virtualBack hx (y := MN1) (z := MN1) hown (mvT hZ (ow hw 16 rfl)) (mvT hZ (ow hw 17 rfl)) (notFace_of_selects (args := #[]) (mvT hZ (ow hw 19 rfl))) (mvT hZ (ow hw 19 rfl)) (mvT hZ (ow hw 18 rfl)) (by decide) (backOf (W := 0) (rm_ie0 l Z a0 hw [] b_1 T_2.heap n0 Z_2 pfF_size_a_2) hZ (ow hw 20 rfl) (ow hw 3 rfl) (by decide) (by decide)) q_3a q_3c (g := (mkF mM 41 (lc15 p1 p2 k1 k2 nd fl b_1) [(.ref b_1)])) rfl (by rw [hml]; rfl) (Steps.refl _) (argsL := []) (rest := []) (lenOf pd_1 rfl) rfl (by show 2 * 0 + _ ≤ _; exact Nat.le_of_eq rfl) (hb hby at_41) (fun _ _ => ⟨rfl, rfl, (by decide : 3 + 0 ≤ _), (by decide : 35 + 0 ≤ _)⟩)
  dsimp only [Pt.U, Pt.locs, Pt.cells, Pt.slots] at X_3 l_3 y_3 z_3 st_3 hQ_3
  subst l_3 y_3 z_3
  obtain ⟨rfl, N_3q, eh_3⟩ := hQ_3
  have N_3 := Fr.app N_2 N_3q
  obtain ⟨cq_4, kq_4, q_4a, q_4b, q_4c⟩ := isOf hZ eh_3 pfE_a_2
  obtain ⟨_, _, ⟨T_4, L_4, k_4, n_4⟩, -, X_4, ⟨Lc_4, hQ_4, l_4, y_4, z_4⟩, st_4⟩ := X_3.virtualBack hx (y := MN4) (z := MN4) hown (mvT hZ (ow hw 23 rfl)) (mvT hZ (ow hw 24 rfl)) (notFace_of_selects (args := #[]) (mvT hZ (ow hw 26 rfl))) (mvT hZ (ow hw 26 rfl)) (mvT hZ (ow hw 25 rfl)) (by decide) (backOf (W := 0) (rm_clear l Z a0 hw [] b_1 d__2 g__2 (0 : Int32) T_2.heap n0 Z_2 pfF_size_a_2 pfF_keys_a_2 pfF_nodes_a_2 pfE_a_2 g_b_1) hZ (ow hw 27 rfl) (ow hw 3 rfl) (by decide) (by decide)) q_4a q_4c (g := (mkF mM 139 (lc16 p1 p2 k1 k2 nd fl b_1) [(.ref b_1)])) rfl (by rw [hml]; rfl) (Steps.refl _) (argsL := []) (rest := []) (lenOf pd_3 rfl) rfl (by show 2 * 0 + _ ≤ _; exact Nat.le_of_eq rfl) (hb hby at_139) (fun _ _ => ⟨rfl, eh_3, (by decide : 3 + 0 ≤ _), (by decide : 35 + 0 ≤ _)⟩)
  dsimp only [Pt.U, Pt.locs, Pt.cells, Pt.slots] at X_4 l_4 y_4 z_4 st_4 hQ_4
  subst l_4 y_4 z_4
  obtain ⟨rfl, N_4q, Kc_4, pfF_size_a_4, pfF_keys_a_4, pfF_nodes_a_4, pfE_a_4⟩ := hQ_4
  have Z_4 : n0 ≤ T_4.heap.size := (Nat.le_trans Z_2 Kc_4.1)
  have K_4 : Keep h0 T_4.heap [] := K_2.trans Kc_4 (allS (Or.inr sz_b_1) all0)
  have N_4 := Fr.app N_3 N_4q
  obtain ⟨T_5, h_5, L_5, X_5, e_5, N_5, Kc_5, st_5⟩ := pc_tail0 p1 p2 k1 k2 nd fl (0 : Int32) (0 : Int32) (1 : Int32) b_1 d__2 g__2 kd__2 kg__2 (0 : Int64) (0 : Int64) (0 : Int64) (0 : Int64) (0 : Int32) (0 : Int32) (0 : Int32) (0 : Int32) X_4 hx hZ hw hby hml hown rfl N_4 Z_4 pfF_size_a_4 pfF_keys_a_4 pfF_nodes_a_4 pfE_a_4 g_b_1 g_d__2 g_g__2 (pfV_d_2.keep Kc_4 (ninS (Ne.symm (Nat.ne_of_lt (Nat.lt_of_lt_of_le A_1.lt pfsz_d_2))) nin0)) (pfV_g_2.keep Kc_4 (ninS (Ne.symm (Nat.ne_of_lt (Nat.lt_of_lt_of_le A_1.lt pfsz_g_2))) nin0)) pfndg_2 (Nat.ne_of_lt (Nat.lt_of_lt_of_le A_1.lt pfsz_d_2)) (Nat.ne_of_lt (Nat.lt_of_lt_of_le A_1.lt pfsz_g_2))
  have Z_5 : n0 ≤ h_5.size := (Nat.le_trans Z_4 Kc_5.1)
  have K_5 : Keep h0 h_5 [] := K_4.trans Kc_5 (allS (Or.inr sz_b_1) (allS (Or.inr sz_d__2) (allS (Or.inr sz_g__2) all0)))
  obtain ⟨fs, hr, hrun, hended, hW, hsame⟩ := X_5.leave (v := some (.int (1 : Int32))) (fun h => by rw [Bd.returns] at h; cases h)
  refine ⟨_, _, pre0 _ ?_, hrun, hended, _, _, rfl, ?_, ⟨_, rfl⟩, hW, hsame.mono (by decide) (by decide)⟩
  · show oS pP eE below s₁ (mkF mM 0 (lc6 p1 p2 k1 k2 nd fl) []) _
    refine XS.iloadN X0.here hx rfl (hb hby at_0) rfl ?_
    refine XS.iconst X0.here hx rfl (hb hby at_1) ?_
    show oS pP eE below s₁ (mkF mM 2 (lc6 p1 p2 k1 k2 nd fl) [(.int (3 : Int32)), (.int p1)]) _
    refine XS.iand X0.here hx rfl (hb hby at_2) rfl ?_
    show oS pP eE below s₁ (mkF mM 3 (lc6 p1 p2 k1 k2 nd fl) [(.int (p1 &&& (3 : Int32)))]) _
    rw [hn]
    refine XS.istore X0.here hx rfl (hb hby at_3) rfl (l' := (lc7 p1 p2 k1 k2 nd fl)) rfl ?_
    refine XS.iloadN X0.here hx rfl (hb hby at_5) rfl ?_
    show oS pP eE below s₁ (mkF mM 6 (lc7 p1 p2 k1 k2 nd fl) [(.int p2)]) _
    refine X0.ldcI hx hown (mvT hZ (ow hw 0 rfl)) (g := (mkF mM 6 (lc7 p1 p2 k1 k2 nd fl) [(.int p2)])) rfl (hb hby at_6) ?_
    show oS pP eE below s₁ (mkF mM 8 (lc7 p1 p2 k1 k2 nd fl) [(.int (2147483647 : Int32)), (.int p2)]) _
    refine XS.iand X0.here hx rfl (hb hby at_8) rfl ?_
    refine XS.iload X0.here hx rfl (hb hby at_9) rfl ?_
    refine XS.iconst X0.here hx rfl (hb hby at_11) ?_
    show oS pP eE below s₁ (mkF mM 12 (lc7 p1 p2 k1 k2 nd fl) [(.int (1 : Int32)), (.int (0 : Int32)), (.int (p2 &&& (2147483647 : Int32)))]) _
    refine XS.iadd X0.here hx rfl (hb hby at_12) rfl ?_
    show oS pP eE below s₁ (mkF mM 13 (lc7 p1 p2 k1 k2 nd fl) [(.int ((0 : Int32) + (1 : Int32))), (.int (p2 &&& (2147483647 : Int32)))]) _
    rw [(by decide : ((0 : Int32) + (1 : Int32)) = (1 : Int32))]
    show oS pP eE below s₁ (mkF mM 13 (lc7 p1 p2 k1 k2 nd fl) [(.int (1 : Int32)), (.int (p2 &&& (2147483647 : Int32)))]) _
    refine iremM X0 hx rfl (hb hby at_13) rfl (by decide) ?_
    show oS pP eE below s₁ (mkF mM 14 (lc7 p1 p2 k1 k2 nd fl) [(.int ((p2 &&& (2147483647 : Int32)) % (1 : Int32)))]) _
    rw [ht]
    refine XS.istore X0.here hx rfl (hb hby at_14) rfl (l' := (lc8 p1 p2 k1 k2 nd fl)) rfl ?_
    refine XS.iload X0.here hx rfl (hb hby at_16) rfl ?_
    refine XS.iconst X0.here hx rfl (hb hby at_18) ?_
    show oS pP eE below s₁ (mkF mM 19 (lc8 p1 p2 k1 k2 nd fl) [(.int (1 : Int32)), (.int fl)]) _
    refine XS.iand X0.here hx rfl (hb hby at_19) rfl ?_
    refine XS.ifNo X0.here hx rfl (hb hby at_20) rfl (XT.i0_eq_f hc) ?_
    refine XS.iconst X0.here hx rfl (hb hby at_23) ?_
    refine XS.goto X0.here hx rfl (pc0 := 24) (pc' := 28) rfl (hb hby at_24) (by decide) (by decide) ?_
    refine XS.istore X0.here hx rfl (hb hby at_28) rfl (l' := (lc14 p1 p2 k1 k2 nd fl)) rfl ?_
    show oS pP eE below s₁ (mkF mM 30 (lc14 p1 p2 k1 k2 nd fl) []) _
    refine st_1 _ ?_
    show oS pP eE below T_1 (mkF mM 33 (lc14 p1 p2 k1 k2 nd fl) [(.ref b_1)]) _
    refine XS.dup X_1.here hx rfl (hb hby at_33) rfl rfl ?_
    show oS pP eE below T_1 (mkF mM 34 (lc14 p1 p2 k1 k2 nd fl) [(.ref b_1), (.ref b_1)]) _
    refine st_2.trans ?_
    show oS pP eE below T_2 (mkF mM 37 (lc14 p1 p2 k1 k2 nd fl) [(.ref b_1)]) _
    refine XS.astore X_2.here hx rfl (hb hby at_37) rfl rfl (l' := (lc15 p1 p2 k1 k2 nd fl b_1)) rfl ?_
    refine XS.aload X_2.here hx rfl (hb hby at_39) rfl rfl ?_
    show oS pP eE below T_2 (mkF mM 41 (lc15 p1 p2 k1 k2 nd fl b_1) [(.ref b_1)]) _
    refine st_3.trans ?_
    show oS pP eE below T_3 (mkF mM 44 (lc15 p1 p2 k1 k2 nd fl b_1) [(.int (1 : Int32))]) _
    refine XS.istore X_3.here hx rfl (hb hby at_44) rfl (l' := (lc16 p1 p2 k1 k2 nd fl b_1)) rfl ?_
    refine XS.iload X_3.here hx rfl (hb hby at_46) rfl ?_
    refine XS.iconst X_3.here hx rfl (hb hby at_48) ?_
    refine XS.icmpYes X_3.here hx rfl (pc0 := 49) (pc' := 60) rfl (hb hby at_49) rfl (by decide) (by decide) (by decide) ?_
    refine XS.iload X_3.here hx rfl (hb hby at_60) rfl ?_
    refine XS.iconst X_3.here hx rfl (hb hby at_62) ?_
    refine XS.icmpYes X_3.here hx rfl (pc0 := 63) (pc' := 77) rfl (hb hby at_63) rfl (by decide) (by decide) (by decide) ?_
    refine XS.iload X_3.here hx rfl (hb hby at_77) rfl ?_
    show oS pP eE below T_3 (mkF mM 79 (lc16 p1 p2 k1 k2 nd fl b_1) [(.int (0 : Int32))]) _
    refine XS.iconst X_3.here hx rfl (hb hby at_79) ?_
    refine XS.icmpYes X_3.here hx rfl (pc0 := 80) (pc' := 96) rfl (hb hby at_80) rfl (by decide) (by decide) (by decide) ?_
    refine XS.iload X_3.here hx rfl (hb hby at_96) rfl ?_
    refine XS.iconst X_3.here hx rfl (hb hby at_98) ?_
    refine XS.icmpYes X_3.here hx rfl (pc0 := 99) (pc' := 108) rfl (hb hby at_99) rfl (by decide) (by decide) (by decide) ?_
    refine XS.iload X_3.here hx rfl (hb hby at_108) rfl ?_
    refine XS.iconst X_3.here hx rfl (hb hby at_110) ?_
    refine XS.icmpYes X_3.here hx rfl (pc0 := 111) (pc' := 120) rfl (hb hby at_111) rfl (by decide) (by decide) (by decide) ?_
    show oS pP eE below T_3 (mkF mM 120 (lc16 p1 p2 k1 k2 nd fl b_1) []) _
    refine XS.iload X_3.here hx rfl (hb hby at_120) rfl ?_
    refine XS.iconst X_3.here hx rfl (hb hby at_122) ?_
    refine XS.icmpYes X_3.here hx rfl (pc0 := 123) (pc' := 132) rfl (hb hby at_123) rfl (by decide) (by decide) (by decide) ?_
    refine XS.iload X_3.here hx rfl (hb hby at_132) rfl ?_
    refine XS.ifNo X_3.here hx rfl (hb hby at_134) rfl (by decide) ?_
    refine XS.aload X_3.here hx rfl (hb hby at_137) rfl rfl ?_
    show oS pP eE below T_3 (mkF mM 139 (lc16 p1 p2 k1 k2 nd fl b_1) [(.ref b_1)]) _
    refine st_4.trans ?_
    show oS pP eE below T_4 (mkF mM 142 (lc16 p1 p2 k1 k2 nd fl b_1) []) _
    refine XS.iload X_4.here hx rfl (hb hby at_142) rfl ?_
    refine XS.ifYes X_4.here hx rfl (pc0 := 144) (pc' := 155) rfl (hb hby at_144) rfl (by decide) (by decide) (by decide) ?_
    refine XS.iconst X_4.here hx rfl (hb hby at_155) ?_
    refine XS.goto X_4.here hx rfl (pc0 := 156) (pc' := 160) rfl (hb hby at_156) (by decide) (by decide) ?_
    refine XS.istore X_4.here hx rfl (hb hby at_160) rfl (l' := (lc17 p1 p2 k1 k2 nd fl b_1)) rfl ?_
    show oS pP eE below T_4 (mkF mM 162 (lc17 p1 p2 k1 k2 nd fl b_1) []) _
    refine st_5 _ ?_
    show oS pP eE below T_5 (mkF mM 207 (lc18 p1 p2 k1 k2 nd fl b_1) [(.int (1 : Int32))]) _
    exact retN X_5 hx (t := .boolean) Bd.returns (by simp) (hb hby at_207) hr
  · show Q_law001 Z p1 p2 k1 k2 nd fl h0 n0 _ T_5.heap _
    exact ⟨rfl, N_5⟩
abbrev lc19 (p1 : Int32) (p2 : Int32) (k1 : Int64) (k2 : Int64) (nd : Int32) (fl : Int32) : Array Slot := #[.val (.int p1), .val (.int p2), .val (.long k1), .second, .val (.long k2), .second, .val (.int nd), .val (.int fl), .val (.int (1 : Int32)), .unset, .unset, .unset, .unset, .unset, .unset, .unset]
abbrev lc20 (p1 : Int32) (p2 : Int32) (k1 : Int64) (k2 : Int64) (nd : Int32) (fl : Int32) : Array Slot := #[.val (.int p1), .val (.int p2), .val (.long k1), .second, .val (.long k2), .second, .val (.int nd), .val (.int fl), .val (.int (1 : Int32)), .val (.int (0 : Int32)), .unset, .unset, .unset, .unset, .unset, .unset]
abbrev lc21 (p1 : Int32) (p2 : Int32) (k1 : Int64) (k2 : Int64) (nd : Int32) (fl : Int32) : Array Slot := #[.val (.int p1), .val (.int p2), .val (.long k1), .second, .val (.long k2), .second, .val (.int nd), .val (.int fl), .val (.int (1 : Int32)), .val (.int (0 : Int32)), .val (.int (0 : Int32)), .unset, .unset, .unset, .unset, .unset]
abbrev lc22 (p1 : Int32) (p2 : Int32) (k1 : Int64) (k2 : Int64) (nd : Int32) (fl : Int32) (b_1 : Addr) : Array Slot := #[.val (.int p1), .val (.int p2), .val (.long k1), .second, .val (.long k2), .second, .val (.int nd), .val (.int fl), .val (.int (1 : Int32)), .val (.int (0 : Int32)), .val (.int (0 : Int32)), .val (.ref b_1), .unset, .unset, .unset, .unset]
abbrev lc23 (p1 : Int32) (p2 : Int32) (k1 : Int64) (k2 : Int64) (nd : Int32) (fl : Int32) (b_1 : Addr) : Array Slot := #[.val (.int p1), .val (.int p2), .val (.long k1), .second, .val (.long k2), .second, .val (.int nd), .val (.int fl), .val (.int (1 : Int32)), .val (.int (0 : Int32)), .val (.int (0 : Int32)), .val (.ref b_1), .val (.int (1 : Int32)), .unset, .unset, .unset]
abbrev lc24 (p1 : Int32) (p2 : Int32) (k1 : Int64) (k2 : Int64) (nd : Int32) (fl : Int32) (b_1 : Addr) : Array Slot := #[.val (.int p1), .val (.int p2), .val (.long k1), .second, .val (.long k2), .second, .val (.int nd), .val (.int fl), .val (.int (1 : Int32)), .val (.int (0 : Int32)), .val (.int (0 : Int32)), .val (.ref b_1), .val (.int (1 : Int32)), .val (.int (0 : Int32)), .unset, .unset]
abbrev lc25 (p1 : Int32) (p2 : Int32) (k1 : Int64) (k2 : Int64) (nd : Int32) (fl : Int32) (b_1 : Addr) : Array Slot := #[.val (.int p1), .val (.int p2), .val (.long k1), .second, .val (.long k2), .second, .val (.int nd), .val (.int fl), .val (.int (1 : Int32)), .val (.int (0 : Int32)), .val (.int (0 : Int32)), .val (.ref b_1), .val (.int (1 : Int32)), .val (.int (0 : Int32)), .val (.int (0 : Int32)), .val (.int (0 : Int32))]
theorem ef_law100 (mM : MethodId) (x0 : Int32) (x1 : Int32) (x2 : Int64) (x3 : Int64) (x4 : Int32) (x5 : Int32) : entryFrame mM #[(.int x0), (.int x1), (.long x2), (.long x3), (.int x4), (.int x5)] maxLocals = mkF mM 0 #[.val (.int x0), .val (.int x1), .val (.long x2), .second, .val (.long x3), .second, .val (.int x4), .val (.int x5), .unset, .unset, .unset, .unset, .unset, .unset, .unset, .unset] [] := by first | (simp [entryFrame, mkF, argsToLocals, Value.category, maxLocals]; done) | rfl
def Q_law100 (Z : State) (p1 : Int32) (p2 : Int32) (k1 : Int64) (k2 : Int64) (nd : Int32) (fl : Int32) (h0 : Heap) (n0 : Nat) (v_ : Option Value) (h_ : Heap) (L_ : List Loc) : Prop := v_ = some (.int (1 : Int32)) ∧ Fr n0 L_
set_option maxRecDepth 65536 in
set_option maxHeartbeats 40000000 in
theorem rm_law100 (l : Launch) (Z : State) (a0 : Array Value) (hw : ∀ d ∈ tables_1, d.before a0 Z = true) (ws : List Jvm.Cond) (p1 : Int32) (p2 : Int32) (k1 : Int64) (k2 : Int64) (nd : Int32) (fl : Int32) (h0 : Heap) (n0 : Nat) (Z0 : n0 ≤ h0.size) (hn : (p1 &&& (3 : Int32)) = (1 : Int32)) (ht : ((p2 &&& (2147483647 : Int32)) % (2 : Int32)) = (0 : Int32)) (hc : (fl &&& (1 : Int32)) = 0) :
    MetFree l x (head1 (Jvm.Cond.code x code maxLocals ret :: ws) room_1) (fun aa_ U_ => aa_ = #[(.int p1), (.int p2), (.long k1), (.long k2), (.int nd), (.int fl)] ∧ Z.Warmed39 U_.vm ∧ U_.heap = h0) (fun _ _ _ _ _ => True) (fun _ U_ o_ U'_ => ∃ v_ L_, o_ = .returned v_ ∧ Q_law100 Z p1 p2 k1 k2 nd fl h0 n0 v_ U'_.heap L_ ∧ FrameEnd U_ o_ U'_ L_ 3 35) := by
  refine MetFree.of_bodySF (plainFor_of_name pn_1) hisR ?_
  intro pP eE sS mM argsA below meth cC s₁ Bd hml0 hP hK
  obtain ⟨rfl, hZ, hh⟩ := hP
  have hx := Bd.exec
  have hby := Bd.bytes
  have hml : cC.maxLocals = 16 := hml0
  have hown : sS.vm.findClass "com/example/greenweft/greenweft/steiner/NodeHeapIsEmptyPinLaw" = some mM.cls := findClass_of_methodNamed Bd.named
  have hnm := (name_of_methodNamed Bd.named Bd.method).1
  have X0 : Stand pP l eE room_1 sS mM #[(.int p1), (.int p2), (.long k1), (.long k2), (.int nd), (.int fl)] below meth cC s₁ [] 0 0 := Stand.of_body Bd
  have e0 : s₁.heap = h0 := by rw [← hh, Bd.state]; rfl
  have N0 := Fr.nil n0
  have pre0 : ∀ t_, Steps pP.tables eE below (s₁.setTop (mkF mM 0 #[.val (.int p1), .val (.int p2), .val (.long k1), .second, .val (.long k2), .second, .val (.int nd), .val (.int fl), .unset, .unset, .unset, .unset, .unset, .unset, .unset, .unset] [])) t_ → Steps pP.tables eE below (s₁.setTop (entryFrame mM #[(.int p1), (.int p2), (.long k1), (.long k2), (.int nd), (.int fl)] maxLocals)) t_ := fun t_ k_ => castTop (ef_law100 mM p1 p2 k1 k2 nd fl) k_
  obtain ⟨T_1, h_1, X_1, e_1, E_1, A_1, D_1, -, st_1⟩ := newO X0 hx hZ hown (ow hw 1 rfl) (ow hw 2 rfl) (ow hw 3 rfl) e0 (g := (mkF mM 30 (lc21 p1 p2 k1 k2 nd fl) [])) rfl (hb hby at_30) (by decide) (by decide)
  obtain ⟨b_1, g_1⟩ : ∃ z, z = h0.size := ⟨_, rfl⟩
  rw [← g_1] at A_1 D_1 st_1
  have g_b_1 : n0 ≤ b_1 := Nat.le_trans Z0 (Nat.le_of_eq g_1.symm)
  have sz_b_1 : h0.size ≤ b_1 := Nat.le_trans (Keep.refl h0 []).1 (Nat.le_of_eq g_1.symm)
  have Z_1 : n0 ≤ h_1.size := (Nat.le_trans Z0 E_1.1)
  have K_1 : Keep h0 h_1 [] := (Keep.refl h0 []).ext E_1
  have F_keys_b_1__1 : Fld Z h_1 b_1 "com/example/greenweft/greenweft/steiner/NodeHeap" "keys" "[J" .null := D_1 (Or.inl (ow hw 12 rfl)) (ty := (.array .long)) (by decide)
  have F_nodes_b_1__1 : Fld Z h_1 b_1 "com/example/greenweft/greenweft/steiner/NodeHeap" "nodes" "[I" .null := D_1 (Or.inl (ow hw 15 rfl)) (ty := (.array .int)) (by decide)
  have F_size_b_1__1 : Fld Z h_1 b_1 "com/example/greenweft/greenweft/steiner/NodeHeap" "size" "I" (.int (0 : Int32)) := D_1 (Or.inl (ow hw 22 rfl)) (ty := .int) (by decide)
  obtain ⟨_, _, ⟨T_2, L_2, k_2, n_2⟩, -, X_2, ⟨Lc_2, hQ_2, l_2, y_2, z_2⟩, st_2⟩ := X_1.specialBack hx (y := MN3) rfl hown (mvT hZ (ow hw 4 rfl)) (mvT hZ (ow hw 5 rfl)) (mvT hZ (ow hw 6 rfl)) (by decide) (backOf (W := 1) (rm_init l Z a0 hw [] b_1 h_1 n0 Z_1 F_keys_b_1__1 F_nodes_b_1__1 F_size_b_1__1 A_1 g_b_1) hZ (ow hw 6 rfl) (ow hw 3 rfl) (by decide) (by decide)) (g := (mkF mM 34 (lc21 p1 p2 k1 k2 nd fl) [(.ref b_1), (.ref b_1)])) rfl (by rw [hml]; rfl) (Steps.refl _) (a := b_1) (argsL := []) (rest := [(.ref b_1)]) (lenOf pd_3 rfl) rfl (by show 2 * 0 + _ ≤ _; exact Nat.le_of_eq rfl) (hb hby at_34) (fun _ _ => ⟨rfl, e_1, (by decide : 1 + 2 ≤ _), (by decide : 3 + 32 ≤ _)⟩)
  dsimp only [Pt.U, Pt.locs, Pt.cells, Pt.slots] at X_2 l_2 y_2 z_2 st_2 hQ_2
  subst l_2 y_2 z_2
  obtain ⟨d__2, ⟨g__2, ⟨kd__2, ⟨kg__2, ⟨rfl, N_2q, Kc_2, pfsz_d_2, pfsz_g_2, pfndg_2, pfE_a_2, pfF_keys_a_2, pfF_nodes_a_2, pfF_size_a_2, pfV_d_2, pfV_g_2⟩⟩⟩⟩⟩ := hQ_2
  have Z_2 : n0 ≤ T_2.heap.size := (Nat.le_trans Z_1 Kc_2.1)
  have K_2 : Keep h0 T_2.heap [] := K_1.trans Kc_2 (allS (Or.inr sz_b_1) all0)
  have sz_d__2 : h0.size ≤ d__2 := Nat.le_trans K_1.1 pfsz_d_2
  have g_d__2 : n0 ≤ d__2 := Nat.le_trans Z_1 pfsz_d_2
  have sz_g__2 : h0.size ≤ g__2 := Nat.le_trans K_1.1 pfsz_g_2
  have g_g__2 : n0 ≤ g__2 := Nat.le_trans Z_1 pfsz_g_2
  have N_2 := Fr.app N0 N_2q
  obtain ⟨cq_3, kq_3, q_3a, q_3b, q_3c⟩ := isOf hZ rfl pfE_a_2
  obtain ⟨_, _, ⟨T_3, L_3, k_3, n_3⟩, -, X_3, ⟨Lc_3, hQ_3, l_3, y_3, z_3⟩, st_3⟩ := X_2.virtualBack hx (y := MN1) (z := MN1) hown (mvT hZ (ow hw 16 rfl)) (mvT hZ (ow hw 17 rfl)) (notFace_of_selects (args := #[]) (mvT hZ (ow hw 19 rfl))) (mvT hZ (ow hw 19 rfl)) (mvT hZ (ow hw 18 rfl)) (by decide) (backOf (W := 0) (rm_ie0 l Z a0 hw [] b_1 T_2.heap n0 Z_2 pfF_size_a_2) hZ (ow hw 20 rfl) (ow hw 3 rfl) (by decide) (by decide)) q_3a q_3c (g := (mkF mM 41 (lc22 p1 p2 k1 k2 nd fl b_1) [(.ref b_1)])) rfl (by rw [hml]; rfl) (Steps.refl _) (argsL := []) (rest := []) (lenOf pd_1 rfl) rfl (by show 2 * 0 + _ ≤ _; exact Nat.le_of_eq rfl) (hb hby at_41) (fun _ _ => ⟨rfl, rfl, (by decide : 3 + 0 ≤ _), (by decide : 35 + 0 ≤ _)⟩)
  dsimp only [Pt.U, Pt.locs, Pt.cells, Pt.slots] at X_3 l_3 y_3 z_3 st_3 hQ_3
  subst l_3 y_3 z_3
  obtain ⟨rfl, N_3q, eh_3⟩ := hQ_3
  have N_3 := Fr.app N_2 N_3q
  obtain ⟨cq_4, kq_4, q_4a, q_4b, q_4c⟩ := isOf hZ eh_3 pfE_a_2
  obtain ⟨_, _, ⟨T_4, L_4, k_4, n_4⟩, -, X_4, ⟨Lc_4, hQ_4, l_4, y_4, z_4⟩, st_4⟩ := X_3.virtualBack hx (y := MN2) (z := MN2) hown (mvT hZ (ow hw 28 rfl)) (mvT hZ (ow hw 29 rfl)) (notFace_of_selects (args := #[]) (mvT hZ (ow hw 31 rfl))) (mvT hZ (ow hw 31 rfl)) (mvT hZ (ow hw 30 rfl)) (by decide) (backOf (W := 0) (rm_add0 l Z a0 hw [] b_1 d__2 g__2 kd__2 kg__2 k1 nd (0 : Int64) (0 : Int64) (0 : Int64) (0 : Int64) (0 : Int32) (0 : Int32) (0 : Int32) (0 : Int32) T_2.heap n0 Z_2 pfF_size_a_2 pfF_keys_a_2 pfF_nodes_a_2 pfE_a_2 g_b_1 g_d__2 g_g__2 pfV_d_2 pfV_g_2 pfndg_2 (Nat.ne_of_lt (Nat.lt_of_lt_of_le A_1.lt pfsz_d_2)) (Nat.ne_of_lt (Nat.lt_of_lt_of_le A_1.lt pfsz_g_2))) hZ (ow hw 32 rfl) (ow hw 3 rfl) (by decide) (by decide)) q_4a q_4c (g := (mkF mM 57 (lc23 p1 p2 k1 k2 nd fl b_1) [(.int nd), (.long k1), (.ref b_1)])) rfl (by rw [hml]; rfl) (Steps.refl _) (argsL := [(.long k1), (.int nd)]) (rest := []) (lenOf pd_2 rfl) rfl (by show 2 * 0 + _ ≤ _; exact Nat.le_of_eq rfl) (hb hby at_57) (fun _ _ => ⟨rfl, eh_3, (by decide : 3 + 0 ≤ _), (by decide : 35 + 0 ≤ _)⟩)
  dsimp only [Pt.U, Pt.locs, Pt.cells, Pt.slots] at X_4 l_4 y_4 z_4 st_4 hQ_4
  subst l_4 y_4 z_4
  obtain ⟨u0__4, ⟨u1__4, ⟨u2__4, ⟨u3__4, ⟨v0__4, ⟨v1__4, ⟨v2__4, ⟨v3__4, ⟨rfl, N_4q, Kc_4, pfF_size_a_4, pfF_keys_a_4, pfF_nodes_a_4, pfE_a_4, pfV_d_4, pfV_g_4⟩⟩⟩⟩⟩⟩⟩⟩⟩ := hQ_4
  have Z_4 : n0 ≤ T_4.heap.size := (Nat.le_trans Z_2 Kc_4.1)
  have K_4 : Keep h0 T_4.heap [] := K_2.trans Kc_4 (allS (Or.inr sz_b_1) (allS (Or.inr sz_d__2) (allS (Or.inr sz_g__2) all0)))
  have N_4 := Fr.app N_3 N_4q
  obtain ⟨T_5, h_5, L_5, X_5, e_5, N_5, Kc_5, st_5⟩ := pc_tail1 p1 p2 k1 k2 nd fl (1 : Int32) (0 : Int32) (0 : Int32) b_1 d__2 g__2 kd__2 kg__2 u0__4 u1__4 u2__4 u3__4 v0__4 v1__4 v2__4 v3__4 X_4 hx hZ hw hby hml hown rfl N_4 Z_4 pfF_size_a_4 pfF_keys_a_4 pfF_nodes_a_4 pfE_a_4 g_b_1 g_d__2 g_g__2 pfV_d_4 pfV_g_4 pfndg_2 (Nat.ne_of_lt (Nat.lt_of_lt_of_le A_1.lt pfsz_d_2)) (Nat.ne_of_lt (Nat.lt_of_lt_of_le A_1.lt pfsz_g_2))
  have Z_5 : n0 ≤ h_5.size := (Nat.le_trans Z_4 Kc_5.1)
  have K_5 : Keep h0 h_5 [] := K_4.trans Kc_5 (allS (Or.inr sz_b_1) (allS (Or.inr sz_d__2) (allS (Or.inr sz_g__2) all0)))
  obtain ⟨fs, hr, hrun, hended, hW, hsame⟩ := X_5.leave (v := some (.int (1 : Int32))) (fun h => by rw [Bd.returns] at h; cases h)
  refine ⟨_, _, pre0 _ ?_, hrun, hended, _, _, rfl, ?_, ⟨_, rfl⟩, hW, hsame.mono (by decide) (by decide)⟩
  · show oS pP eE below s₁ (mkF mM 0 (lc6 p1 p2 k1 k2 nd fl) []) _
    refine XS.iloadN X0.here hx rfl (hb hby at_0) rfl ?_
    refine XS.iconst X0.here hx rfl (hb hby at_1) ?_
    show oS pP eE below s₁ (mkF mM 2 (lc6 p1 p2 k1 k2 nd fl) [(.int (3 : Int32)), (.int p1)]) _
    refine XS.iand X0.here hx rfl (hb hby at_2) rfl ?_
    show oS pP eE below s₁ (mkF mM 3 (lc6 p1 p2 k1 k2 nd fl) [(.int (p1 &&& (3 : Int32)))]) _
    rw [hn]
    refine XS.istore X0.here hx rfl (hb hby at_3) rfl (l' := (lc19 p1 p2 k1 k2 nd fl)) rfl ?_
    refine XS.iloadN X0.here hx rfl (hb hby at_5) rfl ?_
    show oS pP eE below s₁ (mkF mM 6 (lc19 p1 p2 k1 k2 nd fl) [(.int p2)]) _
    refine X0.ldcI hx hown (mvT hZ (ow hw 0 rfl)) (g := (mkF mM 6 (lc19 p1 p2 k1 k2 nd fl) [(.int p2)])) rfl (hb hby at_6) ?_
    show oS pP eE below s₁ (mkF mM 8 (lc19 p1 p2 k1 k2 nd fl) [(.int (2147483647 : Int32)), (.int p2)]) _
    refine XS.iand X0.here hx rfl (hb hby at_8) rfl ?_
    refine XS.iload X0.here hx rfl (hb hby at_9) rfl ?_
    refine XS.iconst X0.here hx rfl (hb hby at_11) ?_
    show oS pP eE below s₁ (mkF mM 12 (lc19 p1 p2 k1 k2 nd fl) [(.int (1 : Int32)), (.int (1 : Int32)), (.int (p2 &&& (2147483647 : Int32)))]) _
    refine XS.iadd X0.here hx rfl (hb hby at_12) rfl ?_
    show oS pP eE below s₁ (mkF mM 13 (lc19 p1 p2 k1 k2 nd fl) [(.int ((1 : Int32) + (1 : Int32))), (.int (p2 &&& (2147483647 : Int32)))]) _
    rw [(by decide : ((1 : Int32) + (1 : Int32)) = (2 : Int32))]
    show oS pP eE below s₁ (mkF mM 13 (lc19 p1 p2 k1 k2 nd fl) [(.int (2 : Int32)), (.int (p2 &&& (2147483647 : Int32)))]) _
    refine iremM X0 hx rfl (hb hby at_13) rfl (by decide) ?_
    show oS pP eE below s₁ (mkF mM 14 (lc19 p1 p2 k1 k2 nd fl) [(.int ((p2 &&& (2147483647 : Int32)) % (2 : Int32)))]) _
    rw [ht]
    refine XS.istore X0.here hx rfl (hb hby at_14) rfl (l' := (lc20 p1 p2 k1 k2 nd fl)) rfl ?_
    refine XS.iload X0.here hx rfl (hb hby at_16) rfl ?_
    refine XS.iconst X0.here hx rfl (hb hby at_18) ?_
    show oS pP eE below s₁ (mkF mM 19 (lc20 p1 p2 k1 k2 nd fl) [(.int (1 : Int32)), (.int fl)]) _
    refine XS.iand X0.here hx rfl (hb hby at_19) rfl ?_
    refine XS.ifYes X0.here hx rfl (pc0 := 20) (pc' := 27) rfl (hb hby at_20) rfl (XT.i0_eq_t hc) (by decide) (by decide) ?_
    refine XS.iconst X0.here hx rfl (hb hby at_27) ?_
    refine XS.istore X0.here hx rfl (hb hby at_28) rfl (l' := (lc21 p1 p2 k1 k2 nd fl)) rfl ?_
    show oS pP eE below s₁ (mkF mM 30 (lc21 p1 p2 k1 k2 nd fl) []) _
    refine st_1 _ ?_
    show oS pP eE below T_1 (mkF mM 33 (lc21 p1 p2 k1 k2 nd fl) [(.ref b_1)]) _
    refine XS.dup X_1.here hx rfl (hb hby at_33) rfl rfl ?_
    show oS pP eE below T_1 (mkF mM 34 (lc21 p1 p2 k1 k2 nd fl) [(.ref b_1), (.ref b_1)]) _
    refine st_2.trans ?_
    show oS pP eE below T_2 (mkF mM 37 (lc21 p1 p2 k1 k2 nd fl) [(.ref b_1)]) _
    refine XS.astore X_2.here hx rfl (hb hby at_37) rfl rfl (l' := (lc22 p1 p2 k1 k2 nd fl b_1)) rfl ?_
    refine XS.aload X_2.here hx rfl (hb hby at_39) rfl rfl ?_
    show oS pP eE below T_2 (mkF mM 41 (lc22 p1 p2 k1 k2 nd fl b_1) [(.ref b_1)]) _
    refine st_3.trans ?_
    show oS pP eE below T_3 (mkF mM 44 (lc22 p1 p2 k1 k2 nd fl b_1) [(.int (1 : Int32))]) _
    refine XS.istore X_3.here hx rfl (hb hby at_44) rfl (l' := (lc23 p1 p2 k1 k2 nd fl b_1)) rfl ?_
    refine XS.iload X_3.here hx rfl (hb hby at_46) rfl ?_
    refine XS.iconst X_3.here hx rfl (hb hby at_48) ?_
    refine XS.icmpNo X_3.here hx rfl (hb hby at_49) rfl (by decide) ?_
    refine XS.aload X_3.here hx rfl (hb hby at_52) rfl rfl ?_
    refine XT.lloadN X_3.here hx rfl (hb hby at_54) rfl ?_
    refine XS.iload X_3.here hx rfl (hb hby at_55) rfl ?_
    show oS pP eE below T_3 (mkF mM 57 (lc23 p1 p2 k1 k2 nd fl b_1) [(.int nd), (.long k1), (.ref b_1)]) _
    refine st_4.trans ?_
    show oS pP eE below T_4 (mkF mM 60 (lc23 p1 p2 k1 k2 nd fl b_1) []) _
    refine XS.iload X_4.here hx rfl (hb hby at_60) rfl ?_
    refine XS.iconst X_4.here hx rfl (hb hby at_62) ?_
    refine XS.icmpYes X_4.here hx rfl (pc0 := 63) (pc' := 77) rfl (hb hby at_63) rfl (by decide) (by decide) (by decide) ?_
    refine XS.iload X_4.here hx rfl (hb hby at_77) rfl ?_
    refine XS.iconst X_4.here hx rfl (hb hby at_79) ?_
    refine XS.icmpYes X_4.here hx rfl (pc0 := 80) (pc' := 96) rfl (hb hby at_80) rfl (by decide) (by decide) (by decide) ?_
    refine XS.iload X_4.here hx rfl (hb hby at_96) rfl ?_
    refine XS.iconst X_4.here hx rfl (hb hby at_98) ?_
    show oS pP eE below T_4 (mkF mM 99 (lc23 p1 p2 k1 k2 nd fl b_1) [(.int (1 : Int32)), (.int (0 : Int32))]) _
    refine XS.icmpYes X_4.here hx rfl (pc0 := 99) (pc' := 108) rfl (hb hby at_99) rfl (by decide) (by decide) (by decide) ?_
    refine XS.iload X_4.here hx rfl (hb hby at_108) rfl ?_
    refine XS.iconst X_4.here hx rfl (hb hby at_110) ?_
    refine XS.icmpYes X_4.here hx rfl (pc0 := 111) (pc' := 120) rfl (hb hby at_111) rfl (by decide) (by decide) (by decide) ?_
    refine XS.iload X_4.here hx rfl (hb hby at_120) rfl ?_
    refine XS.iconst X_4.here hx rfl (hb hby at_122) ?_
    refine XS.icmpYes X_4.here hx rfl (pc0 := 123) (pc' := 132) rfl (hb hby at_123) rfl (by decide) (by decide) (by decide) ?_
    refine XS.iload X_4.here hx rfl (hb hby at_132) rfl ?_
    show oS pP eE below T_4 (mkF mM 134 (lc23 p1 p2 k1 k2 nd fl b_1) [(.int (0 : Int32))]) _
    refine XS.ifYes X_4.here hx rfl (pc0 := 134) (pc' := 142) rfl (hb hby at_134) rfl (by decide) (by decide) (by decide) ?_
    refine XS.iload X_4.here hx rfl (hb hby at_142) rfl ?_
    refine XS.ifNo X_4.here hx rfl (hb hby at_144) rfl (by decide) ?_
    refine XS.iload X_4.here hx rfl (hb hby at_147) rfl ?_
    refine XS.iload X_4.here hx rfl (hb hby at_149) rfl ?_
    show oS pP eE below T_4 (mkF mM 151 (lc23 p1 p2 k1 k2 nd fl b_1) [(.int (0 : Int32)), (.int (1 : Int32))]) _
    refine XS.isub X_4.here hx rfl (hb hby at_151) rfl ?_
    show oS pP eE below T_4 (mkF mM 152 (lc23 p1 p2 k1 k2 nd fl b_1) [(.int ((1 : Int32) - (0 : Int32)))]) _
    rw [(by decide : ((1 : Int32) - (0 : Int32)) = (1 : Int32))]
    refine XS.ifYes X_4.here hx rfl (pc0 := 152) (pc' := 159) rfl (hb hby at_152) rfl (by decide) (by decide) (by decide) ?_
    refine XS.iconst X_4.here hx rfl (hb hby at_159) ?_
    refine XS.istore X_4.here hx rfl (hb hby at_160) rfl (l' := (lc24 p1 p2 k1 k2 nd fl b_1)) rfl ?_
    show oS pP eE below T_4 (mkF mM 162 (lc24 p1 p2 k1 k2 nd fl b_1) []) _
    refine st_5 _ ?_
    show oS pP eE below T_5 (mkF mM 207 (lc25 p1 p2 k1 k2 nd fl b_1) [(.int (1 : Int32))]) _
    exact retN X_5 hx (t := .boolean) Bd.returns (by simp) (hb hby at_207) hr
  · show Q_law100 Z p1 p2 k1 k2 nd fl h0 n0 _ T_5.heap _
    exact ⟨rfl, N_5⟩
abbrev lc26 (p1 : Int32) (p2 : Int32) (k1 : Int64) (k2 : Int64) (nd : Int32) (fl : Int32) : Array Slot := #[.val (.int p1), .val (.int p2), .val (.long k1), .second, .val (.long k2), .second, .val (.int nd), .val (.int fl), .val (.int (1 : Int32)), .val (.int (0 : Int32)), .val (.int (1 : Int32)), .unset, .unset, .unset, .unset, .unset]
abbrev lc27 (p1 : Int32) (p2 : Int32) (k1 : Int64) (k2 : Int64) (nd : Int32) (fl : Int32) (b_1 : Addr) : Array Slot := #[.val (.int p1), .val (.int p2), .val (.long k1), .second, .val (.long k2), .second, .val (.int nd), .val (.int fl), .val (.int (1 : Int32)), .val (.int (0 : Int32)), .val (.int (1 : Int32)), .val (.ref b_1), .unset, .unset, .unset, .unset]
abbrev lc28 (p1 : Int32) (p2 : Int32) (k1 : Int64) (k2 : Int64) (nd : Int32) (fl : Int32) (b_1 : Addr) : Array Slot := #[.val (.int p1), .val (.int p2), .val (.long k1), .second, .val (.long k2), .second, .val (.int nd), .val (.int fl), .val (.int (1 : Int32)), .val (.int (0 : Int32)), .val (.int (1 : Int32)), .val (.ref b_1), .val (.int (1 : Int32)), .unset, .unset, .unset]
abbrev lc29 (p1 : Int32) (p2 : Int32) (k1 : Int64) (k2 : Int64) (nd : Int32) (fl : Int32) (b_1 : Addr) : Array Slot := #[.val (.int p1), .val (.int p2), .val (.long k1), .second, .val (.long k2), .second, .val (.int nd), .val (.int fl), .val (.int (1 : Int32)), .val (.int (0 : Int32)), .val (.int (1 : Int32)), .val (.ref b_1), .val (.int (1 : Int32)), .val (.int (1 : Int32)), .unset, .unset]
abbrev lc30 (p1 : Int32) (p2 : Int32) (k1 : Int64) (k2 : Int64) (nd : Int32) (fl : Int32) (b_1 : Addr) : Array Slot := #[.val (.int p1), .val (.int p2), .val (.long k1), .second, .val (.long k2), .second, .val (.int nd), .val (.int fl), .val (.int (1 : Int32)), .val (.int (0 : Int32)), .val (.int (1 : Int32)), .val (.ref b_1), .val (.int (1 : Int32)), .val (.int (1 : Int32)), .val (.int (1 : Int32)), .val (.int (0 : Int32))]
theorem ef_law101 (mM : MethodId) (x0 : Int32) (x1 : Int32) (x2 : Int64) (x3 : Int64) (x4 : Int32) (x5 : Int32) : entryFrame mM #[(.int x0), (.int x1), (.long x2), (.long x3), (.int x4), (.int x5)] maxLocals = mkF mM 0 #[.val (.int x0), .val (.int x1), .val (.long x2), .second, .val (.long x3), .second, .val (.int x4), .val (.int x5), .unset, .unset, .unset, .unset, .unset, .unset, .unset, .unset] [] := by first | (simp [entryFrame, mkF, argsToLocals, Value.category, maxLocals]; done) | rfl
def Q_law101 (Z : State) (p1 : Int32) (p2 : Int32) (k1 : Int64) (k2 : Int64) (nd : Int32) (fl : Int32) (h0 : Heap) (n0 : Nat) (v_ : Option Value) (h_ : Heap) (L_ : List Loc) : Prop := v_ = some (.int (1 : Int32)) ∧ Fr n0 L_
set_option maxRecDepth 65536 in
set_option maxHeartbeats 40000000 in
theorem rm_law101 (l : Launch) (Z : State) (a0 : Array Value) (hw : ∀ d ∈ tables_1, d.before a0 Z = true) (ws : List Jvm.Cond) (p1 : Int32) (p2 : Int32) (k1 : Int64) (k2 : Int64) (nd : Int32) (fl : Int32) (h0 : Heap) (n0 : Nat) (Z0 : n0 ≤ h0.size) (hn : (p1 &&& (3 : Int32)) = (1 : Int32)) (ht : ((p2 &&& (2147483647 : Int32)) % (2 : Int32)) = (0 : Int32)) (hc : ¬ (fl &&& (1 : Int32)) = 0) :
    MetFree l x (head1 (Jvm.Cond.code x code maxLocals ret :: ws) room_1) (fun aa_ U_ => aa_ = #[(.int p1), (.int p2), (.long k1), (.long k2), (.int nd), (.int fl)] ∧ Z.Warmed39 U_.vm ∧ U_.heap = h0) (fun _ _ _ _ _ => True) (fun _ U_ o_ U'_ => ∃ v_ L_, o_ = .returned v_ ∧ Q_law101 Z p1 p2 k1 k2 nd fl h0 n0 v_ U'_.heap L_ ∧ FrameEnd U_ o_ U'_ L_ 3 35) := by
  refine MetFree.of_bodySF (plainFor_of_name pn_1) hisR ?_
  intro pP eE sS mM argsA below meth cC s₁ Bd hml0 hP hK
  obtain ⟨rfl, hZ, hh⟩ := hP
  have hx := Bd.exec
  have hby := Bd.bytes
  have hml : cC.maxLocals = 16 := hml0
  have hown : sS.vm.findClass "com/example/greenweft/greenweft/steiner/NodeHeapIsEmptyPinLaw" = some mM.cls := findClass_of_methodNamed Bd.named
  have hnm := (name_of_methodNamed Bd.named Bd.method).1
  have X0 : Stand pP l eE room_1 sS mM #[(.int p1), (.int p2), (.long k1), (.long k2), (.int nd), (.int fl)] below meth cC s₁ [] 0 0 := Stand.of_body Bd
  have e0 : s₁.heap = h0 := by rw [← hh, Bd.state]; rfl
  have N0 := Fr.nil n0
  have pre0 : ∀ t_, Steps pP.tables eE below (s₁.setTop (mkF mM 0 #[.val (.int p1), .val (.int p2), .val (.long k1), .second, .val (.long k2), .second, .val (.int nd), .val (.int fl), .unset, .unset, .unset, .unset, .unset, .unset, .unset, .unset] [])) t_ → Steps pP.tables eE below (s₁.setTop (entryFrame mM #[(.int p1), (.int p2), (.long k1), (.long k2), (.int nd), (.int fl)] maxLocals)) t_ := fun t_ k_ => castTop (ef_law101 mM p1 p2 k1 k2 nd fl) k_
  obtain ⟨T_1, h_1, X_1, e_1, E_1, A_1, D_1, -, st_1⟩ := newO X0 hx hZ hown (ow hw 1 rfl) (ow hw 2 rfl) (ow hw 3 rfl) e0 (g := (mkF mM 30 (lc26 p1 p2 k1 k2 nd fl) [])) rfl (hb hby at_30) (by decide) (by decide)
  obtain ⟨b_1, g_1⟩ : ∃ z, z = h0.size := ⟨_, rfl⟩
  rw [← g_1] at A_1 D_1 st_1
  have g_b_1 : n0 ≤ b_1 := Nat.le_trans Z0 (Nat.le_of_eq g_1.symm)
  have sz_b_1 : h0.size ≤ b_1 := Nat.le_trans (Keep.refl h0 []).1 (Nat.le_of_eq g_1.symm)
  have Z_1 : n0 ≤ h_1.size := (Nat.le_trans Z0 E_1.1)
  have K_1 : Keep h0 h_1 [] := (Keep.refl h0 []).ext E_1
  have F_keys_b_1__1 : Fld Z h_1 b_1 "com/example/greenweft/greenweft/steiner/NodeHeap" "keys" "[J" .null := D_1 (Or.inl (ow hw 12 rfl)) (ty := (.array .long)) (by decide)
  have F_nodes_b_1__1 : Fld Z h_1 b_1 "com/example/greenweft/greenweft/steiner/NodeHeap" "nodes" "[I" .null := D_1 (Or.inl (ow hw 15 rfl)) (ty := (.array .int)) (by decide)
  have F_size_b_1__1 : Fld Z h_1 b_1 "com/example/greenweft/greenweft/steiner/NodeHeap" "size" "I" (.int (0 : Int32)) := D_1 (Or.inl (ow hw 22 rfl)) (ty := .int) (by decide)
  obtain ⟨_, _, ⟨T_2, L_2, k_2, n_2⟩, -, X_2, ⟨Lc_2, hQ_2, l_2, y_2, z_2⟩, st_2⟩ := X_1.specialBack hx (y := MN3) rfl hown (mvT hZ (ow hw 4 rfl)) (mvT hZ (ow hw 5 rfl)) (mvT hZ (ow hw 6 rfl)) (by decide) (backOf (W := 1) (rm_init l Z a0 hw [] b_1 h_1 n0 Z_1 F_keys_b_1__1 F_nodes_b_1__1 F_size_b_1__1 A_1 g_b_1) hZ (ow hw 6 rfl) (ow hw 3 rfl) (by decide) (by decide)) (g := (mkF mM 34 (lc26 p1 p2 k1 k2 nd fl) [(.ref b_1), (.ref b_1)])) rfl (by rw [hml]; rfl) (Steps.refl _) (a := b_1) (argsL := []) (rest := [(.ref b_1)]) (lenOf pd_3 rfl) rfl (by show 2 * 0 + _ ≤ _; exact Nat.le_of_eq rfl) (hb hby at_34) (fun _ _ => ⟨rfl, e_1, (by decide : 1 + 2 ≤ _), (by decide : 3 + 32 ≤ _)⟩)
  dsimp only [Pt.U, Pt.locs, Pt.cells, Pt.slots] at X_2 l_2 y_2 z_2 st_2 hQ_2
  subst l_2 y_2 z_2
  obtain ⟨d__2, ⟨g__2, ⟨kd__2, ⟨kg__2, ⟨rfl, N_2q, Kc_2, pfsz_d_2, pfsz_g_2, pfndg_2, pfE_a_2, pfF_keys_a_2, pfF_nodes_a_2, pfF_size_a_2, pfV_d_2, pfV_g_2⟩⟩⟩⟩⟩ := hQ_2
  have Z_2 : n0 ≤ T_2.heap.size := (Nat.le_trans Z_1 Kc_2.1)
  have K_2 : Keep h0 T_2.heap [] := K_1.trans Kc_2 (allS (Or.inr sz_b_1) all0)
  have sz_d__2 : h0.size ≤ d__2 := Nat.le_trans K_1.1 pfsz_d_2
  have g_d__2 : n0 ≤ d__2 := Nat.le_trans Z_1 pfsz_d_2
  have sz_g__2 : h0.size ≤ g__2 := Nat.le_trans K_1.1 pfsz_g_2
  have g_g__2 : n0 ≤ g__2 := Nat.le_trans Z_1 pfsz_g_2
  have N_2 := Fr.app N0 N_2q
  obtain ⟨cq_3, kq_3, q_3a, q_3b, q_3c⟩ := isOf hZ rfl pfE_a_2
  obtain ⟨_, _, ⟨T_3, L_3, k_3, n_3⟩, -, X_3, ⟨Lc_3, hQ_3, l_3, y_3, z_3⟩, st_3⟩ := X_2.virtualBack hx (y := MN1) (z := MN1) hown (mvT hZ (ow hw 16 rfl)) (mvT hZ (ow hw 17 rfl)) (notFace_of_selects (args := #[]) (mvT hZ (ow hw 19 rfl))) (mvT hZ (ow hw 19 rfl)) (mvT hZ (ow hw 18 rfl)) (by decide) (backOf (W := 0) (rm_ie0 l Z a0 hw [] b_1 T_2.heap n0 Z_2 pfF_size_a_2) hZ (ow hw 20 rfl) (ow hw 3 rfl) (by decide) (by decide)) q_3a q_3c (g := (mkF mM 41 (lc27 p1 p2 k1 k2 nd fl b_1) [(.ref b_1)])) rfl (by rw [hml]; rfl) (Steps.refl _) (argsL := []) (rest := []) (lenOf pd_1 rfl) rfl (by show 2 * 0 + _ ≤ _; exact Nat.le_of_eq rfl) (hb hby at_41) (fun _ _ => ⟨rfl, rfl, (by decide : 3 + 0 ≤ _), (by decide : 35 + 0 ≤ _)⟩)
  dsimp only [Pt.U, Pt.locs, Pt.cells, Pt.slots] at X_3 l_3 y_3 z_3 st_3 hQ_3
  subst l_3 y_3 z_3
  obtain ⟨rfl, N_3q, eh_3⟩ := hQ_3
  have N_3 := Fr.app N_2 N_3q
  obtain ⟨cq_4, kq_4, q_4a, q_4b, q_4c⟩ := isOf hZ eh_3 pfE_a_2
  obtain ⟨_, _, ⟨T_4, L_4, k_4, n_4⟩, -, X_4, ⟨Lc_4, hQ_4, l_4, y_4, z_4⟩, st_4⟩ := X_3.virtualBack hx (y := MN2) (z := MN2) hown (mvT hZ (ow hw 28 rfl)) (mvT hZ (ow hw 29 rfl)) (notFace_of_selects (args := #[]) (mvT hZ (ow hw 31 rfl))) (mvT hZ (ow hw 31 rfl)) (mvT hZ (ow hw 30 rfl)) (by decide) (backOf (W := 0) (rm_add0 l Z a0 hw [] b_1 d__2 g__2 kd__2 kg__2 k1 nd (0 : Int64) (0 : Int64) (0 : Int64) (0 : Int64) (0 : Int32) (0 : Int32) (0 : Int32) (0 : Int32) T_2.heap n0 Z_2 pfF_size_a_2 pfF_keys_a_2 pfF_nodes_a_2 pfE_a_2 g_b_1 g_d__2 g_g__2 pfV_d_2 pfV_g_2 pfndg_2 (Nat.ne_of_lt (Nat.lt_of_lt_of_le A_1.lt pfsz_d_2)) (Nat.ne_of_lt (Nat.lt_of_lt_of_le A_1.lt pfsz_g_2))) hZ (ow hw 32 rfl) (ow hw 3 rfl) (by decide) (by decide)) q_4a q_4c (g := (mkF mM 57 (lc28 p1 p2 k1 k2 nd fl b_1) [(.int nd), (.long k1), (.ref b_1)])) rfl (by rw [hml]; rfl) (Steps.refl _) (argsL := [(.long k1), (.int nd)]) (rest := []) (lenOf pd_2 rfl) rfl (by show 2 * 0 + _ ≤ _; exact Nat.le_of_eq rfl) (hb hby at_57) (fun _ _ => ⟨rfl, eh_3, (by decide : 3 + 0 ≤ _), (by decide : 35 + 0 ≤ _)⟩)
  dsimp only [Pt.U, Pt.locs, Pt.cells, Pt.slots] at X_4 l_4 y_4 z_4 st_4 hQ_4
  subst l_4 y_4 z_4
  obtain ⟨u0__4, ⟨u1__4, ⟨u2__4, ⟨u3__4, ⟨v0__4, ⟨v1__4, ⟨v2__4, ⟨v3__4, ⟨rfl, N_4q, Kc_4, pfF_size_a_4, pfF_keys_a_4, pfF_nodes_a_4, pfE_a_4, pfV_d_4, pfV_g_4⟩⟩⟩⟩⟩⟩⟩⟩⟩ := hQ_4
  have Z_4 : n0 ≤ T_4.heap.size := (Nat.le_trans Z_2 Kc_4.1)
  have K_4 : Keep h0 T_4.heap [] := K_2.trans Kc_4 (allS (Or.inr sz_b_1) (allS (Or.inr sz_d__2) (allS (Or.inr sz_g__2) all0)))
  have N_4 := Fr.app N_3 N_4q
  obtain ⟨cq_5, kq_5, q_5a, q_5b, q_5c⟩ := isOf hZ rfl pfE_a_4
  obtain ⟨_, _, ⟨T_5, L_5, k_5, n_5⟩, -, X_5, ⟨Lc_5, hQ_5, l_5, y_5, z_5⟩, st_5⟩ := X_4.virtualBack hx (y := MN4) (z := MN4) hown (mvT hZ (ow hw 23 rfl)) (mvT hZ (ow hw 24 rfl)) (notFace_of_selects (args := #[]) (mvT hZ (ow hw 26 rfl))) (mvT hZ (ow hw 26 rfl)) (mvT hZ (ow hw 25 rfl)) (by decide) (backOf (W := 0) (rm_clear l Z a0 hw [] b_1 d__2 g__2 (1 : Int32) T_4.heap n0 Z_4 pfF_size_a_4 pfF_keys_a_4 pfF_nodes_a_4 pfE_a_4 g_b_1) hZ (ow hw 27 rfl) (ow hw 3 rfl) (by decide) (by decide)) q_5a q_5c (g := (mkF mM 139 (lc28 p1 p2 k1 k2 nd fl b_1) [(.ref b_1)])) rfl (by rw [hml]; rfl) (Steps.refl _) (argsL := []) (rest := []) (lenOf pd_3 rfl) rfl (by show 2 * 0 + _ ≤ _; exact Nat.le_of_eq rfl) (hb hby at_139) (fun _ _ => ⟨rfl, rfl, (by decide : 3 + 0 ≤ _), (by decide : 35 + 0 ≤ _)⟩)
  dsimp only [Pt.U, Pt.locs, Pt.cells, Pt.slots] at X_5 l_5 y_5 z_5 st_5 hQ_5
  subst l_5 y_5 z_5
  obtain ⟨rfl, N_5q, Kc_5, pfF_size_a_5, pfF_keys_a_5, pfF_nodes_a_5, pfE_a_5⟩ := hQ_5
  have Z_5 : n0 ≤ T_5.heap.size := (Nat.le_trans Z_4 Kc_5.1)
  have K_5 : Keep h0 T_5.heap [] := K_4.trans Kc_5 (allS (Or.inr sz_b_1) all0)
  have N_5 := Fr.app N_4 N_5q
  obtain ⟨T_6, h_6, L_6, X_6, e_6, N_6, Kc_6, st_6⟩ := pc_tail0 p1 p2 k1 k2 nd fl (1 : Int32) (0 : Int32) (1 : Int32) b_1 d__2 g__2 kd__2 kg__2 u0__4 u1__4 u2__4 u3__4 v0__4 v1__4 v2__4 v3__4 X_5 hx hZ hw hby hml hown rfl N_5 Z_5 pfF_size_a_5 pfF_keys_a_5 pfF_nodes_a_5 pfE_a_5 g_b_1 g_d__2 g_g__2 (pfV_d_4.keep Kc_5 (ninS (Ne.symm (Nat.ne_of_lt (Nat.lt_of_lt_of_le A_1.lt pfsz_d_2))) nin0)) (pfV_g_4.keep Kc_5 (ninS (Ne.symm (Nat.ne_of_lt (Nat.lt_of_lt_of_le A_1.lt pfsz_g_2))) nin0)) pfndg_2 (Nat.ne_of_lt (Nat.lt_of_lt_of_le A_1.lt pfsz_d_2)) (Nat.ne_of_lt (Nat.lt_of_lt_of_le A_1.lt pfsz_g_2))
  have Z_6 : n0 ≤ h_6.size := (Nat.le_trans Z_5 Kc_6.1)
  have K_6 : Keep h0 h_6 [] := K_5.trans Kc_6 (allS (Or.inr sz_b_1) (allS (Or.inr sz_d__2) (allS (Or.inr sz_g__2) all0)))
  obtain ⟨fs, hr, hrun, hended, hW, hsame⟩ := X_6.leave (v := some (.int (1 : Int32))) (fun h => by rw [Bd.returns] at h; cases h)
  refine ⟨_, _, pre0 _ ?_, hrun, hended, _, _, rfl, ?_, ⟨_, rfl⟩, hW, hsame.mono (by decide) (by decide)⟩
  · show oS pP eE below s₁ (mkF mM 0 (lc6 p1 p2 k1 k2 nd fl) []) _
    refine XS.iloadN X0.here hx rfl (hb hby at_0) rfl ?_
    refine XS.iconst X0.here hx rfl (hb hby at_1) ?_
    show oS pP eE below s₁ (mkF mM 2 (lc6 p1 p2 k1 k2 nd fl) [(.int (3 : Int32)), (.int p1)]) _
    refine XS.iand X0.here hx rfl (hb hby at_2) rfl ?_
    show oS pP eE below s₁ (mkF mM 3 (lc6 p1 p2 k1 k2 nd fl) [(.int (p1 &&& (3 : Int32)))]) _
    rw [hn]
    refine XS.istore X0.here hx rfl (hb hby at_3) rfl (l' := (lc19 p1 p2 k1 k2 nd fl)) rfl ?_
    refine XS.iloadN X0.here hx rfl (hb hby at_5) rfl ?_
    show oS pP eE below s₁ (mkF mM 6 (lc19 p1 p2 k1 k2 nd fl) [(.int p2)]) _
    refine X0.ldcI hx hown (mvT hZ (ow hw 0 rfl)) (g := (mkF mM 6 (lc19 p1 p2 k1 k2 nd fl) [(.int p2)])) rfl (hb hby at_6) ?_
    show oS pP eE below s₁ (mkF mM 8 (lc19 p1 p2 k1 k2 nd fl) [(.int (2147483647 : Int32)), (.int p2)]) _
    refine XS.iand X0.here hx rfl (hb hby at_8) rfl ?_
    refine XS.iload X0.here hx rfl (hb hby at_9) rfl ?_
    refine XS.iconst X0.here hx rfl (hb hby at_11) ?_
    show oS pP eE below s₁ (mkF mM 12 (lc19 p1 p2 k1 k2 nd fl) [(.int (1 : Int32)), (.int (1 : Int32)), (.int (p2 &&& (2147483647 : Int32)))]) _
    refine XS.iadd X0.here hx rfl (hb hby at_12) rfl ?_
    show oS pP eE below s₁ (mkF mM 13 (lc19 p1 p2 k1 k2 nd fl) [(.int ((1 : Int32) + (1 : Int32))), (.int (p2 &&& (2147483647 : Int32)))]) _
    rw [(by decide : ((1 : Int32) + (1 : Int32)) = (2 : Int32))]
    show oS pP eE below s₁ (mkF mM 13 (lc19 p1 p2 k1 k2 nd fl) [(.int (2 : Int32)), (.int (p2 &&& (2147483647 : Int32)))]) _
    refine iremM X0 hx rfl (hb hby at_13) rfl (by decide) ?_
    show oS pP eE below s₁ (mkF mM 14 (lc19 p1 p2 k1 k2 nd fl) [(.int ((p2 &&& (2147483647 : Int32)) % (2 : Int32)))]) _
    rw [ht]
    refine XS.istore X0.here hx rfl (hb hby at_14) rfl (l' := (lc20 p1 p2 k1 k2 nd fl)) rfl ?_
    refine XS.iload X0.here hx rfl (hb hby at_16) rfl ?_
    refine XS.iconst X0.here hx rfl (hb hby at_18) ?_
    show oS pP eE below s₁ (mkF mM 19 (lc20 p1 p2 k1 k2 nd fl) [(.int (1 : Int32)), (.int fl)]) _
    refine XS.iand X0.here hx rfl (hb hby at_19) rfl ?_
    refine XS.ifNo X0.here hx rfl (hb hby at_20) rfl (XT.i0_eq_f hc) ?_
    refine XS.iconst X0.here hx rfl (hb hby at_23) ?_
    refine XS.goto X0.here hx rfl (pc0 := 24) (pc' := 28) rfl (hb hby at_24) (by decide) (by decide) ?_
    refine XS.istore X0.here hx rfl (hb hby at_28) rfl (l' := (lc26 p1 p2 k1 k2 nd fl)) rfl ?_
    show oS pP eE below s₁ (mkF mM 30 (lc26 p1 p2 k1 k2 nd fl) []) _
    refine st_1 _ ?_
    show oS pP eE below T_1 (mkF mM 33 (lc26 p1 p2 k1 k2 nd fl) [(.ref b_1)]) _
    refine XS.dup X_1.here hx rfl (hb hby at_33) rfl rfl ?_
    show oS pP eE below T_1 (mkF mM 34 (lc26 p1 p2 k1 k2 nd fl) [(.ref b_1), (.ref b_1)]) _
    refine st_2.trans ?_
    show oS pP eE below T_2 (mkF mM 37 (lc26 p1 p2 k1 k2 nd fl) [(.ref b_1)]) _
    refine XS.astore X_2.here hx rfl (hb hby at_37) rfl rfl (l' := (lc27 p1 p2 k1 k2 nd fl b_1)) rfl ?_
    refine XS.aload X_2.here hx rfl (hb hby at_39) rfl rfl ?_
    show oS pP eE below T_2 (mkF mM 41 (lc27 p1 p2 k1 k2 nd fl b_1) [(.ref b_1)]) _
    refine st_3.trans ?_
    show oS pP eE below T_3 (mkF mM 44 (lc27 p1 p2 k1 k2 nd fl b_1) [(.int (1 : Int32))]) _
    refine XS.istore X_3.here hx rfl (hb hby at_44) rfl (l' := (lc28 p1 p2 k1 k2 nd fl b_1)) rfl ?_
    refine XS.iload X_3.here hx rfl (hb hby at_46) rfl ?_
    refine XS.iconst X_3.here hx rfl (hb hby at_48) ?_
    refine XS.icmpNo X_3.here hx rfl (hb hby at_49) rfl (by decide) ?_
    refine XS.aload X_3.here hx rfl (hb hby at_52) rfl rfl ?_
    refine XT.lloadN X_3.here hx rfl (hb hby at_54) rfl ?_
    refine XS.iload X_3.here hx rfl (hb hby at_55) rfl ?_
    show oS pP eE below T_3 (mkF mM 57 (lc28 p1 p2 k1 k2 nd fl b_1) [(.int nd), (.long k1), (.ref b_1)]) _
    refine st_4.trans ?_
    show oS pP eE below T_4 (mkF mM 60 (lc28 p1 p2 k1 k2 nd fl b_1) []) _
    refine XS.iload X_4.here hx rfl (hb hby at_60) rfl ?_
    refine XS.iconst X_4.here hx rfl (hb hby at_62) ?_
    refine XS.icmpYes X_4.here hx rfl (pc0 := 63) (pc' := 77) rfl (hb hby at_63) rfl (by decide) (by decide) (by decide) ?_
    refine XS.iload X_4.here hx rfl (hb hby at_77) rfl ?_
    refine XS.iconst X_4.here hx rfl (hb hby at_79) ?_
    refine XS.icmpYes X_4.here hx rfl (pc0 := 80) (pc' := 96) rfl (hb hby at_80) rfl (by decide) (by decide) (by decide) ?_
    refine XS.iload X_4.here hx rfl (hb hby at_96) rfl ?_
    refine XS.iconst X_4.here hx rfl (hb hby at_98) ?_
    show oS pP eE below T_4 (mkF mM 99 (lc28 p1 p2 k1 k2 nd fl b_1) [(.int (1 : Int32)), (.int (0 : Int32))]) _
    refine XS.icmpYes X_4.here hx rfl (pc0 := 99) (pc' := 108) rfl (hb hby at_99) rfl (by decide) (by decide) (by decide) ?_
    refine XS.iload X_4.here hx rfl (hb hby at_108) rfl ?_
    refine XS.iconst X_4.here hx rfl (hb hby at_110) ?_
    refine XS.icmpYes X_4.here hx rfl (pc0 := 111) (pc' := 120) rfl (hb hby at_111) rfl (by decide) (by decide) (by decide) ?_
    refine XS.iload X_4.here hx rfl (hb hby at_120) rfl ?_
    refine XS.iconst X_4.here hx rfl (hb hby at_122) ?_
    refine XS.icmpYes X_4.here hx rfl (pc0 := 123) (pc' := 132) rfl (hb hby at_123) rfl (by decide) (by decide) (by decide) ?_
    refine XS.iload X_4.here hx rfl (hb hby at_132) rfl ?_
    show oS pP eE below T_4 (mkF mM 134 (lc28 p1 p2 k1 k2 nd fl b_1) [(.int (1 : Int32))]) _
    refine XS.ifNo X_4.here hx rfl (hb hby at_134) rfl (by decide) ?_
    refine XS.aload X_4.here hx rfl (hb hby at_137) rfl rfl ?_
    show oS pP eE below T_4 (mkF mM 139 (lc28 p1 p2 k1 k2 nd fl b_1) [(.ref b_1)]) _
    refine st_5.trans ?_
    show oS pP eE below T_5 (mkF mM 142 (lc28 p1 p2 k1 k2 nd fl b_1) []) _
    refine XS.iload X_5.here hx rfl (hb hby at_142) rfl ?_
    refine XS.ifYes X_5.here hx rfl (pc0 := 144) (pc' := 155) rfl (hb hby at_144) rfl (by decide) (by decide) (by decide) ?_
    refine XS.iconst X_5.here hx rfl (hb hby at_155) ?_
    refine XS.goto X_5.here hx rfl (pc0 := 156) (pc' := 160) rfl (hb hby at_156) (by decide) (by decide) ?_
    refine XS.istore X_5.here hx rfl (hb hby at_160) rfl (l' := (lc29 p1 p2 k1 k2 nd fl b_1)) rfl ?_
    show oS pP eE below T_5 (mkF mM 162 (lc29 p1 p2 k1 k2 nd fl b_1) []) _
    refine st_6 _ ?_
    show oS pP eE below T_6 (mkF mM 207 (lc30 p1 p2 k1 k2 nd fl b_1) [(.int (1 : Int32))]) _
    exact retN X_6 hx (t := .boolean) Bd.returns (by simp) (hb hby at_207) hr
  · show Q_law101 Z p1 p2 k1 k2 nd fl h0 n0 _ T_6.heap _
    exact ⟨rfl, N_6⟩
abbrev lc31 (p1 : Int32) (p2 : Int32) (k1 : Int64) (k2 : Int64) (nd : Int32) (fl : Int32) : Array Slot := #[.val (.int p1), .val (.int p2), .val (.long k1), .second, .val (.long k2), .second, .val (.int nd), .val (.int fl), .val (.int (1 : Int32)), .val (.int (1 : Int32)), .unset, .unset, .unset, .unset, .unset, .unset]
abbrev lc32 (p1 : Int32) (p2 : Int32) (k1 : Int64) (k2 : Int64) (nd : Int32) (fl : Int32) : Array Slot := #[.val (.int p1), .val (.int p2), .val (.long k1), .second, .val (.long k2), .second, .val (.int nd), .val (.int fl), .val (.int (1 : Int32)), .val (.int (1 : Int32)), .val (.int (0 : Int32)), .unset, .unset, .unset, .unset, .unset]
abbrev lc33 (p1 : Int32) (p2 : Int32) (k1 : Int64) (k2 : Int64) (nd : Int32) (fl : Int32) (b_1 : Addr) : Array Slot := #[.val (.int p1), .val (.int p2), .val (.long k1), .second, .val (.long k2), .second, .val (.int nd), .val (.int fl), .val (.int (1 : Int32)), .val (.int (1 : Int32)), .val (.int (0 : Int32)), .val (.ref b_1), .unset, .unset, .unset, .unset]
abbrev lc34 (p1 : Int32) (p2 : Int32) (k1 : Int64) (k2 : Int64) (nd : Int32) (fl : Int32) (b_1 : Addr) : Array Slot := #[.val (.int p1), .val (.int p2), .val (.long k1), .second, .val (.long k2), .second, .val (.int nd), .val (.int fl), .val (.int (1 : Int32)), .val (.int (1 : Int32)), .val (.int (0 : Int32)), .val (.ref b_1), .val (.int (1 : Int32)), .unset, .unset, .unset]
theorem pd_4 : parseMethodDescriptor "()I" = some ⟨[], some .int⟩ := by decide +kernel
abbrev MN5 : MethodName := ⟨"com/example/greenweft/greenweft/steiner/NodeHeap", "takeLowest", "()I"⟩
abbrev lc35 (p1 : Int32) (p2 : Int32) (k1 : Int64) (k2 : Int64) (nd : Int32) (fl : Int32) (b_1 : Addr) : Array Slot := #[.val (.int p1), .val (.int p2), .val (.long k1), .second, .val (.long k2), .second, .val (.int nd), .val (.int fl), .val (.int (1 : Int32)), .val (.int (1 : Int32)), .val (.int (0 : Int32)), .val (.ref b_1), .val (.int (1 : Int32)), .val (.int (1 : Int32)), .unset, .unset]
abbrev lc36 (p1 : Int32) (p2 : Int32) (k1 : Int64) (k2 : Int64) (nd : Int32) (fl : Int32) (b_1 : Addr) : Array Slot := #[.val (.int p1), .val (.int p2), .val (.long k1), .second, .val (.long k2), .second, .val (.int nd), .val (.int fl), .val (.int (1 : Int32)), .val (.int (1 : Int32)), .val (.int (0 : Int32)), .val (.ref b_1), .val (.int (1 : Int32)), .val (.int (1 : Int32)), .val (.int (1 : Int32)), .val (.int (0 : Int32))]
theorem ef_law110 (mM : MethodId) (x0 : Int32) (x1 : Int32) (x2 : Int64) (x3 : Int64) (x4 : Int32) (x5 : Int32) : entryFrame mM #[(.int x0), (.int x1), (.long x2), (.long x3), (.int x4), (.int x5)] maxLocals = mkF mM 0 #[.val (.int x0), .val (.int x1), .val (.long x2), .second, .val (.long x3), .second, .val (.int x4), .val (.int x5), .unset, .unset, .unset, .unset, .unset, .unset, .unset, .unset] [] := by first | (simp [entryFrame, mkF, argsToLocals, Value.category, maxLocals]; done) | rfl
def Q_law110 (Z : State) (p1 : Int32) (p2 : Int32) (k1 : Int64) (k2 : Int64) (nd : Int32) (fl : Int32) (h0 : Heap) (n0 : Nat) (v_ : Option Value) (h_ : Heap) (L_ : List Loc) : Prop := v_ = some (.int (1 : Int32)) ∧ Fr n0 L_
set_option maxRecDepth 65536 in
set_option maxHeartbeats 40000000 in
theorem rm_law110 (l : Launch) (Z : State) (a0 : Array Value) (hw : ∀ d ∈ tables_1, d.before a0 Z = true) (ws : List Jvm.Cond) (p1 : Int32) (p2 : Int32) (k1 : Int64) (k2 : Int64) (nd : Int32) (fl : Int32) (h0 : Heap) (n0 : Nat) (Z0 : n0 ≤ h0.size) (hn : (p1 &&& (3 : Int32)) = (1 : Int32)) (ht : ((p2 &&& (2147483647 : Int32)) % (2 : Int32)) = (1 : Int32)) (hc : (fl &&& (1 : Int32)) = 0) :
    MetFree l x (head1 (Jvm.Cond.code x code maxLocals ret :: ws) room_1) (fun aa_ U_ => aa_ = #[(.int p1), (.int p2), (.long k1), (.long k2), (.int nd), (.int fl)] ∧ Z.Warmed39 U_.vm ∧ U_.heap = h0) (fun _ _ _ _ _ => True) (fun _ U_ o_ U'_ => ∃ v_ L_, o_ = .returned v_ ∧ Q_law110 Z p1 p2 k1 k2 nd fl h0 n0 v_ U'_.heap L_ ∧ FrameEnd U_ o_ U'_ L_ 3 35) := by
  refine MetFree.of_bodySF (plainFor_of_name pn_1) hisR ?_
  intro pP eE sS mM argsA below meth cC s₁ Bd hml0 hP hK
  obtain ⟨rfl, hZ, hh⟩ := hP
  have hx := Bd.exec
  have hby := Bd.bytes
  have hml : cC.maxLocals = 16 := hml0
  have hown : sS.vm.findClass "com/example/greenweft/greenweft/steiner/NodeHeapIsEmptyPinLaw" = some mM.cls := findClass_of_methodNamed Bd.named
  have hnm := (name_of_methodNamed Bd.named Bd.method).1
  have X0 : Stand pP l eE room_1 sS mM #[(.int p1), (.int p2), (.long k1), (.long k2), (.int nd), (.int fl)] below meth cC s₁ [] 0 0 := Stand.of_body Bd
  have e0 : s₁.heap = h0 := by rw [← hh, Bd.state]; rfl
  have N0 := Fr.nil n0
  have pre0 : ∀ t_, Steps pP.tables eE below (s₁.setTop (mkF mM 0 #[.val (.int p1), .val (.int p2), .val (.long k1), .second, .val (.long k2), .second, .val (.int nd), .val (.int fl), .unset, .unset, .unset, .unset, .unset, .unset, .unset, .unset] [])) t_ → Steps pP.tables eE below (s₁.setTop (entryFrame mM #[(.int p1), (.int p2), (.long k1), (.long k2), (.int nd), (.int fl)] maxLocals)) t_ := fun t_ k_ => castTop (ef_law110 mM p1 p2 k1 k2 nd fl) k_
  obtain ⟨T_1, h_1, X_1, e_1, E_1, A_1, D_1, -, st_1⟩ := newO X0 hx hZ hown (ow hw 1 rfl) (ow hw 2 rfl) (ow hw 3 rfl) e0 (g := (mkF mM 30 (lc32 p1 p2 k1 k2 nd fl) [])) rfl (hb hby at_30) (by decide) (by decide)
  obtain ⟨b_1, g_1⟩ : ∃ z, z = h0.size := ⟨_, rfl⟩
  rw [← g_1] at A_1 D_1 st_1
  have g_b_1 : n0 ≤ b_1 := Nat.le_trans Z0 (Nat.le_of_eq g_1.symm)
  have sz_b_1 : h0.size ≤ b_1 := Nat.le_trans (Keep.refl h0 []).1 (Nat.le_of_eq g_1.symm)
  have Z_1 : n0 ≤ h_1.size := (Nat.le_trans Z0 E_1.1)
  have K_1 : Keep h0 h_1 [] := (Keep.refl h0 []).ext E_1
  have F_keys_b_1__1 : Fld Z h_1 b_1 "com/example/greenweft/greenweft/steiner/NodeHeap" "keys" "[J" .null := D_1 (Or.inl (ow hw 12 rfl)) (ty := (.array .long)) (by decide)
  have F_nodes_b_1__1 : Fld Z h_1 b_1 "com/example/greenweft/greenweft/steiner/NodeHeap" "nodes" "[I" .null := D_1 (Or.inl (ow hw 15 rfl)) (ty := (.array .int)) (by decide)
  have F_size_b_1__1 : Fld Z h_1 b_1 "com/example/greenweft/greenweft/steiner/NodeHeap" "size" "I" (.int (0 : Int32)) := D_1 (Or.inl (ow hw 22 rfl)) (ty := .int) (by decide)
  obtain ⟨_, _, ⟨T_2, L_2, k_2, n_2⟩, -, X_2, ⟨Lc_2, hQ_2, l_2, y_2, z_2⟩, st_2⟩ := X_1.specialBack hx (y := MN3) rfl hown (mvT hZ (ow hw 4 rfl)) (mvT hZ (ow hw 5 rfl)) (mvT hZ (ow hw 6 rfl)) (by decide) (backOf (W := 1) (rm_init l Z a0 hw [] b_1 h_1 n0 Z_1 F_keys_b_1__1 F_nodes_b_1__1 F_size_b_1__1 A_1 g_b_1) hZ (ow hw 6 rfl) (ow hw 3 rfl) (by decide) (by decide)) (g := (mkF mM 34 (lc32 p1 p2 k1 k2 nd fl) [(.ref b_1), (.ref b_1)])) rfl (by rw [hml]; rfl) (Steps.refl _) (a := b_1) (argsL := []) (rest := [(.ref b_1)]) (lenOf pd_3 rfl) rfl (by show 2 * 0 + _ ≤ _; exact Nat.le_of_eq rfl) (hb hby at_34) (fun _ _ => ⟨rfl, e_1, (by decide : 1 + 2 ≤ _), (by decide : 3 + 32 ≤ _)⟩)
  dsimp only [Pt.U, Pt.locs, Pt.cells, Pt.slots] at X_2 l_2 y_2 z_2 st_2 hQ_2
  subst l_2 y_2 z_2
  obtain ⟨d__2, ⟨g__2, ⟨kd__2, ⟨kg__2, ⟨rfl, N_2q, Kc_2, pfsz_d_2, pfsz_g_2, pfndg_2, pfE_a_2, pfF_keys_a_2, pfF_nodes_a_2, pfF_size_a_2, pfV_d_2, pfV_g_2⟩⟩⟩⟩⟩ := hQ_2
  have Z_2 : n0 ≤ T_2.heap.size := (Nat.le_trans Z_1 Kc_2.1)
  have K_2 : Keep h0 T_2.heap [] := K_1.trans Kc_2 (allS (Or.inr sz_b_1) all0)
  have sz_d__2 : h0.size ≤ d__2 := Nat.le_trans K_1.1 pfsz_d_2
  have g_d__2 : n0 ≤ d__2 := Nat.le_trans Z_1 pfsz_d_2
  have sz_g__2 : h0.size ≤ g__2 := Nat.le_trans K_1.1 pfsz_g_2
  have g_g__2 : n0 ≤ g__2 := Nat.le_trans Z_1 pfsz_g_2
  have N_2 := Fr.app N0 N_2q
  obtain ⟨cq_3, kq_3, q_3a, q_3b, q_3c⟩ := isOf hZ rfl pfE_a_2
  obtain ⟨_, _, ⟨T_3, L_3, k_3, n_3⟩, -, X_3, ⟨Lc_3, hQ_3, l_3, y_3, z_3⟩, st_3⟩ := X_2.virtualBack hx (y := MN1) (z := MN1) hown (mvT hZ (ow hw 16 rfl)) (mvT hZ (ow hw 17 rfl)) (notFace_of_selects (args := #[]) (mvT hZ (ow hw 19 rfl))) (mvT hZ (ow hw 19 rfl)) (mvT hZ (ow hw 18 rfl)) (by decide) (backOf (W := 0) (rm_ie0 l Z a0 hw [] b_1 T_2.heap n0 Z_2 pfF_size_a_2) hZ (ow hw 20 rfl) (ow hw 3 rfl) (by decide) (by decide)) q_3a q_3c (g := (mkF mM 41 (lc33 p1 p2 k1 k2 nd fl b_1) [(.ref b_1)])) rfl (by rw [hml]; rfl) (Steps.refl _) (argsL := []) (rest := []) (lenOf pd_1 rfl) rfl (by show 2 * 0 + _ ≤ _; exact Nat.le_of_eq rfl) (hb hby at_41) (fun _ _ => ⟨rfl, rfl, (by decide : 3 + 0 ≤ _), (by decide : 35 + 0 ≤ _)⟩)
  dsimp only [Pt.U, Pt.locs, Pt.cells, Pt.slots] at X_3 l_3 y_3 z_3 st_3 hQ_3
  subst l_3 y_3 z_3
  obtain ⟨rfl, N_3q, eh_3⟩ := hQ_3
  have N_3 := Fr.app N_2 N_3q
  obtain ⟨cq_4, kq_4, q_4a, q_4b, q_4c⟩ := isOf hZ eh_3 pfE_a_2
  obtain ⟨_, _, ⟨T_4, L_4, k_4, n_4⟩, -, X_4, ⟨Lc_4, hQ_4, l_4, y_4, z_4⟩, st_4⟩ := X_3.virtualBack hx (y := MN2) (z := MN2) hown (mvT hZ (ow hw 28 rfl)) (mvT hZ (ow hw 29 rfl)) (notFace_of_selects (args := #[]) (mvT hZ (ow hw 31 rfl))) (mvT hZ (ow hw 31 rfl)) (mvT hZ (ow hw 30 rfl)) (by decide) (backOf (W := 0) (rm_add0 l Z a0 hw [] b_1 d__2 g__2 kd__2 kg__2 k1 nd (0 : Int64) (0 : Int64) (0 : Int64) (0 : Int64) (0 : Int32) (0 : Int32) (0 : Int32) (0 : Int32) T_2.heap n0 Z_2 pfF_size_a_2 pfF_keys_a_2 pfF_nodes_a_2 pfE_a_2 g_b_1 g_d__2 g_g__2 pfV_d_2 pfV_g_2 pfndg_2 (Nat.ne_of_lt (Nat.lt_of_lt_of_le A_1.lt pfsz_d_2)) (Nat.ne_of_lt (Nat.lt_of_lt_of_le A_1.lt pfsz_g_2))) hZ (ow hw 32 rfl) (ow hw 3 rfl) (by decide) (by decide)) q_4a q_4c (g := (mkF mM 57 (lc34 p1 p2 k1 k2 nd fl b_1) [(.int nd), (.long k1), (.ref b_1)])) rfl (by rw [hml]; rfl) (Steps.refl _) (argsL := [(.long k1), (.int nd)]) (rest := []) (lenOf pd_2 rfl) rfl (by show 2 * 0 + _ ≤ _; exact Nat.le_of_eq rfl) (hb hby at_57) (fun _ _ => ⟨rfl, eh_3, (by decide : 3 + 0 ≤ _), (by decide : 35 + 0 ≤ _)⟩)
  dsimp only [Pt.U, Pt.locs, Pt.cells, Pt.slots] at X_4 l_4 y_4 z_4 st_4 hQ_4
  subst l_4 y_4 z_4
  obtain ⟨u0__4, ⟨u1__4, ⟨u2__4, ⟨u3__4, ⟨v0__4, ⟨v1__4, ⟨v2__4, ⟨v3__4, ⟨rfl, N_4q, Kc_4, pfF_size_a_4, pfF_keys_a_4, pfF_nodes_a_4, pfE_a_4, pfV_d_4, pfV_g_4⟩⟩⟩⟩⟩⟩⟩⟩⟩ := hQ_4
  have Z_4 : n0 ≤ T_4.heap.size := (Nat.le_trans Z_2 Kc_4.1)
  have K_4 : Keep h0 T_4.heap [] := K_2.trans Kc_4 (allS (Or.inr sz_b_1) (allS (Or.inr sz_d__2) (allS (Or.inr sz_g__2) all0)))
  have N_4 := Fr.app N_3 N_4q
  obtain ⟨cq_5, kq_5, q_5a, q_5b, q_5c⟩ := isOf hZ rfl pfE_a_4
  obtain ⟨_, _, ⟨T_5, L_5, k_5, n_5⟩, -, X_5, ⟨Lc_5, hQ_5, l_5, y_5, z_5⟩, st_5⟩ := X_4.virtualBack hx (y := MN5) (z := MN5) hown (mvT hZ (ow hw 36 rfl)) (mvT hZ (ow hw 37 rfl)) (notFace_of_selects (args := #[]) (mvT hZ (ow hw 39 rfl))) (mvT hZ (ow hw 39 rfl)) (mvT hZ (ow hw 38 rfl)) (by decide) (backOf (W := 0) (rm_take1 l Z a0 hw [] b_1 d__2 g__2 kd__2 kg__2 u0__4 u1__4 u2__4 u3__4 v0__4 v1__4 v2__4 v3__4 T_4.heap n0 Z_4 pfF_size_a_4 pfF_keys_a_4 pfF_nodes_a_4 pfE_a_4 g_b_1 g_d__2 g_g__2 pfV_d_4 pfV_g_4 pfndg_2 (Nat.ne_of_lt (Nat.lt_of_lt_of_le A_1.lt pfsz_d_2)) (Nat.ne_of_lt (Nat.lt_of_lt_of_le A_1.lt pfsz_g_2))) hZ (ow hw 40 rfl) (ow hw 3 rfl) (by decide) (by decide)) q_5a q_5c (g := (mkF mM 104 (lc34 p1 p2 k1 k2 nd fl b_1) [(.ref b_1)])) rfl (by rw [hml]; rfl) (Steps.refl _) (argsL := []) (rest := []) (lenOf pd_4 rfl) rfl (by show 2 * 0 + _ ≤ _; exact Nat.le_of_eq rfl) (hb hby at_104) (fun _ _ => ⟨rfl, rfl, (by decide : 3 + 0 ≤ _), (by decide : 35 + 0 ≤ _)⟩)
  dsimp only [Pt.U, Pt.locs, Pt.cells, Pt.slots] at X_5 l_5 y_5 z_5 st_5 hQ_5
  subst l_5 y_5 z_5
  obtain ⟨u0__5, ⟨u1__5, ⟨u2__5, ⟨u3__5, ⟨v0__5, ⟨v1__5, ⟨v2__5, ⟨v3__5, ⟨rfl, N_5q, Kc_5, pfF_size_a_5, pfF_keys_a_5, pfF_nodes_a_5, pfE_a_5, pfV_d_5, pfV_g_5⟩⟩⟩⟩⟩⟩⟩⟩⟩ := hQ_5
  have Z_5 : n0 ≤ T_5.heap.size := (Nat.le_trans Z_4 Kc_5.1)
  have K_5 : Keep h0 T_5.heap [] := K_4.trans Kc_5 (allS (Or.inr sz_b_1) (allS (Or.inr sz_d__2) (allS (Or.inr sz_g__2) all0)))
  have N_5 := Fr.app N_4 N_5q
  obtain ⟨T_6, h_6, L_6, X_6, e_6, N_6, Kc_6, st_6⟩ := pc_tail0 p1 p2 k1 k2 nd fl (1 : Int32) (1 : Int32) (0 : Int32) b_1 d__2 g__2 kd__2 kg__2 u0__5 u1__5 u2__5 u3__5 v0__5 v1__5 v2__5 v3__5 X_5 hx hZ hw hby hml hown rfl N_5 Z_5 pfF_size_a_5 pfF_keys_a_5 pfF_nodes_a_5 pfE_a_5 g_b_1 g_d__2 g_g__2 pfV_d_5 pfV_g_5 pfndg_2 (Nat.ne_of_lt (Nat.lt_of_lt_of_le A_1.lt pfsz_d_2)) (Nat.ne_of_lt (Nat.lt_of_lt_of_le A_1.lt pfsz_g_2))
  have Z_6 : n0 ≤ h_6.size := (Nat.le_trans Z_5 Kc_6.1)
  have K_6 : Keep h0 h_6 [] := K_5.trans Kc_6 (allS (Or.inr sz_b_1) (allS (Or.inr sz_d__2) (allS (Or.inr sz_g__2) all0)))
  obtain ⟨fs, hr, hrun, hended, hW, hsame⟩ := X_6.leave (v := some (.int (1 : Int32))) (fun h => by rw [Bd.returns] at h; cases h)
  refine ⟨_, _, pre0 _ ?_, hrun, hended, _, _, rfl, ?_, ⟨_, rfl⟩, hW, hsame.mono (by decide) (by decide)⟩
  · show oS pP eE below s₁ (mkF mM 0 (lc6 p1 p2 k1 k2 nd fl) []) _
    refine XS.iloadN X0.here hx rfl (hb hby at_0) rfl ?_
    refine XS.iconst X0.here hx rfl (hb hby at_1) ?_
    show oS pP eE below s₁ (mkF mM 2 (lc6 p1 p2 k1 k2 nd fl) [(.int (3 : Int32)), (.int p1)]) _
    refine XS.iand X0.here hx rfl (hb hby at_2) rfl ?_
    show oS pP eE below s₁ (mkF mM 3 (lc6 p1 p2 k1 k2 nd fl) [(.int (p1 &&& (3 : Int32)))]) _
    rw [hn]
    refine XS.istore X0.here hx rfl (hb hby at_3) rfl (l' := (lc19 p1 p2 k1 k2 nd fl)) rfl ?_
    refine XS.iloadN X0.here hx rfl (hb hby at_5) rfl ?_
    show oS pP eE below s₁ (mkF mM 6 (lc19 p1 p2 k1 k2 nd fl) [(.int p2)]) _
    refine X0.ldcI hx hown (mvT hZ (ow hw 0 rfl)) (g := (mkF mM 6 (lc19 p1 p2 k1 k2 nd fl) [(.int p2)])) rfl (hb hby at_6) ?_
    show oS pP eE below s₁ (mkF mM 8 (lc19 p1 p2 k1 k2 nd fl) [(.int (2147483647 : Int32)), (.int p2)]) _
    refine XS.iand X0.here hx rfl (hb hby at_8) rfl ?_
    refine XS.iload X0.here hx rfl (hb hby at_9) rfl ?_
    refine XS.iconst X0.here hx rfl (hb hby at_11) ?_
    show oS pP eE below s₁ (mkF mM 12 (lc19 p1 p2 k1 k2 nd fl) [(.int (1 : Int32)), (.int (1 : Int32)), (.int (p2 &&& (2147483647 : Int32)))]) _
    refine XS.iadd X0.here hx rfl (hb hby at_12) rfl ?_
    show oS pP eE below s₁ (mkF mM 13 (lc19 p1 p2 k1 k2 nd fl) [(.int ((1 : Int32) + (1 : Int32))), (.int (p2 &&& (2147483647 : Int32)))]) _
    rw [(by decide : ((1 : Int32) + (1 : Int32)) = (2 : Int32))]
    show oS pP eE below s₁ (mkF mM 13 (lc19 p1 p2 k1 k2 nd fl) [(.int (2 : Int32)), (.int (p2 &&& (2147483647 : Int32)))]) _
    refine iremM X0 hx rfl (hb hby at_13) rfl (by decide) ?_
    show oS pP eE below s₁ (mkF mM 14 (lc19 p1 p2 k1 k2 nd fl) [(.int ((p2 &&& (2147483647 : Int32)) % (2 : Int32)))]) _
    rw [ht]
    refine XS.istore X0.here hx rfl (hb hby at_14) rfl (l' := (lc31 p1 p2 k1 k2 nd fl)) rfl ?_
    refine XS.iload X0.here hx rfl (hb hby at_16) rfl ?_
    refine XS.iconst X0.here hx rfl (hb hby at_18) ?_
    show oS pP eE below s₁ (mkF mM 19 (lc31 p1 p2 k1 k2 nd fl) [(.int (1 : Int32)), (.int fl)]) _
    refine XS.iand X0.here hx rfl (hb hby at_19) rfl ?_
    refine XS.ifYes X0.here hx rfl (pc0 := 20) (pc' := 27) rfl (hb hby at_20) rfl (XT.i0_eq_t hc) (by decide) (by decide) ?_
    refine XS.iconst X0.here hx rfl (hb hby at_27) ?_
    refine XS.istore X0.here hx rfl (hb hby at_28) rfl (l' := (lc32 p1 p2 k1 k2 nd fl)) rfl ?_
    show oS pP eE below s₁ (mkF mM 30 (lc32 p1 p2 k1 k2 nd fl) []) _
    refine st_1 _ ?_
    show oS pP eE below T_1 (mkF mM 33 (lc32 p1 p2 k1 k2 nd fl) [(.ref b_1)]) _
    refine XS.dup X_1.here hx rfl (hb hby at_33) rfl rfl ?_
    show oS pP eE below T_1 (mkF mM 34 (lc32 p1 p2 k1 k2 nd fl) [(.ref b_1), (.ref b_1)]) _
    refine st_2.trans ?_
    show oS pP eE below T_2 (mkF mM 37 (lc32 p1 p2 k1 k2 nd fl) [(.ref b_1)]) _
    refine XS.astore X_2.here hx rfl (hb hby at_37) rfl rfl (l' := (lc33 p1 p2 k1 k2 nd fl b_1)) rfl ?_
    refine XS.aload X_2.here hx rfl (hb hby at_39) rfl rfl ?_
    show oS pP eE below T_2 (mkF mM 41 (lc33 p1 p2 k1 k2 nd fl b_1) [(.ref b_1)]) _
    refine st_3.trans ?_
    show oS pP eE below T_3 (mkF mM 44 (lc33 p1 p2 k1 k2 nd fl b_1) [(.int (1 : Int32))]) _
    refine XS.istore X_3.here hx rfl (hb hby at_44) rfl (l' := (lc34 p1 p2 k1 k2 nd fl b_1)) rfl ?_
    refine XS.iload X_3.here hx rfl (hb hby at_46) rfl ?_
    refine XS.iconst X_3.here hx rfl (hb hby at_48) ?_
    refine XS.icmpNo X_3.here hx rfl (hb hby at_49) rfl (by decide) ?_
    refine XS.aload X_3.here hx rfl (hb hby at_52) rfl rfl ?_
    refine XT.lloadN X_3.here hx rfl (hb hby at_54) rfl ?_
    refine XS.iload X_3.here hx rfl (hb hby at_55) rfl ?_
    show oS pP eE below T_3 (mkF mM 57 (lc34 p1 p2 k1 k2 nd fl b_1) [(.int nd), (.long k1), (.ref b_1)]) _
    refine st_4.trans ?_
    show oS pP eE below T_4 (mkF mM 60 (lc34 p1 p2 k1 k2 nd fl b_1) []) _
    refine XS.iload X_4.here hx rfl (hb hby at_60) rfl ?_
    refine XS.iconst X_4.here hx rfl (hb hby at_62) ?_
    refine XS.icmpYes X_4.here hx rfl (pc0 := 63) (pc' := 77) rfl (hb hby at_63) rfl (by decide) (by decide) (by decide) ?_
    refine XS.iload X_4.here hx rfl (hb hby at_77) rfl ?_
    refine XS.iconst X_4.here hx rfl (hb hby at_79) ?_
    refine XS.icmpYes X_4.here hx rfl (pc0 := 80) (pc' := 96) rfl (hb hby at_80) rfl (by decide) (by decide) (by decide) ?_
    refine XS.iload X_4.here hx rfl (hb hby at_96) rfl ?_
    refine XS.iconst X_4.here hx rfl (hb hby at_98) ?_
    show oS pP eE below T_4 (mkF mM 99 (lc34 p1 p2 k1 k2 nd fl b_1) [(.int (1 : Int32)), (.int (1 : Int32))]) _
    refine XS.icmpNo X_4.here hx rfl (hb hby at_99) rfl (by decide) ?_
    refine XS.aload X_4.here hx rfl (hb hby at_102) rfl rfl ?_
    show oS pP eE below T_4 (mkF mM 104 (lc34 p1 p2 k1 k2 nd fl b_1) [(.ref b_1)]) _
    refine st_5.trans ?_
    show oS pP eE below T_5 (mkF mM 107 (lc34 p1 p2 k1 k2 nd fl b_1) [(.int v0__4)]) _
    refine XT.pop X_5.here hx rfl (hb hby at_107) rfl rfl ?_
    refine XS.iload X_5.here hx rfl (hb hby at_108) rfl ?_
    refine XS.iconst X_5.here hx rfl (hb hby at_110) ?_
    refine XS.icmpYes X_5.here hx rfl (pc0 := 111) (pc' := 120) rfl (hb hby at_111) rfl (by decide) (by decide) (by decide) ?_
    refine XS.iload X_5.here hx rfl (hb hby at_120) rfl ?_
    refine XS.iconst X_5.here hx rfl (hb hby at_122) ?_
    refine XS.icmpYes X_5.here hx rfl (pc0 := 123) (pc' := 132) rfl (hb hby at_123) rfl (by decide) (by decide) (by decide) ?_
    refine XS.iload X_5.here hx rfl (hb hby at_132) rfl ?_
    show oS pP eE below T_5 (mkF mM 134 (lc34 p1 p2 k1 k2 nd fl b_1) [(.int (0 : Int32))]) _
    refine XS.ifYes X_5.here hx rfl (pc0 := 134) (pc' := 142) rfl (hb hby at_134) rfl (by decide) (by decide) (by decide) ?_
    refine XS.iload X_5.here hx rfl (hb hby at_142) rfl ?_
    refine XS.ifNo X_5.here hx rfl (hb hby at_144) rfl (by decide) ?_
    refine XS.iload X_5.here hx rfl (hb hby at_147) rfl ?_
    refine XS.iload X_5.here hx rfl (hb hby at_149) rfl ?_
    show oS pP eE below T_5 (mkF mM 151 (lc34 p1 p2 k1 k2 nd fl b_1) [(.int (1 : Int32)), (.int (1 : Int32))]) _
    refine XS.isub X_5.here hx rfl (hb hby at_151) rfl ?_
    show oS pP eE below T_5 (mkF mM 152 (lc34 p1 p2 k1 k2 nd fl b_1) [(.int ((1 : Int32) - (1 : Int32)))]) _
    rw [(by decide : ((1 : Int32) - (1 : Int32)) = (0 : Int32))]
    refine XS.ifNo X_5.here hx rfl (hb hby at_152) rfl (by decide) ?_
    refine XS.iconst X_5.here hx rfl (hb hby at_155) ?_
    refine XS.goto X_5.here hx rfl (pc0 := 156) (pc' := 160) rfl (hb hby at_156) (by decide) (by decide) ?_
    refine XS.istore X_5.here hx rfl (hb hby at_160) rfl (l' := (lc35 p1 p2 k1 k2 nd fl b_1)) rfl ?_
    show oS pP eE below T_5 (mkF mM 162 (lc35 p1 p2 k1 k2 nd fl b_1) []) _
    refine st_6 _ ?_
    show oS pP eE below T_6 (mkF mM 207 (lc36 p1 p2 k1 k2 nd fl b_1) [(.int (1 : Int32))]) _
    exact retN X_6 hx (t := .boolean) Bd.returns (by simp) (hb hby at_207) hr
  · show Q_law110 Z p1 p2 k1 k2 nd fl h0 n0 _ T_6.heap _
    exact ⟨rfl, N_6⟩
abbrev lc37 (p1 : Int32) (p2 : Int32) (k1 : Int64) (k2 : Int64) (nd : Int32) (fl : Int32) : Array Slot := #[.val (.int p1), .val (.int p2), .val (.long k1), .second, .val (.long k2), .second, .val (.int nd), .val (.int fl), .val (.int (1 : Int32)), .val (.int (1 : Int32)), .val (.int (1 : Int32)), .unset, .unset, .unset, .unset, .unset]
abbrev lc38 (p1 : Int32) (p2 : Int32) (k1 : Int64) (k2 : Int64) (nd : Int32) (fl : Int32) (b_1 : Addr) : Array Slot := #[.val (.int p1), .val (.int p2), .val (.long k1), .second, .val (.long k2), .second, .val (.int nd), .val (.int fl), .val (.int (1 : Int32)), .val (.int (1 : Int32)), .val (.int (1 : Int32)), .val (.ref b_1), .unset, .unset, .unset, .unset]
abbrev lc39 (p1 : Int32) (p2 : Int32) (k1 : Int64) (k2 : Int64) (nd : Int32) (fl : Int32) (b_1 : Addr) : Array Slot := #[.val (.int p1), .val (.int p2), .val (.long k1), .second, .val (.long k2), .second, .val (.int nd), .val (.int fl), .val (.int (1 : Int32)), .val (.int (1 : Int32)), .val (.int (1 : Int32)), .val (.ref b_1), .val (.int (1 : Int32)), .unset, .unset, .unset]
abbrev lc40 (p1 : Int32) (p2 : Int32) (k1 : Int64) (k2 : Int64) (nd : Int32) (fl : Int32) (b_1 : Addr) : Array Slot := #[.val (.int p1), .val (.int p2), .val (.long k1), .second, .val (.long k2), .second, .val (.int nd), .val (.int fl), .val (.int (1 : Int32)), .val (.int (1 : Int32)), .val (.int (1 : Int32)), .val (.ref b_1), .val (.int (1 : Int32)), .val (.int (1 : Int32)), .unset, .unset]
abbrev lc41 (p1 : Int32) (p2 : Int32) (k1 : Int64) (k2 : Int64) (nd : Int32) (fl : Int32) (b_1 : Addr) : Array Slot := #[.val (.int p1), .val (.int p2), .val (.long k1), .second, .val (.long k2), .second, .val (.int nd), .val (.int fl), .val (.int (1 : Int32)), .val (.int (1 : Int32)), .val (.int (1 : Int32)), .val (.ref b_1), .val (.int (1 : Int32)), .val (.int (1 : Int32)), .val (.int (1 : Int32)), .val (.int (0 : Int32))]
theorem ef_law111 (mM : MethodId) (x0 : Int32) (x1 : Int32) (x2 : Int64) (x3 : Int64) (x4 : Int32) (x5 : Int32) : entryFrame mM #[(.int x0), (.int x1), (.long x2), (.long x3), (.int x4), (.int x5)] maxLocals = mkF mM 0 #[.val (.int x0), .val (.int x1), .val (.long x2), .second, .val (.long x3), .second, .val (.int x4), .val (.int x5), .unset, .unset, .unset, .unset, .unset, .unset, .unset, .unset] [] := by first | (simp [entryFrame, mkF, argsToLocals, Value.category, maxLocals]; done) | rfl
def Q_law111 (Z : State) (p1 : Int32) (p2 : Int32) (k1 : Int64) (k2 : Int64) (nd : Int32) (fl : Int32) (h0 : Heap) (n0 : Nat) (v_ : Option Value) (h_ : Heap) (L_ : List Loc) : Prop := v_ = some (.int (1 : Int32)) ∧ Fr n0 L_
set_option maxRecDepth 65536 in
set_option maxHeartbeats 40000000 in
theorem rm_law111 (l : Launch) (Z : State) (a0 : Array Value) (hw : ∀ d ∈ tables_1, d.before a0 Z = true) (ws : List Jvm.Cond) (p1 : Int32) (p2 : Int32) (k1 : Int64) (k2 : Int64) (nd : Int32) (fl : Int32) (h0 : Heap) (n0 : Nat) (Z0 : n0 ≤ h0.size) (hn : (p1 &&& (3 : Int32)) = (1 : Int32)) (ht : ((p2 &&& (2147483647 : Int32)) % (2 : Int32)) = (1 : Int32)) (hc : ¬ (fl &&& (1 : Int32)) = 0) :
    MetFree l x (head1 (Jvm.Cond.code x code maxLocals ret :: ws) room_1) (fun aa_ U_ => aa_ = #[(.int p1), (.int p2), (.long k1), (.long k2), (.int nd), (.int fl)] ∧ Z.Warmed39 U_.vm ∧ U_.heap = h0) (fun _ _ _ _ _ => True) (fun _ U_ o_ U'_ => ∃ v_ L_, o_ = .returned v_ ∧ Q_law111 Z p1 p2 k1 k2 nd fl h0 n0 v_ U'_.heap L_ ∧ FrameEnd U_ o_ U'_ L_ 3 35) := by
  refine MetFree.of_bodySF (plainFor_of_name pn_1) hisR ?_
  intro pP eE sS mM argsA below meth cC s₁ Bd hml0 hP hK
  obtain ⟨rfl, hZ, hh⟩ := hP
  have hx := Bd.exec
  have hby := Bd.bytes
  have hml : cC.maxLocals = 16 := hml0
  have hown : sS.vm.findClass "com/example/greenweft/greenweft/steiner/NodeHeapIsEmptyPinLaw" = some mM.cls := findClass_of_methodNamed Bd.named
  have hnm := (name_of_methodNamed Bd.named Bd.method).1
  have X0 : Stand pP l eE room_1 sS mM #[(.int p1), (.int p2), (.long k1), (.long k2), (.int nd), (.int fl)] below meth cC s₁ [] 0 0 := Stand.of_body Bd
  have e0 : s₁.heap = h0 := by rw [← hh, Bd.state]; rfl
  have N0 := Fr.nil n0
  have pre0 : ∀ t_, Steps pP.tables eE below (s₁.setTop (mkF mM 0 #[.val (.int p1), .val (.int p2), .val (.long k1), .second, .val (.long k2), .second, .val (.int nd), .val (.int fl), .unset, .unset, .unset, .unset, .unset, .unset, .unset, .unset] [])) t_ → Steps pP.tables eE below (s₁.setTop (entryFrame mM #[(.int p1), (.int p2), (.long k1), (.long k2), (.int nd), (.int fl)] maxLocals)) t_ := fun t_ k_ => castTop (ef_law111 mM p1 p2 k1 k2 nd fl) k_
  obtain ⟨T_1, h_1, X_1, e_1, E_1, A_1, D_1, -, st_1⟩ := newO X0 hx hZ hown (ow hw 1 rfl) (ow hw 2 rfl) (ow hw 3 rfl) e0 (g := (mkF mM 30 (lc37 p1 p2 k1 k2 nd fl) [])) rfl (hb hby at_30) (by decide) (by decide)
  obtain ⟨b_1, g_1⟩ : ∃ z, z = h0.size := ⟨_, rfl⟩
  rw [← g_1] at A_1 D_1 st_1
  have g_b_1 : n0 ≤ b_1 := Nat.le_trans Z0 (Nat.le_of_eq g_1.symm)
  have sz_b_1 : h0.size ≤ b_1 := Nat.le_trans (Keep.refl h0 []).1 (Nat.le_of_eq g_1.symm)
  have Z_1 : n0 ≤ h_1.size := (Nat.le_trans Z0 E_1.1)
  have K_1 : Keep h0 h_1 [] := (Keep.refl h0 []).ext E_1
  have F_keys_b_1__1 : Fld Z h_1 b_1 "com/example/greenweft/greenweft/steiner/NodeHeap" "keys" "[J" .null := D_1 (Or.inl (ow hw 12 rfl)) (ty := (.array .long)) (by decide)
  have F_nodes_b_1__1 : Fld Z h_1 b_1 "com/example/greenweft/greenweft/steiner/NodeHeap" "nodes" "[I" .null := D_1 (Or.inl (ow hw 15 rfl)) (ty := (.array .int)) (by decide)
  have F_size_b_1__1 : Fld Z h_1 b_1 "com/example/greenweft/greenweft/steiner/NodeHeap" "size" "I" (.int (0 : Int32)) := D_1 (Or.inl (ow hw 22 rfl)) (ty := .int) (by decide)
  obtain ⟨_, _, ⟨T_2, L_2, k_2, n_2⟩, -, X_2, ⟨Lc_2, hQ_2, l_2, y_2, z_2⟩, st_2⟩ := X_1.specialBack hx (y := MN3) rfl hown (mvT hZ (ow hw 4 rfl)) (mvT hZ (ow hw 5 rfl)) (mvT hZ (ow hw 6 rfl)) (by decide) (backOf (W := 1) (rm_init l Z a0 hw [] b_1 h_1 n0 Z_1 F_keys_b_1__1 F_nodes_b_1__1 F_size_b_1__1 A_1 g_b_1) hZ (ow hw 6 rfl) (ow hw 3 rfl) (by decide) (by decide)) (g := (mkF mM 34 (lc37 p1 p2 k1 k2 nd fl) [(.ref b_1), (.ref b_1)])) rfl (by rw [hml]; rfl) (Steps.refl _) (a := b_1) (argsL := []) (rest := [(.ref b_1)]) (lenOf pd_3 rfl) rfl (by show 2 * 0 + _ ≤ _; exact Nat.le_of_eq rfl) (hb hby at_34) (fun _ _ => ⟨rfl, e_1, (by decide : 1 + 2 ≤ _), (by decide : 3 + 32 ≤ _)⟩)
  dsimp only [Pt.U, Pt.locs, Pt.cells, Pt.slots] at X_2 l_2 y_2 z_2 st_2 hQ_2
  subst l_2 y_2 z_2
  obtain ⟨d__2, ⟨g__2, ⟨kd__2, ⟨kg__2, ⟨rfl, N_2q, Kc_2, pfsz_d_2, pfsz_g_2, pfndg_2, pfE_a_2, pfF_keys_a_2, pfF_nodes_a_2, pfF_size_a_2, pfV_d_2, pfV_g_2⟩⟩⟩⟩⟩ := hQ_2
  have Z_2 : n0 ≤ T_2.heap.size := (Nat.le_trans Z_1 Kc_2.1)
  have K_2 : Keep h0 T_2.heap [] := K_1.trans Kc_2 (allS (Or.inr sz_b_1) all0)
  have sz_d__2 : h0.size ≤ d__2 := Nat.le_trans K_1.1 pfsz_d_2
  have g_d__2 : n0 ≤ d__2 := Nat.le_trans Z_1 pfsz_d_2
  have sz_g__2 : h0.size ≤ g__2 := Nat.le_trans K_1.1 pfsz_g_2
  have g_g__2 : n0 ≤ g__2 := Nat.le_trans Z_1 pfsz_g_2
  have N_2 := Fr.app N0 N_2q
  obtain ⟨cq_3, kq_3, q_3a, q_3b, q_3c⟩ := isOf hZ rfl pfE_a_2
  obtain ⟨_, _, ⟨T_3, L_3, k_3, n_3⟩, -, X_3, ⟨Lc_3, hQ_3, l_3, y_3, z_3⟩, st_3⟩ := X_2.virtualBack hx (y := MN1) (z := MN1) hown (mvT hZ (ow hw 16 rfl)) (mvT hZ (ow hw 17 rfl)) (notFace_of_selects (args := #[]) (mvT hZ (ow hw 19 rfl))) (mvT hZ (ow hw 19 rfl)) (mvT hZ (ow hw 18 rfl)) (by decide) (backOf (W := 0) (rm_ie0 l Z a0 hw [] b_1 T_2.heap n0 Z_2 pfF_size_a_2) hZ (ow hw 20 rfl) (ow hw 3 rfl) (by decide) (by decide)) q_3a q_3c (g := (mkF mM 41 (lc38 p1 p2 k1 k2 nd fl b_1) [(.ref b_1)])) rfl (by rw [hml]; rfl) (Steps.refl _) (argsL := []) (rest := []) (lenOf pd_1 rfl) rfl (by show 2 * 0 + _ ≤ _; exact Nat.le_of_eq rfl) (hb hby at_41) (fun _ _ => ⟨rfl, rfl, (by decide : 3 + 0 ≤ _), (by decide : 35 + 0 ≤ _)⟩)
  dsimp only [Pt.U, Pt.locs, Pt.cells, Pt.slots] at X_3 l_3 y_3 z_3 st_3 hQ_3
  subst l_3 y_3 z_3
  obtain ⟨rfl, N_3q, eh_3⟩ := hQ_3
  have N_3 := Fr.app N_2 N_3q
  obtain ⟨cq_4, kq_4, q_4a, q_4b, q_4c⟩ := isOf hZ eh_3 pfE_a_2
  obtain ⟨_, _, ⟨T_4, L_4, k_4, n_4⟩, -, X_4, ⟨Lc_4, hQ_4, l_4, y_4, z_4⟩, st_4⟩ := X_3.virtualBack hx (y := MN2) (z := MN2) hown (mvT hZ (ow hw 28 rfl)) (mvT hZ (ow hw 29 rfl)) (notFace_of_selects (args := #[]) (mvT hZ (ow hw 31 rfl))) (mvT hZ (ow hw 31 rfl)) (mvT hZ (ow hw 30 rfl)) (by decide) (backOf (W := 0) (rm_add0 l Z a0 hw [] b_1 d__2 g__2 kd__2 kg__2 k1 nd (0 : Int64) (0 : Int64) (0 : Int64) (0 : Int64) (0 : Int32) (0 : Int32) (0 : Int32) (0 : Int32) T_2.heap n0 Z_2 pfF_size_a_2 pfF_keys_a_2 pfF_nodes_a_2 pfE_a_2 g_b_1 g_d__2 g_g__2 pfV_d_2 pfV_g_2 pfndg_2 (Nat.ne_of_lt (Nat.lt_of_lt_of_le A_1.lt pfsz_d_2)) (Nat.ne_of_lt (Nat.lt_of_lt_of_le A_1.lt pfsz_g_2))) hZ (ow hw 32 rfl) (ow hw 3 rfl) (by decide) (by decide)) q_4a q_4c (g := (mkF mM 57 (lc39 p1 p2 k1 k2 nd fl b_1) [(.int nd), (.long k1), (.ref b_1)])) rfl (by rw [hml]; rfl) (Steps.refl _) (argsL := [(.long k1), (.int nd)]) (rest := []) (lenOf pd_2 rfl) rfl (by show 2 * 0 + _ ≤ _; exact Nat.le_of_eq rfl) (hb hby at_57) (fun _ _ => ⟨rfl, eh_3, (by decide : 3 + 0 ≤ _), (by decide : 35 + 0 ≤ _)⟩)
  dsimp only [Pt.U, Pt.locs, Pt.cells, Pt.slots] at X_4 l_4 y_4 z_4 st_4 hQ_4
  subst l_4 y_4 z_4
  obtain ⟨u0__4, ⟨u1__4, ⟨u2__4, ⟨u3__4, ⟨v0__4, ⟨v1__4, ⟨v2__4, ⟨v3__4, ⟨rfl, N_4q, Kc_4, pfF_size_a_4, pfF_keys_a_4, pfF_nodes_a_4, pfE_a_4, pfV_d_4, pfV_g_4⟩⟩⟩⟩⟩⟩⟩⟩⟩ := hQ_4
  have Z_4 : n0 ≤ T_4.heap.size := (Nat.le_trans Z_2 Kc_4.1)
  have K_4 : Keep h0 T_4.heap [] := K_2.trans Kc_4 (allS (Or.inr sz_b_1) (allS (Or.inr sz_d__2) (allS (Or.inr sz_g__2) all0)))
  have N_4 := Fr.app N_3 N_4q
  obtain ⟨cq_5, kq_5, q_5a, q_5b, q_5c⟩ := isOf hZ rfl pfE_a_4
  obtain ⟨_, _, ⟨T_5, L_5, k_5, n_5⟩, -, X_5, ⟨Lc_5, hQ_5, l_5, y_5, z_5⟩, st_5⟩ := X_4.virtualBack hx (y := MN5) (z := MN5) hown (mvT hZ (ow hw 36 rfl)) (mvT hZ (ow hw 37 rfl)) (notFace_of_selects (args := #[]) (mvT hZ (ow hw 39 rfl))) (mvT hZ (ow hw 39 rfl)) (mvT hZ (ow hw 38 rfl)) (by decide) (backOf (W := 0) (rm_take1 l Z a0 hw [] b_1 d__2 g__2 kd__2 kg__2 u0__4 u1__4 u2__4 u3__4 v0__4 v1__4 v2__4 v3__4 T_4.heap n0 Z_4 pfF_size_a_4 pfF_keys_a_4 pfF_nodes_a_4 pfE_a_4 g_b_1 g_d__2 g_g__2 pfV_d_4 pfV_g_4 pfndg_2 (Nat.ne_of_lt (Nat.lt_of_lt_of_le A_1.lt pfsz_d_2)) (Nat.ne_of_lt (Nat.lt_of_lt_of_le A_1.lt pfsz_g_2))) hZ (ow hw 40 rfl) (ow hw 3 rfl) (by decide) (by decide)) q_5a q_5c (g := (mkF mM 104 (lc39 p1 p2 k1 k2 nd fl b_1) [(.ref b_1)])) rfl (by rw [hml]; rfl) (Steps.refl _) (argsL := []) (rest := []) (lenOf pd_4 rfl) rfl (by show 2 * 0 + _ ≤ _; exact Nat.le_of_eq rfl) (hb hby at_104) (fun _ _ => ⟨rfl, rfl, (by decide : 3 + 0 ≤ _), (by decide : 35 + 0 ≤ _)⟩)
  dsimp only [Pt.U, Pt.locs, Pt.cells, Pt.slots] at X_5 l_5 y_5 z_5 st_5 hQ_5
  subst l_5 y_5 z_5
  obtain ⟨u0__5, ⟨u1__5, ⟨u2__5, ⟨u3__5, ⟨v0__5, ⟨v1__5, ⟨v2__5, ⟨v3__5, ⟨rfl, N_5q, Kc_5, pfF_size_a_5, pfF_keys_a_5, pfF_nodes_a_5, pfE_a_5, pfV_d_5, pfV_g_5⟩⟩⟩⟩⟩⟩⟩⟩⟩ := hQ_5
  have Z_5 : n0 ≤ T_5.heap.size := (Nat.le_trans Z_4 Kc_5.1)
  have K_5 : Keep h0 T_5.heap [] := K_4.trans Kc_5 (allS (Or.inr sz_b_1) (allS (Or.inr sz_d__2) (allS (Or.inr sz_g__2) all0)))
  have N_5 := Fr.app N_4 N_5q
  obtain ⟨cq_6, kq_6, q_6a, q_6b, q_6c⟩ := isOf hZ rfl pfE_a_5
  obtain ⟨_, _, ⟨T_6, L_6, k_6, n_6⟩, -, X_6, ⟨Lc_6, hQ_6, l_6, y_6, z_6⟩, st_6⟩ := X_5.virtualBack hx (y := MN4) (z := MN4) hown (mvT hZ (ow hw 23 rfl)) (mvT hZ (ow hw 24 rfl)) (notFace_of_selects (args := #[]) (mvT hZ (ow hw 26 rfl))) (mvT hZ (ow hw 26 rfl)) (mvT hZ (ow hw 25 rfl)) (by decide) (backOf (W := 0) (rm_clear l Z a0 hw [] b_1 d__2 g__2 (0 : Int32) T_5.heap n0 Z_5 pfF_size_a_5 pfF_keys_a_5 pfF_nodes_a_5 pfE_a_5 g_b_1) hZ (ow hw 27 rfl) (ow hw 3 rfl) (by decide) (by decide)) q_6a q_6c (g := (mkF mM 139 (lc39 p1 p2 k1 k2 nd fl b_1) [(.ref b_1)])) rfl (by rw [hml]; rfl) (Steps.refl _) (argsL := []) (rest := []) (lenOf pd_3 rfl) rfl (by show 2 * 0 + _ ≤ _; exact Nat.le_of_eq rfl) (hb hby at_139) (fun _ _ => ⟨rfl, rfl, (by decide : 3 + 0 ≤ _), (by decide : 35 + 0 ≤ _)⟩)
  dsimp only [Pt.U, Pt.locs, Pt.cells, Pt.slots] at X_6 l_6 y_6 z_6 st_6 hQ_6
  subst l_6 y_6 z_6
  obtain ⟨rfl, N_6q, Kc_6, pfF_size_a_6, pfF_keys_a_6, pfF_nodes_a_6, pfE_a_6⟩ := hQ_6
  have Z_6 : n0 ≤ T_6.heap.size := (Nat.le_trans Z_5 Kc_6.1)
  have K_6 : Keep h0 T_6.heap [] := K_5.trans Kc_6 (allS (Or.inr sz_b_1) all0)
  have N_6 := Fr.app N_5 N_6q
  obtain ⟨T_7, h_7, L_7, X_7, e_7, N_7, Kc_7, st_7⟩ := pc_tail0 p1 p2 k1 k2 nd fl (1 : Int32) (1 : Int32) (1 : Int32) b_1 d__2 g__2 kd__2 kg__2 u0__5 u1__5 u2__5 u3__5 v0__5 v1__5 v2__5 v3__5 X_6 hx hZ hw hby hml hown rfl N_6 Z_6 pfF_size_a_6 pfF_keys_a_6 pfF_nodes_a_6 pfE_a_6 g_b_1 g_d__2 g_g__2 (pfV_d_5.keep Kc_6 (ninS (Ne.symm (Nat.ne_of_lt (Nat.lt_of_lt_of_le A_1.lt pfsz_d_2))) nin0)) (pfV_g_5.keep Kc_6 (ninS (Ne.symm (Nat.ne_of_lt (Nat.lt_of_lt_of_le A_1.lt pfsz_g_2))) nin0)) pfndg_2 (Nat.ne_of_lt (Nat.lt_of_lt_of_le A_1.lt pfsz_d_2)) (Nat.ne_of_lt (Nat.lt_of_lt_of_le A_1.lt pfsz_g_2))
  have Z_7 : n0 ≤ h_7.size := (Nat.le_trans Z_6 Kc_7.1)
  have K_7 : Keep h0 h_7 [] := K_6.trans Kc_7 (allS (Or.inr sz_b_1) (allS (Or.inr sz_d__2) (allS (Or.inr sz_g__2) all0)))
  obtain ⟨fs, hr, hrun, hended, hW, hsame⟩ := X_7.leave (v := some (.int (1 : Int32))) (fun h => by rw [Bd.returns] at h; cases h)
  refine ⟨_, _, pre0 _ ?_, hrun, hended, _, _, rfl, ?_, ⟨_, rfl⟩, hW, hsame.mono (by decide) (by decide)⟩
  · show oS pP eE below s₁ (mkF mM 0 (lc6 p1 p2 k1 k2 nd fl) []) _
    refine XS.iloadN X0.here hx rfl (hb hby at_0) rfl ?_
    refine XS.iconst X0.here hx rfl (hb hby at_1) ?_
    show oS pP eE below s₁ (mkF mM 2 (lc6 p1 p2 k1 k2 nd fl) [(.int (3 : Int32)), (.int p1)]) _
    refine XS.iand X0.here hx rfl (hb hby at_2) rfl ?_
    show oS pP eE below s₁ (mkF mM 3 (lc6 p1 p2 k1 k2 nd fl) [(.int (p1 &&& (3 : Int32)))]) _
    rw [hn]
    refine XS.istore X0.here hx rfl (hb hby at_3) rfl (l' := (lc19 p1 p2 k1 k2 nd fl)) rfl ?_
    refine XS.iloadN X0.here hx rfl (hb hby at_5) rfl ?_
    show oS pP eE below s₁ (mkF mM 6 (lc19 p1 p2 k1 k2 nd fl) [(.int p2)]) _
    refine X0.ldcI hx hown (mvT hZ (ow hw 0 rfl)) (g := (mkF mM 6 (lc19 p1 p2 k1 k2 nd fl) [(.int p2)])) rfl (hb hby at_6) ?_
    show oS pP eE below s₁ (mkF mM 8 (lc19 p1 p2 k1 k2 nd fl) [(.int (2147483647 : Int32)), (.int p2)]) _
    refine XS.iand X0.here hx rfl (hb hby at_8) rfl ?_
    refine XS.iload X0.here hx rfl (hb hby at_9) rfl ?_
    refine XS.iconst X0.here hx rfl (hb hby at_11) ?_
    show oS pP eE below s₁ (mkF mM 12 (lc19 p1 p2 k1 k2 nd fl) [(.int (1 : Int32)), (.int (1 : Int32)), (.int (p2 &&& (2147483647 : Int32)))]) _
    refine XS.iadd X0.here hx rfl (hb hby at_12) rfl ?_
    show oS pP eE below s₁ (mkF mM 13 (lc19 p1 p2 k1 k2 nd fl) [(.int ((1 : Int32) + (1 : Int32))), (.int (p2 &&& (2147483647 : Int32)))]) _
    rw [(by decide : ((1 : Int32) + (1 : Int32)) = (2 : Int32))]
    show oS pP eE below s₁ (mkF mM 13 (lc19 p1 p2 k1 k2 nd fl) [(.int (2 : Int32)), (.int (p2 &&& (2147483647 : Int32)))]) _
    refine iremM X0 hx rfl (hb hby at_13) rfl (by decide) ?_
    show oS pP eE below s₁ (mkF mM 14 (lc19 p1 p2 k1 k2 nd fl) [(.int ((p2 &&& (2147483647 : Int32)) % (2 : Int32)))]) _
    rw [ht]
    refine XS.istore X0.here hx rfl (hb hby at_14) rfl (l' := (lc31 p1 p2 k1 k2 nd fl)) rfl ?_
    refine XS.iload X0.here hx rfl (hb hby at_16) rfl ?_
    refine XS.iconst X0.here hx rfl (hb hby at_18) ?_
    show oS pP eE below s₁ (mkF mM 19 (lc31 p1 p2 k1 k2 nd fl) [(.int (1 : Int32)), (.int fl)]) _
    refine XS.iand X0.here hx rfl (hb hby at_19) rfl ?_
    refine XS.ifNo X0.here hx rfl (hb hby at_20) rfl (XT.i0_eq_f hc) ?_
    refine XS.iconst X0.here hx rfl (hb hby at_23) ?_
    refine XS.goto X0.here hx rfl (pc0 := 24) (pc' := 28) rfl (hb hby at_24) (by decide) (by decide) ?_
    refine XS.istore X0.here hx rfl (hb hby at_28) rfl (l' := (lc37 p1 p2 k1 k2 nd fl)) rfl ?_
    show oS pP eE below s₁ (mkF mM 30 (lc37 p1 p2 k1 k2 nd fl) []) _
    refine st_1 _ ?_
    show oS pP eE below T_1 (mkF mM 33 (lc37 p1 p2 k1 k2 nd fl) [(.ref b_1)]) _
    refine XS.dup X_1.here hx rfl (hb hby at_33) rfl rfl ?_
    show oS pP eE below T_1 (mkF mM 34 (lc37 p1 p2 k1 k2 nd fl) [(.ref b_1), (.ref b_1)]) _
    refine st_2.trans ?_
    show oS pP eE below T_2 (mkF mM 37 (lc37 p1 p2 k1 k2 nd fl) [(.ref b_1)]) _
    refine XS.astore X_2.here hx rfl (hb hby at_37) rfl rfl (l' := (lc38 p1 p2 k1 k2 nd fl b_1)) rfl ?_
    refine XS.aload X_2.here hx rfl (hb hby at_39) rfl rfl ?_
    show oS pP eE below T_2 (mkF mM 41 (lc38 p1 p2 k1 k2 nd fl b_1) [(.ref b_1)]) _
    refine st_3.trans ?_
    show oS pP eE below T_3 (mkF mM 44 (lc38 p1 p2 k1 k2 nd fl b_1) [(.int (1 : Int32))]) _
    refine XS.istore X_3.here hx rfl (hb hby at_44) rfl (l' := (lc39 p1 p2 k1 k2 nd fl b_1)) rfl ?_
    refine XS.iload X_3.here hx rfl (hb hby at_46) rfl ?_
    refine XS.iconst X_3.here hx rfl (hb hby at_48) ?_
    refine XS.icmpNo X_3.here hx rfl (hb hby at_49) rfl (by decide) ?_
    refine XS.aload X_3.here hx rfl (hb hby at_52) rfl rfl ?_
    refine XT.lloadN X_3.here hx rfl (hb hby at_54) rfl ?_
    refine XS.iload X_3.here hx rfl (hb hby at_55) rfl ?_
    show oS pP eE below T_3 (mkF mM 57 (lc39 p1 p2 k1 k2 nd fl b_1) [(.int nd), (.long k1), (.ref b_1)]) _
    refine st_4.trans ?_
    show oS pP eE below T_4 (mkF mM 60 (lc39 p1 p2 k1 k2 nd fl b_1) []) _
    refine XS.iload X_4.here hx rfl (hb hby at_60) rfl ?_
    refine XS.iconst X_4.here hx rfl (hb hby at_62) ?_
    refine XS.icmpYes X_4.here hx rfl (pc0 := 63) (pc' := 77) rfl (hb hby at_63) rfl (by decide) (by decide) (by decide) ?_
    refine XS.iload X_4.here hx rfl (hb hby at_77) rfl ?_
    refine XS.iconst X_4.here hx rfl (hb hby at_79) ?_
    refine XS.icmpYes X_4.here hx rfl (pc0 := 80) (pc' := 96) rfl (hb hby at_80) rfl (by decide) (by decide) (by decide) ?_
    refine XS.iload X_4.here hx rfl (hb hby at_96) rfl ?_
    refine XS.iconst X_4.here hx rfl (hb hby at_98) ?_
    show oS pP eE below T_4 (mkF mM 99 (lc39 p1 p2 k1 k2 nd fl b_1) [(.int (1 : Int32)), (.int (1 : Int32))]) _
    refine XS.icmpNo X_4.here hx rfl (hb hby at_99) rfl (by decide) ?_
    refine XS.aload X_4.here hx rfl (hb hby at_102) rfl rfl ?_
    show oS pP eE below T_4 (mkF mM 104 (lc39 p1 p2 k1 k2 nd fl b_1) [(.ref b_1)]) _
    refine st_5.trans ?_
    show oS pP eE below T_5 (mkF mM 107 (lc39 p1 p2 k1 k2 nd fl b_1) [(.int v0__4)]) _
    refine XT.pop X_5.here hx rfl (hb hby at_107) rfl rfl ?_
    refine XS.iload X_5.here hx rfl (hb hby at_108) rfl ?_
    refine XS.iconst X_5.here hx rfl (hb hby at_110) ?_
    refine XS.icmpYes X_5.here hx rfl (pc0 := 111) (pc' := 120) rfl (hb hby at_111) rfl (by decide) (by decide) (by decide) ?_
    refine XS.iload X_5.here hx rfl (hb hby at_120) rfl ?_
    refine XS.iconst X_5.here hx rfl (hb hby at_122) ?_
    refine XS.icmpYes X_5.here hx rfl (pc0 := 123) (pc' := 132) rfl (hb hby at_123) rfl (by decide) (by decide) (by decide) ?_
    refine XS.iload X_5.here hx rfl (hb hby at_132) rfl ?_
    show oS pP eE below T_5 (mkF mM 134 (lc39 p1 p2 k1 k2 nd fl b_1) [(.int (1 : Int32))]) _
    refine XS.ifNo X_5.here hx rfl (hb hby at_134) rfl (by decide) ?_
    refine XS.aload X_5.here hx rfl (hb hby at_137) rfl rfl ?_
    show oS pP eE below T_5 (mkF mM 139 (lc39 p1 p2 k1 k2 nd fl b_1) [(.ref b_1)]) _
    refine st_6.trans ?_
    show oS pP eE below T_6 (mkF mM 142 (lc39 p1 p2 k1 k2 nd fl b_1) []) _
    refine XS.iload X_6.here hx rfl (hb hby at_142) rfl ?_
    refine XS.ifYes X_6.here hx rfl (pc0 := 144) (pc' := 155) rfl (hb hby at_144) rfl (by decide) (by decide) (by decide) ?_
    refine XS.iconst X_6.here hx rfl (hb hby at_155) ?_
    refine XS.goto X_6.here hx rfl (pc0 := 156) (pc' := 160) rfl (hb hby at_156) (by decide) (by decide) ?_
    refine XS.istore X_6.here hx rfl (hb hby at_160) rfl (l' := (lc40 p1 p2 k1 k2 nd fl b_1)) rfl ?_
    show oS pP eE below T_6 (mkF mM 162 (lc40 p1 p2 k1 k2 nd fl b_1) []) _
    refine st_7 _ ?_
    show oS pP eE below T_7 (mkF mM 207 (lc41 p1 p2 k1 k2 nd fl b_1) [(.int (1 : Int32))]) _
    exact retN X_7 hx (t := .boolean) Bd.returns (by simp) (hb hby at_207) hr
  · show Q_law111 Z p1 p2 k1 k2 nd fl h0 n0 _ T_7.heap _
    exact ⟨rfl, N_7⟩
abbrev lc42 (p1 : Int32) (p2 : Int32) (k1 : Int64) (k2 : Int64) (nd : Int32) (fl : Int32) : Array Slot := #[.val (.int p1), .val (.int p2), .val (.long k1), .second, .val (.long k2), .second, .val (.int nd), .val (.int fl), .val (.int (2 : Int32)), .unset, .unset, .unset, .unset, .unset, .unset, .unset]
abbrev lc43 (p1 : Int32) (p2 : Int32) (k1 : Int64) (k2 : Int64) (nd : Int32) (fl : Int32) : Array Slot := #[.val (.int p1), .val (.int p2), .val (.long k1), .second, .val (.long k2), .second, .val (.int nd), .val (.int fl), .val (.int (2 : Int32)), .val (.int (0 : Int32)), .unset, .unset, .unset, .unset, .unset, .unset]
abbrev lc44 (p1 : Int32) (p2 : Int32) (k1 : Int64) (k2 : Int64) (nd : Int32) (fl : Int32) : Array Slot := #[.val (.int p1), .val (.int p2), .val (.long k1), .second, .val (.long k2), .second, .val (.int nd), .val (.int fl), .val (.int (2 : Int32)), .val (.int (0 : Int32)), .val (.int (0 : Int32)), .unset, .unset, .unset, .unset, .unset]
abbrev lc45 (p1 : Int32) (p2 : Int32) (k1 : Int64) (k2 : Int64) (nd : Int32) (fl : Int32) (b_1 : Addr) : Array Slot := #[.val (.int p1), .val (.int p2), .val (.long k1), .second, .val (.long k2), .second, .val (.int nd), .val (.int fl), .val (.int (2 : Int32)), .val (.int (0 : Int32)), .val (.int (0 : Int32)), .val (.ref b_1), .unset, .unset, .unset, .unset]
abbrev lc46 (p1 : Int32) (p2 : Int32) (k1 : Int64) (k2 : Int64) (nd : Int32) (fl : Int32) (b_1 : Addr) : Array Slot := #[.val (.int p1), .val (.int p2), .val (.long k1), .second, .val (.long k2), .second, .val (.int nd), .val (.int fl), .val (.int (2 : Int32)), .val (.int (0 : Int32)), .val (.int (0 : Int32)), .val (.ref b_1), .val (.int (1 : Int32)), .unset, .unset, .unset]
abbrev lc47 (p1 : Int32) (p2 : Int32) (k1 : Int64) (k2 : Int64) (nd : Int32) (fl : Int32) (b_1 : Addr) : Array Slot := #[.val (.int p1), .val (.int p2), .val (.long k1), .second, .val (.long k2), .second, .val (.int nd), .val (.int fl), .val (.int (2 : Int32)), .val (.int (0 : Int32)), .val (.int (0 : Int32)), .val (.ref b_1), .val (.int (1 : Int32)), .val (.int (0 : Int32)), .unset, .unset]
abbrev lc48 (p1 : Int32) (p2 : Int32) (k1 : Int64) (k2 : Int64) (nd : Int32) (fl : Int32) (b_1 : Addr) : Array Slot := #[.val (.int p1), .val (.int p2), .val (.long k1), .second, .val (.long k2), .second, .val (.int nd), .val (.int fl), .val (.int (2 : Int32)), .val (.int (0 : Int32)), .val (.int (0 : Int32)), .val (.ref b_1), .val (.int (1 : Int32)), .val (.int (0 : Int32)), .val (.int (0 : Int32)), .val (.int (0 : Int32))]
theorem ef_law200 (mM : MethodId) (x0 : Int32) (x1 : Int32) (x2 : Int64) (x3 : Int64) (x4 : Int32) (x5 : Int32) : entryFrame mM #[(.int x0), (.int x1), (.long x2), (.long x3), (.int x4), (.int x5)] maxLocals = mkF mM 0 #[.val (.int x0), .val (.int x1), .val (.long x2), .second, .val (.long x3), .second, .val (.int x4), .val (.int x5), .unset, .unset, .unset, .unset, .unset, .unset, .unset, .unset] [] := by first | (simp [entryFrame, mkF, argsToLocals, Value.category, maxLocals]; done) | rfl
def Q_law200 (Z : State) (p1 : Int32) (p2 : Int32) (k1 : Int64) (k2 : Int64) (nd : Int32) (fl : Int32) (h0 : Heap) (n0 : Nat) (v_ : Option Value) (h_ : Heap) (L_ : List Loc) : Prop := v_ = some (.int (1 : Int32)) ∧ Fr n0 L_
set_option maxRecDepth 65536 in
set_option maxHeartbeats 40000000 in
theorem rm_law200 (l : Launch) (Z : State) (a0 : Array Value) (hw : ∀ d ∈ tables_1, d.before a0 Z = true) (ws : List Jvm.Cond) (p1 : Int32) (p2 : Int32) (k1 : Int64) (k2 : Int64) (nd : Int32) (fl : Int32) (h0 : Heap) (n0 : Nat) (Z0 : n0 ≤ h0.size) (hn : (p1 &&& (3 : Int32)) = (2 : Int32)) (ht : ((p2 &&& (2147483647 : Int32)) % (3 : Int32)) = (0 : Int32)) (hc : (fl &&& (1 : Int32)) = 0) :
    MetFree l x (head1 (Jvm.Cond.code x code maxLocals ret :: ws) room_1) (fun aa_ U_ => aa_ = #[(.int p1), (.int p2), (.long k1), (.long k2), (.int nd), (.int fl)] ∧ Z.Warmed39 U_.vm ∧ U_.heap = h0) (fun _ _ _ _ _ => True) (fun _ U_ o_ U'_ => ∃ v_ L_, o_ = .returned v_ ∧ Q_law200 Z p1 p2 k1 k2 nd fl h0 n0 v_ U'_.heap L_ ∧ FrameEnd U_ o_ U'_ L_ 3 35) := by
  refine MetFree.of_bodySF (plainFor_of_name pn_1) hisR ?_
  intro pP eE sS mM argsA below meth cC s₁ Bd hml0 hP hK
  obtain ⟨rfl, hZ, hh⟩ := hP
  have hx := Bd.exec
  have hby := Bd.bytes
  have hml : cC.maxLocals = 16 := hml0
  have hown : sS.vm.findClass "com/example/greenweft/greenweft/steiner/NodeHeapIsEmptyPinLaw" = some mM.cls := findClass_of_methodNamed Bd.named
  have hnm := (name_of_methodNamed Bd.named Bd.method).1
  have X0 : Stand pP l eE room_1 sS mM #[(.int p1), (.int p2), (.long k1), (.long k2), (.int nd), (.int fl)] below meth cC s₁ [] 0 0 := Stand.of_body Bd
  have e0 : s₁.heap = h0 := by rw [← hh, Bd.state]; rfl
  have N0 := Fr.nil n0
  have pre0 : ∀ t_, Steps pP.tables eE below (s₁.setTop (mkF mM 0 #[.val (.int p1), .val (.int p2), .val (.long k1), .second, .val (.long k2), .second, .val (.int nd), .val (.int fl), .unset, .unset, .unset, .unset, .unset, .unset, .unset, .unset] [])) t_ → Steps pP.tables eE below (s₁.setTop (entryFrame mM #[(.int p1), (.int p2), (.long k1), (.long k2), (.int nd), (.int fl)] maxLocals)) t_ := fun t_ k_ => castTop (ef_law200 mM p1 p2 k1 k2 nd fl) k_
  obtain ⟨T_1, h_1, X_1, e_1, E_1, A_1, D_1, -, st_1⟩ := newO X0 hx hZ hown (ow hw 1 rfl) (ow hw 2 rfl) (ow hw 3 rfl) e0 (g := (mkF mM 30 (lc44 p1 p2 k1 k2 nd fl) [])) rfl (hb hby at_30) (by decide) (by decide)
  obtain ⟨b_1, g_1⟩ : ∃ z, z = h0.size := ⟨_, rfl⟩
  rw [← g_1] at A_1 D_1 st_1
  have g_b_1 : n0 ≤ b_1 := Nat.le_trans Z0 (Nat.le_of_eq g_1.symm)
  have sz_b_1 : h0.size ≤ b_1 := Nat.le_trans (Keep.refl h0 []).1 (Nat.le_of_eq g_1.symm)
  have Z_1 : n0 ≤ h_1.size := (Nat.le_trans Z0 E_1.1)
  have K_1 : Keep h0 h_1 [] := (Keep.refl h0 []).ext E_1
  have F_keys_b_1__1 : Fld Z h_1 b_1 "com/example/greenweft/greenweft/steiner/NodeHeap" "keys" "[J" .null := D_1 (Or.inl (ow hw 12 rfl)) (ty := (.array .long)) (by decide)
  have F_nodes_b_1__1 : Fld Z h_1 b_1 "com/example/greenweft/greenweft/steiner/NodeHeap" "nodes" "[I" .null := D_1 (Or.inl (ow hw 15 rfl)) (ty := (.array .int)) (by decide)
  have F_size_b_1__1 : Fld Z h_1 b_1 "com/example/greenweft/greenweft/steiner/NodeHeap" "size" "I" (.int (0 : Int32)) := D_1 (Or.inl (ow hw 22 rfl)) (ty := .int) (by decide)
  obtain ⟨_, _, ⟨T_2, L_2, k_2, n_2⟩, -, X_2, ⟨Lc_2, hQ_2, l_2, y_2, z_2⟩, st_2⟩ := X_1.specialBack hx (y := MN3) rfl hown (mvT hZ (ow hw 4 rfl)) (mvT hZ (ow hw 5 rfl)) (mvT hZ (ow hw 6 rfl)) (by decide) (backOf (W := 1) (rm_init l Z a0 hw [] b_1 h_1 n0 Z_1 F_keys_b_1__1 F_nodes_b_1__1 F_size_b_1__1 A_1 g_b_1) hZ (ow hw 6 rfl) (ow hw 3 rfl) (by decide) (by decide)) (g := (mkF mM 34 (lc44 p1 p2 k1 k2 nd fl) [(.ref b_1), (.ref b_1)])) rfl (by rw [hml]; rfl) (Steps.refl _) (a := b_1) (argsL := []) (rest := [(.ref b_1)]) (lenOf pd_3 rfl) rfl (by show 2 * 0 + _ ≤ _; exact Nat.le_of_eq rfl) (hb hby at_34) (fun _ _ => ⟨rfl, e_1, (by decide : 1 + 2 ≤ _), (by decide : 3 + 32 ≤ _)⟩)
  dsimp only [Pt.U, Pt.locs, Pt.cells, Pt.slots] at X_2 l_2 y_2 z_2 st_2 hQ_2
  subst l_2 y_2 z_2
  obtain ⟨d__2, ⟨g__2, ⟨kd__2, ⟨kg__2, ⟨rfl, N_2q, Kc_2, pfsz_d_2, pfsz_g_2, pfndg_2, pfE_a_2, pfF_keys_a_2, pfF_nodes_a_2, pfF_size_a_2, pfV_d_2, pfV_g_2⟩⟩⟩⟩⟩ := hQ_2
  have Z_2 : n0 ≤ T_2.heap.size := (Nat.le_trans Z_1 Kc_2.1)
  have K_2 : Keep h0 T_2.heap [] := K_1.trans Kc_2 (allS (Or.inr sz_b_1) all0)
  have sz_d__2 : h0.size ≤ d__2 := Nat.le_trans K_1.1 pfsz_d_2
  have g_d__2 : n0 ≤ d__2 := Nat.le_trans Z_1 pfsz_d_2
  have sz_g__2 : h0.size ≤ g__2 := Nat.le_trans K_1.1 pfsz_g_2
  have g_g__2 : n0 ≤ g__2 := Nat.le_trans Z_1 pfsz_g_2
  have N_2 := Fr.app N0 N_2q
  obtain ⟨cq_3, kq_3, q_3a, q_3b, q_3c⟩ := isOf hZ rfl pfE_a_2
  obtain ⟨_, _, ⟨T_3, L_3, k_3, n_3⟩, -, X_3, ⟨Lc_3, hQ_3, l_3, y_3, z_3⟩, st_3⟩ := X_2.virtualBack hx (y := MN1) (z := MN1) hown (mvT hZ (ow hw 16 rfl)) (mvT hZ (ow hw 17 rfl)) (notFace_of_selects (args := #[]) (mvT hZ (ow hw 19 rfl))) (mvT hZ (ow hw 19 rfl)) (mvT hZ (ow hw 18 rfl)) (by decide) (backOf (W := 0) (rm_ie0 l Z a0 hw [] b_1 T_2.heap n0 Z_2 pfF_size_a_2) hZ (ow hw 20 rfl) (ow hw 3 rfl) (by decide) (by decide)) q_3a q_3c (g := (mkF mM 41 (lc45 p1 p2 k1 k2 nd fl b_1) [(.ref b_1)])) rfl (by rw [hml]; rfl) (Steps.refl _) (argsL := []) (rest := []) (lenOf pd_1 rfl) rfl (by show 2 * 0 + _ ≤ _; exact Nat.le_of_eq rfl) (hb hby at_41) (fun _ _ => ⟨rfl, rfl, (by decide : 3 + 0 ≤ _), (by decide : 35 + 0 ≤ _)⟩)
  dsimp only [Pt.U, Pt.locs, Pt.cells, Pt.slots] at X_3 l_3 y_3 z_3 st_3 hQ_3
  subst l_3 y_3 z_3
  obtain ⟨rfl, N_3q, eh_3⟩ := hQ_3
  have N_3 := Fr.app N_2 N_3q
  obtain ⟨cq_4, kq_4, q_4a, q_4b, q_4c⟩ := isOf hZ eh_3 pfE_a_2
  obtain ⟨_, _, ⟨T_4, L_4, k_4, n_4⟩, -, X_4, ⟨Lc_4, hQ_4, l_4, y_4, z_4⟩, st_4⟩ := X_3.virtualBack hx (y := MN2) (z := MN2) hown (mvT hZ (ow hw 28 rfl)) (mvT hZ (ow hw 29 rfl)) (notFace_of_selects (args := #[]) (mvT hZ (ow hw 31 rfl))) (mvT hZ (ow hw 31 rfl)) (mvT hZ (ow hw 30 rfl)) (by decide) (backOf (W := 0) (rm_add0 l Z a0 hw [] b_1 d__2 g__2 kd__2 kg__2 k1 nd (0 : Int64) (0 : Int64) (0 : Int64) (0 : Int64) (0 : Int32) (0 : Int32) (0 : Int32) (0 : Int32) T_2.heap n0 Z_2 pfF_size_a_2 pfF_keys_a_2 pfF_nodes_a_2 pfE_a_2 g_b_1 g_d__2 g_g__2 pfV_d_2 pfV_g_2 pfndg_2 (Nat.ne_of_lt (Nat.lt_of_lt_of_le A_1.lt pfsz_d_2)) (Nat.ne_of_lt (Nat.lt_of_lt_of_le A_1.lt pfsz_g_2))) hZ (ow hw 32 rfl) (ow hw 3 rfl) (by decide) (by decide)) q_4a q_4c (g := (mkF mM 57 (lc46 p1 p2 k1 k2 nd fl b_1) [(.int nd), (.long k1), (.ref b_1)])) rfl (by rw [hml]; rfl) (Steps.refl _) (argsL := [(.long k1), (.int nd)]) (rest := []) (lenOf pd_2 rfl) rfl (by show 2 * 0 + _ ≤ _; exact Nat.le_of_eq rfl) (hb hby at_57) (fun _ _ => ⟨rfl, eh_3, (by decide : 3 + 0 ≤ _), (by decide : 35 + 0 ≤ _)⟩)
  dsimp only [Pt.U, Pt.locs, Pt.cells, Pt.slots] at X_4 l_4 y_4 z_4 st_4 hQ_4
  subst l_4 y_4 z_4
  obtain ⟨u0__4, ⟨u1__4, ⟨u2__4, ⟨u3__4, ⟨v0__4, ⟨v1__4, ⟨v2__4, ⟨v3__4, ⟨rfl, N_4q, Kc_4, pfF_size_a_4, pfF_keys_a_4, pfF_nodes_a_4, pfE_a_4, pfV_d_4, pfV_g_4⟩⟩⟩⟩⟩⟩⟩⟩⟩ := hQ_4
  have Z_4 : n0 ≤ T_4.heap.size := (Nat.le_trans Z_2 Kc_4.1)
  have K_4 : Keep h0 T_4.heap [] := K_2.trans Kc_4 (allS (Or.inr sz_b_1) (allS (Or.inr sz_d__2) (allS (Or.inr sz_g__2) all0)))
  have N_4 := Fr.app N_3 N_4q
  obtain ⟨cq_5, kq_5, q_5a, q_5b, q_5c⟩ := isOf hZ rfl pfE_a_4
  obtain ⟨_, _, ⟨T_5, L_5, k_5, n_5⟩, -, X_5, ⟨Lc_5, hQ_5, l_5, y_5, z_5⟩, st_5⟩ := X_4.virtualBack hx (y := MN2) (z := MN2) hown (mvT hZ (ow hw 28 rfl)) (mvT hZ (ow hw 29 rfl)) (notFace_of_selects (args := #[]) (mvT hZ (ow hw 31 rfl))) (mvT hZ (ow hw 31 rfl)) (mvT hZ (ow hw 30 rfl)) (by decide) (backOf (W := 0) (rm_add1 l Z a0 hw [] b_1 d__2 g__2 kd__2 kg__2 k2 (nd + (1 : Int32)) u0__4 u1__4 u2__4 u3__4 v0__4 v1__4 v2__4 v3__4 T_4.heap n0 Z_4 pfF_size_a_4 pfF_keys_a_4 pfF_nodes_a_4 pfE_a_4 g_b_1 g_d__2 g_g__2 pfV_d_4 pfV_g_4 pfndg_2 (Nat.ne_of_lt (Nat.lt_of_lt_of_le A_1.lt pfsz_d_2)) (Nat.ne_of_lt (Nat.lt_of_lt_of_le A_1.lt pfsz_g_2))) hZ (ow hw 32 rfl) (ow hw 3 rfl) (by decide) (by decide)) q_5a q_5c (g := (mkF mM 74 (lc46 p1 p2 k1 k2 nd fl b_1) [(.int (nd + (1 : Int32))), (.long k2), (.ref b_1)])) rfl (by rw [hml]; rfl) (Steps.refl _) (argsL := [(.long k2), (.int (nd + (1 : Int32)))]) (rest := []) (lenOf pd_2 rfl) rfl (by show 2 * 0 + _ ≤ _; exact Nat.le_of_eq rfl) (hb hby at_74) (fun _ _ => ⟨rfl, rfl, (by decide : 3 + 0 ≤ _), (by decide : 35 + 0 ≤ _)⟩)
  dsimp only [Pt.U, Pt.locs, Pt.cells, Pt.slots] at X_5 l_5 y_5 z_5 st_5 hQ_5
  subst l_5 y_5 z_5
  obtain ⟨u0__5, ⟨u1__5, ⟨u2__5, ⟨u3__5, ⟨v0__5, ⟨v1__5, ⟨v2__5, ⟨v3__5, ⟨rfl, N_5q, Kc_5, pfF_size_a_5, pfF_keys_a_5, pfF_nodes_a_5, pfE_a_5, pfV_d_5, pfV_g_5⟩⟩⟩⟩⟩⟩⟩⟩⟩ := hQ_5
  have Z_5 : n0 ≤ T_5.heap.size := (Nat.le_trans Z_4 Kc_5.1)
  have K_5 : Keep h0 T_5.heap [] := K_4.trans Kc_5 (allS (Or.inr sz_b_1) (allS (Or.inr sz_d__2) (allS (Or.inr sz_g__2) all0)))
  have N_5 := Fr.app N_4 N_5q
  obtain ⟨T_6, h_6, L_6, X_6, e_6, N_6, Kc_6, st_6⟩ := pc_tail2 p1 p2 k1 k2 nd fl (2 : Int32) (0 : Int32) (0 : Int32) b_1 d__2 g__2 kd__2 kg__2 u0__5 u1__5 u2__5 u3__5 v0__5 v1__5 v2__5 v3__5 X_5 hx hZ hw hby hml hown rfl N_5 Z_5 pfF_size_a_5 pfF_keys_a_5 pfF_nodes_a_5 pfE_a_5 g_b_1 g_d__2 g_g__2 pfV_d_5 pfV_g_5 pfndg_2 (Nat.ne_of_lt (Nat.lt_of_lt_of_le A_1.lt pfsz_d_2)) (Nat.ne_of_lt (Nat.lt_of_lt_of_le A_1.lt pfsz_g_2))
  have Z_6 : n0 ≤ h_6.size := (Nat.le_trans Z_5 Kc_6.1)
  have K_6 : Keep h0 h_6 [] := K_5.trans Kc_6 (allS (Or.inr sz_b_1) (allS (Or.inr sz_d__2) (allS (Or.inr sz_g__2) all0)))
  obtain ⟨fs, hr, hrun, hended, hW, hsame⟩ := X_6.leave (v := some (.int (1 : Int32))) (fun h => by rw [Bd.returns] at h; cases h)
  refine ⟨_, _, pre0 _ ?_, hrun, hended, _, _, rfl, ?_, ⟨_, rfl⟩, hW, hsame.mono (by decide) (by decide)⟩
  · show oS pP eE below s₁ (mkF mM 0 (lc6 p1 p2 k1 k2 nd fl) []) _
    refine XS.iloadN X0.here hx rfl (hb hby at_0) rfl ?_
    refine XS.iconst X0.here hx rfl (hb hby at_1) ?_
    show oS pP eE below s₁ (mkF mM 2 (lc6 p1 p2 k1 k2 nd fl) [(.int (3 : Int32)), (.int p1)]) _
    refine XS.iand X0.here hx rfl (hb hby at_2) rfl ?_
    show oS pP eE below s₁ (mkF mM 3 (lc6 p1 p2 k1 k2 nd fl) [(.int (p1 &&& (3 : Int32)))]) _
    rw [hn]
    refine XS.istore X0.here hx rfl (hb hby at_3) rfl (l' := (lc42 p1 p2 k1 k2 nd fl)) rfl ?_
    refine XS.iloadN X0.here hx rfl (hb hby at_5) rfl ?_
    show oS pP eE below s₁ (mkF mM 6 (lc42 p1 p2 k1 k2 nd fl) [(.int p2)]) _
    refine X0.ldcI hx hown (mvT hZ (ow hw 0 rfl)) (g := (mkF mM 6 (lc42 p1 p2 k1 k2 nd fl) [(.int p2)])) rfl (hb hby at_6) ?_
    show oS pP eE below s₁ (mkF mM 8 (lc42 p1 p2 k1 k2 nd fl) [(.int (2147483647 : Int32)), (.int p2)]) _
    refine XS.iand X0.here hx rfl (hb hby at_8) rfl ?_
    refine XS.iload X0.here hx rfl (hb hby at_9) rfl ?_
    refine XS.iconst X0.here hx rfl (hb hby at_11) ?_
    show oS pP eE below s₁ (mkF mM 12 (lc42 p1 p2 k1 k2 nd fl) [(.int (1 : Int32)), (.int (2 : Int32)), (.int (p2 &&& (2147483647 : Int32)))]) _
    refine XS.iadd X0.here hx rfl (hb hby at_12) rfl ?_
    show oS pP eE below s₁ (mkF mM 13 (lc42 p1 p2 k1 k2 nd fl) [(.int ((2 : Int32) + (1 : Int32))), (.int (p2 &&& (2147483647 : Int32)))]) _
    rw [(by decide : ((2 : Int32) + (1 : Int32)) = (3 : Int32))]
    show oS pP eE below s₁ (mkF mM 13 (lc42 p1 p2 k1 k2 nd fl) [(.int (3 : Int32)), (.int (p2 &&& (2147483647 : Int32)))]) _
    refine iremM X0 hx rfl (hb hby at_13) rfl (by decide) ?_
    show oS pP eE below s₁ (mkF mM 14 (lc42 p1 p2 k1 k2 nd fl) [(.int ((p2 &&& (2147483647 : Int32)) % (3 : Int32)))]) _
    rw [ht]
    refine XS.istore X0.here hx rfl (hb hby at_14) rfl (l' := (lc43 p1 p2 k1 k2 nd fl)) rfl ?_
    refine XS.iload X0.here hx rfl (hb hby at_16) rfl ?_
    refine XS.iconst X0.here hx rfl (hb hby at_18) ?_
    show oS pP eE below s₁ (mkF mM 19 (lc43 p1 p2 k1 k2 nd fl) [(.int (1 : Int32)), (.int fl)]) _
    refine XS.iand X0.here hx rfl (hb hby at_19) rfl ?_
    refine XS.ifYes X0.here hx rfl (pc0 := 20) (pc' := 27) rfl (hb hby at_20) rfl (XT.i0_eq_t hc) (by decide) (by decide) ?_
    refine XS.iconst X0.here hx rfl (hb hby at_27) ?_
    refine XS.istore X0.here hx rfl (hb hby at_28) rfl (l' := (lc44 p1 p2 k1 k2 nd fl)) rfl ?_
    show oS pP eE below s₁ (mkF mM 30 (lc44 p1 p2 k1 k2 nd fl) []) _
    refine st_1 _ ?_
    show oS pP eE below T_1 (mkF mM 33 (lc44 p1 p2 k1 k2 nd fl) [(.ref b_1)]) _
    refine XS.dup X_1.here hx rfl (hb hby at_33) rfl rfl ?_
    show oS pP eE below T_1 (mkF mM 34 (lc44 p1 p2 k1 k2 nd fl) [(.ref b_1), (.ref b_1)]) _
    refine st_2.trans ?_
    show oS pP eE below T_2 (mkF mM 37 (lc44 p1 p2 k1 k2 nd fl) [(.ref b_1)]) _
    refine XS.astore X_2.here hx rfl (hb hby at_37) rfl rfl (l' := (lc45 p1 p2 k1 k2 nd fl b_1)) rfl ?_
    refine XS.aload X_2.here hx rfl (hb hby at_39) rfl rfl ?_
    show oS pP eE below T_2 (mkF mM 41 (lc45 p1 p2 k1 k2 nd fl b_1) [(.ref b_1)]) _
    refine st_3.trans ?_
    show oS pP eE below T_3 (mkF mM 44 (lc45 p1 p2 k1 k2 nd fl b_1) [(.int (1 : Int32))]) _
    refine XS.istore X_3.here hx rfl (hb hby at_44) rfl (l' := (lc46 p1 p2 k1 k2 nd fl b_1)) rfl ?_
    refine XS.iload X_3.here hx rfl (hb hby at_46) rfl ?_
    refine XS.iconst X_3.here hx rfl (hb hby at_48) ?_
    refine XS.icmpNo X_3.here hx rfl (hb hby at_49) rfl (by decide) ?_
    refine XS.aload X_3.here hx rfl (hb hby at_52) rfl rfl ?_
    refine XT.lloadN X_3.here hx rfl (hb hby at_54) rfl ?_
    refine XS.iload X_3.here hx rfl (hb hby at_55) rfl ?_
    show oS pP eE below T_3 (mkF mM 57 (lc46 p1 p2 k1 k2 nd fl b_1) [(.int nd), (.long k1), (.ref b_1)]) _
    refine st_4.trans ?_
    show oS pP eE below T_4 (mkF mM 60 (lc46 p1 p2 k1 k2 nd fl b_1) []) _
    refine XS.iload X_4.here hx rfl (hb hby at_60) rfl ?_
    refine XS.iconst X_4.here hx rfl (hb hby at_62) ?_
    refine XS.icmpNo X_4.here hx rfl (hb hby at_63) rfl (by decide) ?_
    refine XS.aload X_4.here hx rfl (hb hby at_66) rfl rfl ?_
    refine XT.lload X_4.here hx rfl (hb hby at_68) rfl ?_
    refine XS.iload X_4.here hx rfl (hb hby at_70) rfl ?_
    refine XS.iconst X_4.here hx rfl (hb hby at_72) ?_
    show oS pP eE below T_4 (mkF mM 73 (lc46 p1 p2 k1 k2 nd fl b_1) [(.int (1 : Int32)), (.int nd), (.long k2), (.ref b_1)]) _
    refine XS.iadd X_4.here hx rfl (hb hby at_73) rfl ?_
    show oS pP eE below T_4 (mkF mM 74 (lc46 p1 p2 k1 k2 nd fl b_1) [(.int (nd + (1 : Int32))), (.long k2), (.ref b_1)]) _
    refine st_5.trans ?_
    show oS pP eE below T_5 (mkF mM 77 (lc46 p1 p2 k1 k2 nd fl b_1) []) _
    refine XS.iload X_5.here hx rfl (hb hby at_77) rfl ?_
    refine XS.iconst X_5.here hx rfl (hb hby at_79) ?_
    refine XS.icmpYes X_5.here hx rfl (pc0 := 80) (pc' := 96) rfl (hb hby at_80) rfl (by decide) (by decide) (by decide) ?_
    refine XS.iload X_5.here hx rfl (hb hby at_96) rfl ?_
    refine XS.iconst X_5.here hx rfl (hb hby at_98) ?_
    refine XS.icmpYes X_5.here hx rfl (pc0 := 99) (pc' := 108) rfl (hb hby at_99) rfl (by decide) (by decide) (by decide) ?_
    refine XS.iload X_5.here hx rfl (hb hby at_108) rfl ?_
    refine XS.iconst X_5.here hx rfl (hb hby at_110) ?_
    show oS pP eE below T_5 (mkF mM 111 (lc46 p1 p2 k1 k2 nd fl b_1) [(.int (2 : Int32)), (.int (0 : Int32))]) _
    refine XS.icmpYes X_5.here hx rfl (pc0 := 111) (pc' := 120) rfl (hb hby at_111) rfl (by decide) (by decide) (by decide) ?_
    refine XS.iload X_5.here hx rfl (hb hby at_120) rfl ?_
    refine XS.iconst X_5.here hx rfl (hb hby at_122) ?_
    refine XS.icmpYes X_5.here hx rfl (pc0 := 123) (pc' := 132) rfl (hb hby at_123) rfl (by decide) (by decide) (by decide) ?_
    refine XS.iload X_5.here hx rfl (hb hby at_132) rfl ?_
    refine XS.ifYes X_5.here hx rfl (pc0 := 134) (pc' := 142) rfl (hb hby at_134) rfl (by decide) (by decide) (by decide) ?_
    refine XS.iload X_5.here hx rfl (hb hby at_142) rfl ?_
    refine XS.ifNo X_5.here hx rfl (hb hby at_144) rfl (by decide) ?_
    show oS pP eE below T_5 (mkF mM 147 (lc46 p1 p2 k1 k2 nd fl b_1) []) _
    refine XS.iload X_5.here hx rfl (hb hby at_147) rfl ?_
    refine XS.iload X_5.here hx rfl (hb hby at_149) rfl ?_
    show oS pP eE below T_5 (mkF mM 151 (lc46 p1 p2 k1 k2 nd fl b_1) [(.int (0 : Int32)), (.int (2 : Int32))]) _
    refine XS.isub X_5.here hx rfl (hb hby at_151) rfl ?_
    show oS pP eE below T_5 (mkF mM 152 (lc46 p1 p2 k1 k2 nd fl b_1) [(.int ((2 : Int32) - (0 : Int32)))]) _
    rw [(by decide : ((2 : Int32) - (0 : Int32)) = (2 : Int32))]
    refine XS.ifYes X_5.here hx rfl (pc0 := 152) (pc' := 159) rfl (hb hby at_152) rfl (by decide) (by decide) (by decide) ?_
    refine XS.iconst X_5.here hx rfl (hb hby at_159) ?_
    refine XS.istore X_5.here hx rfl (hb hby at_160) rfl (l' := (lc47 p1 p2 k1 k2 nd fl b_1)) rfl ?_
    show oS pP eE below T_5 (mkF mM 162 (lc47 p1 p2 k1 k2 nd fl b_1) []) _
    refine st_6 _ ?_
    show oS pP eE below T_6 (mkF mM 207 (lc48 p1 p2 k1 k2 nd fl b_1) [(.int (1 : Int32))]) _
    exact retN X_6 hx (t := .boolean) Bd.returns (by simp) (hb hby at_207) hr
  · show Q_law200 Z p1 p2 k1 k2 nd fl h0 n0 _ T_6.heap _
    exact ⟨rfl, N_6⟩
abbrev lc49 (p1 : Int32) (p2 : Int32) (k1 : Int64) (k2 : Int64) (nd : Int32) (fl : Int32) : Array Slot := #[.val (.int p1), .val (.int p2), .val (.long k1), .second, .val (.long k2), .second, .val (.int nd), .val (.int fl), .val (.int (2 : Int32)), .val (.int (0 : Int32)), .val (.int (1 : Int32)), .unset, .unset, .unset, .unset, .unset]
abbrev lc50 (p1 : Int32) (p2 : Int32) (k1 : Int64) (k2 : Int64) (nd : Int32) (fl : Int32) (b_1 : Addr) : Array Slot := #[.val (.int p1), .val (.int p2), .val (.long k1), .second, .val (.long k2), .second, .val (.int nd), .val (.int fl), .val (.int (2 : Int32)), .val (.int (0 : Int32)), .val (.int (1 : Int32)), .val (.ref b_1), .unset, .unset, .unset, .unset]
abbrev lc51 (p1 : Int32) (p2 : Int32) (k1 : Int64) (k2 : Int64) (nd : Int32) (fl : Int32) (b_1 : Addr) : Array Slot := #[.val (.int p1), .val (.int p2), .val (.long k1), .second, .val (.long k2), .second, .val (.int nd), .val (.int fl), .val (.int (2 : Int32)), .val (.int (0 : Int32)), .val (.int (1 : Int32)), .val (.ref b_1), .val (.int (1 : Int32)), .unset, .unset, .unset]
abbrev lc52 (p1 : Int32) (p2 : Int32) (k1 : Int64) (k2 : Int64) (nd : Int32) (fl : Int32) (b_1 : Addr) : Array Slot := #[.val (.int p1), .val (.int p2), .val (.long k1), .second, .val (.long k2), .second, .val (.int nd), .val (.int fl), .val (.int (2 : Int32)), .val (.int (0 : Int32)), .val (.int (1 : Int32)), .val (.ref b_1), .val (.int (1 : Int32)), .val (.int (1 : Int32)), .unset, .unset]
abbrev lc53 (p1 : Int32) (p2 : Int32) (k1 : Int64) (k2 : Int64) (nd : Int32) (fl : Int32) (b_1 : Addr) : Array Slot := #[.val (.int p1), .val (.int p2), .val (.long k1), .second, .val (.long k2), .second, .val (.int nd), .val (.int fl), .val (.int (2 : Int32)), .val (.int (0 : Int32)), .val (.int (1 : Int32)), .val (.ref b_1), .val (.int (1 : Int32)), .val (.int (1 : Int32)), .val (.int (1 : Int32)), .val (.int (0 : Int32))]
theorem ef_law201 (mM : MethodId) (x0 : Int32) (x1 : Int32) (x2 : Int64) (x3 : Int64) (x4 : Int32) (x5 : Int32) : entryFrame mM #[(.int x0), (.int x1), (.long x2), (.long x3), (.int x4), (.int x5)] maxLocals = mkF mM 0 #[.val (.int x0), .val (.int x1), .val (.long x2), .second, .val (.long x3), .second, .val (.int x4), .val (.int x5), .unset, .unset, .unset, .unset, .unset, .unset, .unset, .unset] [] := by first | (simp [entryFrame, mkF, argsToLocals, Value.category, maxLocals]; done) | rfl
def Q_law201 (Z : State) (p1 : Int32) (p2 : Int32) (k1 : Int64) (k2 : Int64) (nd : Int32) (fl : Int32) (h0 : Heap) (n0 : Nat) (v_ : Option Value) (h_ : Heap) (L_ : List Loc) : Prop := v_ = some (.int (1 : Int32)) ∧ Fr n0 L_
set_option maxRecDepth 65536 in
set_option maxHeartbeats 40000000 in
theorem rm_law201 (l : Launch) (Z : State) (a0 : Array Value) (hw : ∀ d ∈ tables_1, d.before a0 Z = true) (ws : List Jvm.Cond) (p1 : Int32) (p2 : Int32) (k1 : Int64) (k2 : Int64) (nd : Int32) (fl : Int32) (h0 : Heap) (n0 : Nat) (Z0 : n0 ≤ h0.size) (hn : (p1 &&& (3 : Int32)) = (2 : Int32)) (ht : ((p2 &&& (2147483647 : Int32)) % (3 : Int32)) = (0 : Int32)) (hc : ¬ (fl &&& (1 : Int32)) = 0) :
    MetFree l x (head1 (Jvm.Cond.code x code maxLocals ret :: ws) room_1) (fun aa_ U_ => aa_ = #[(.int p1), (.int p2), (.long k1), (.long k2), (.int nd), (.int fl)] ∧ Z.Warmed39 U_.vm ∧ U_.heap = h0) (fun _ _ _ _ _ => True) (fun _ U_ o_ U'_ => ∃ v_ L_, o_ = .returned v_ ∧ Q_law201 Z p1 p2 k1 k2 nd fl h0 n0 v_ U'_.heap L_ ∧ FrameEnd U_ o_ U'_ L_ 3 35) := by
  refine MetFree.of_bodySF (plainFor_of_name pn_1) hisR ?_
  intro pP eE sS mM argsA below meth cC s₁ Bd hml0 hP hK
  obtain ⟨rfl, hZ, hh⟩ := hP
  have hx := Bd.exec
  have hby := Bd.bytes
  have hml : cC.maxLocals = 16 := hml0
  have hown : sS.vm.findClass "com/example/greenweft/greenweft/steiner/NodeHeapIsEmptyPinLaw" = some mM.cls := findClass_of_methodNamed Bd.named
  have hnm := (name_of_methodNamed Bd.named Bd.method).1
  have X0 : Stand pP l eE room_1 sS mM #[(.int p1), (.int p2), (.long k1), (.long k2), (.int nd), (.int fl)] below meth cC s₁ [] 0 0 := Stand.of_body Bd
  have e0 : s₁.heap = h0 := by rw [← hh, Bd.state]; rfl
  have N0 := Fr.nil n0
  have pre0 : ∀ t_, Steps pP.tables eE below (s₁.setTop (mkF mM 0 #[.val (.int p1), .val (.int p2), .val (.long k1), .second, .val (.long k2), .second, .val (.int nd), .val (.int fl), .unset, .unset, .unset, .unset, .unset, .unset, .unset, .unset] [])) t_ → Steps pP.tables eE below (s₁.setTop (entryFrame mM #[(.int p1), (.int p2), (.long k1), (.long k2), (.int nd), (.int fl)] maxLocals)) t_ := fun t_ k_ => castTop (ef_law201 mM p1 p2 k1 k2 nd fl) k_
  obtain ⟨T_1, h_1, X_1, e_1, E_1, A_1, D_1, -, st_1⟩ := newO X0 hx hZ hown (ow hw 1 rfl) (ow hw 2 rfl) (ow hw 3 rfl) e0 (g := (mkF mM 30 (lc49 p1 p2 k1 k2 nd fl) [])) rfl (hb hby at_30) (by decide) (by decide)
  obtain ⟨b_1, g_1⟩ : ∃ z, z = h0.size := ⟨_, rfl⟩
  rw [← g_1] at A_1 D_1 st_1
  have g_b_1 : n0 ≤ b_1 := Nat.le_trans Z0 (Nat.le_of_eq g_1.symm)
  have sz_b_1 : h0.size ≤ b_1 := Nat.le_trans (Keep.refl h0 []).1 (Nat.le_of_eq g_1.symm)
  have Z_1 : n0 ≤ h_1.size := (Nat.le_trans Z0 E_1.1)
  have K_1 : Keep h0 h_1 [] := (Keep.refl h0 []).ext E_1
  have F_keys_b_1__1 : Fld Z h_1 b_1 "com/example/greenweft/greenweft/steiner/NodeHeap" "keys" "[J" .null := D_1 (Or.inl (ow hw 12 rfl)) (ty := (.array .long)) (by decide)
  have F_nodes_b_1__1 : Fld Z h_1 b_1 "com/example/greenweft/greenweft/steiner/NodeHeap" "nodes" "[I" .null := D_1 (Or.inl (ow hw 15 rfl)) (ty := (.array .int)) (by decide)
  have F_size_b_1__1 : Fld Z h_1 b_1 "com/example/greenweft/greenweft/steiner/NodeHeap" "size" "I" (.int (0 : Int32)) := D_1 (Or.inl (ow hw 22 rfl)) (ty := .int) (by decide)
  obtain ⟨_, _, ⟨T_2, L_2, k_2, n_2⟩, -, X_2, ⟨Lc_2, hQ_2, l_2, y_2, z_2⟩, st_2⟩ := X_1.specialBack hx (y := MN3) rfl hown (mvT hZ (ow hw 4 rfl)) (mvT hZ (ow hw 5 rfl)) (mvT hZ (ow hw 6 rfl)) (by decide) (backOf (W := 1) (rm_init l Z a0 hw [] b_1 h_1 n0 Z_1 F_keys_b_1__1 F_nodes_b_1__1 F_size_b_1__1 A_1 g_b_1) hZ (ow hw 6 rfl) (ow hw 3 rfl) (by decide) (by decide)) (g := (mkF mM 34 (lc49 p1 p2 k1 k2 nd fl) [(.ref b_1), (.ref b_1)])) rfl (by rw [hml]; rfl) (Steps.refl _) (a := b_1) (argsL := []) (rest := [(.ref b_1)]) (lenOf pd_3 rfl) rfl (by show 2 * 0 + _ ≤ _; exact Nat.le_of_eq rfl) (hb hby at_34) (fun _ _ => ⟨rfl, e_1, (by decide : 1 + 2 ≤ _), (by decide : 3 + 32 ≤ _)⟩)
  dsimp only [Pt.U, Pt.locs, Pt.cells, Pt.slots] at X_2 l_2 y_2 z_2 st_2 hQ_2
  subst l_2 y_2 z_2
  obtain ⟨d__2, ⟨g__2, ⟨kd__2, ⟨kg__2, ⟨rfl, N_2q, Kc_2, pfsz_d_2, pfsz_g_2, pfndg_2, pfE_a_2, pfF_keys_a_2, pfF_nodes_a_2, pfF_size_a_2, pfV_d_2, pfV_g_2⟩⟩⟩⟩⟩ := hQ_2
  have Z_2 : n0 ≤ T_2.heap.size := (Nat.le_trans Z_1 Kc_2.1)
  have K_2 : Keep h0 T_2.heap [] := K_1.trans Kc_2 (allS (Or.inr sz_b_1) all0)
  have sz_d__2 : h0.size ≤ d__2 := Nat.le_trans K_1.1 pfsz_d_2
  have g_d__2 : n0 ≤ d__2 := Nat.le_trans Z_1 pfsz_d_2
  have sz_g__2 : h0.size ≤ g__2 := Nat.le_trans K_1.1 pfsz_g_2
  have g_g__2 : n0 ≤ g__2 := Nat.le_trans Z_1 pfsz_g_2
  have N_2 := Fr.app N0 N_2q
  obtain ⟨cq_3, kq_3, q_3a, q_3b, q_3c⟩ := isOf hZ rfl pfE_a_2
  obtain ⟨_, _, ⟨T_3, L_3, k_3, n_3⟩, -, X_3, ⟨Lc_3, hQ_3, l_3, y_3, z_3⟩, st_3⟩ := X_2.virtualBack hx (y := MN1) (z := MN1) hown (mvT hZ (ow hw 16 rfl)) (mvT hZ (ow hw 17 rfl)) (notFace_of_selects (args := #[]) (mvT hZ (ow hw 19 rfl))) (mvT hZ (ow hw 19 rfl)) (mvT hZ (ow hw 18 rfl)) (by decide) (backOf (W := 0) (rm_ie0 l Z a0 hw [] b_1 T_2.heap n0 Z_2 pfF_size_a_2) hZ (ow hw 20 rfl) (ow hw 3 rfl) (by decide) (by decide)) q_3a q_3c (g := (mkF mM 41 (lc50 p1 p2 k1 k2 nd fl b_1) [(.ref b_1)])) rfl (by rw [hml]; rfl) (Steps.refl _) (argsL := []) (rest := []) (lenOf pd_1 rfl) rfl (by show 2 * 0 + _ ≤ _; exact Nat.le_of_eq rfl) (hb hby at_41) (fun _ _ => ⟨rfl, rfl, (by decide : 3 + 0 ≤ _), (by decide : 35 + 0 ≤ _)⟩)
  dsimp only [Pt.U, Pt.locs, Pt.cells, Pt.slots] at X_3 l_3 y_3 z_3 st_3 hQ_3
  subst l_3 y_3 z_3
  obtain ⟨rfl, N_3q, eh_3⟩ := hQ_3
  have N_3 := Fr.app N_2 N_3q
  obtain ⟨cq_4, kq_4, q_4a, q_4b, q_4c⟩ := isOf hZ eh_3 pfE_a_2
  obtain ⟨_, _, ⟨T_4, L_4, k_4, n_4⟩, -, X_4, ⟨Lc_4, hQ_4, l_4, y_4, z_4⟩, st_4⟩ := X_3.virtualBack hx (y := MN2) (z := MN2) hown (mvT hZ (ow hw 28 rfl)) (mvT hZ (ow hw 29 rfl)) (notFace_of_selects (args := #[]) (mvT hZ (ow hw 31 rfl))) (mvT hZ (ow hw 31 rfl)) (mvT hZ (ow hw 30 rfl)) (by decide) (backOf (W := 0) (rm_add0 l Z a0 hw [] b_1 d__2 g__2 kd__2 kg__2 k1 nd (0 : Int64) (0 : Int64) (0 : Int64) (0 : Int64) (0 : Int32) (0 : Int32) (0 : Int32) (0 : Int32) T_2.heap n0 Z_2 pfF_size_a_2 pfF_keys_a_2 pfF_nodes_a_2 pfE_a_2 g_b_1 g_d__2 g_g__2 pfV_d_2 pfV_g_2 pfndg_2 (Nat.ne_of_lt (Nat.lt_of_lt_of_le A_1.lt pfsz_d_2)) (Nat.ne_of_lt (Nat.lt_of_lt_of_le A_1.lt pfsz_g_2))) hZ (ow hw 32 rfl) (ow hw 3 rfl) (by decide) (by decide)) q_4a q_4c (g := (mkF mM 57 (lc51 p1 p2 k1 k2 nd fl b_1) [(.int nd), (.long k1), (.ref b_1)])) rfl (by rw [hml]; rfl) (Steps.refl _) (argsL := [(.long k1), (.int nd)]) (rest := []) (lenOf pd_2 rfl) rfl (by show 2 * 0 + _ ≤ _; exact Nat.le_of_eq rfl) (hb hby at_57) (fun _ _ => ⟨rfl, eh_3, (by decide : 3 + 0 ≤ _), (by decide : 35 + 0 ≤ _)⟩)
  dsimp only [Pt.U, Pt.locs, Pt.cells, Pt.slots] at X_4 l_4 y_4 z_4 st_4 hQ_4
  subst l_4 y_4 z_4
  obtain ⟨u0__4, ⟨u1__4, ⟨u2__4, ⟨u3__4, ⟨v0__4, ⟨v1__4, ⟨v2__4, ⟨v3__4, ⟨rfl, N_4q, Kc_4, pfF_size_a_4, pfF_keys_a_4, pfF_nodes_a_4, pfE_a_4, pfV_d_4, pfV_g_4⟩⟩⟩⟩⟩⟩⟩⟩⟩ := hQ_4
  have Z_4 : n0 ≤ T_4.heap.size := (Nat.le_trans Z_2 Kc_4.1)
  have K_4 : Keep h0 T_4.heap [] := K_2.trans Kc_4 (allS (Or.inr sz_b_1) (allS (Or.inr sz_d__2) (allS (Or.inr sz_g__2) all0)))
  have N_4 := Fr.app N_3 N_4q
  obtain ⟨cq_5, kq_5, q_5a, q_5b, q_5c⟩ := isOf hZ rfl pfE_a_4
  obtain ⟨_, _, ⟨T_5, L_5, k_5, n_5⟩, -, X_5, ⟨Lc_5, hQ_5, l_5, y_5, z_5⟩, st_5⟩ := X_4.virtualBack hx (y := MN2) (z := MN2) hown (mvT hZ (ow hw 28 rfl)) (mvT hZ (ow hw 29 rfl)) (notFace_of_selects (args := #[]) (mvT hZ (ow hw 31 rfl))) (mvT hZ (ow hw 31 rfl)) (mvT hZ (ow hw 30 rfl)) (by decide) (backOf (W := 0) (rm_add1 l Z a0 hw [] b_1 d__2 g__2 kd__2 kg__2 k2 (nd + (1 : Int32)) u0__4 u1__4 u2__4 u3__4 v0__4 v1__4 v2__4 v3__4 T_4.heap n0 Z_4 pfF_size_a_4 pfF_keys_a_4 pfF_nodes_a_4 pfE_a_4 g_b_1 g_d__2 g_g__2 pfV_d_4 pfV_g_4 pfndg_2 (Nat.ne_of_lt (Nat.lt_of_lt_of_le A_1.lt pfsz_d_2)) (Nat.ne_of_lt (Nat.lt_of_lt_of_le A_1.lt pfsz_g_2))) hZ (ow hw 32 rfl) (ow hw 3 rfl) (by decide) (by decide)) q_5a q_5c (g := (mkF mM 74 (lc51 p1 p2 k1 k2 nd fl b_1) [(.int (nd + (1 : Int32))), (.long k2), (.ref b_1)])) rfl (by rw [hml]; rfl) (Steps.refl _) (argsL := [(.long k2), (.int (nd + (1 : Int32)))]) (rest := []) (lenOf pd_2 rfl) rfl (by show 2 * 0 + _ ≤ _; exact Nat.le_of_eq rfl) (hb hby at_74) (fun _ _ => ⟨rfl, rfl, (by decide : 3 + 0 ≤ _), (by decide : 35 + 0 ≤ _)⟩)
  dsimp only [Pt.U, Pt.locs, Pt.cells, Pt.slots] at X_5 l_5 y_5 z_5 st_5 hQ_5
  subst l_5 y_5 z_5
  obtain ⟨u0__5, ⟨u1__5, ⟨u2__5, ⟨u3__5, ⟨v0__5, ⟨v1__5, ⟨v2__5, ⟨v3__5, ⟨rfl, N_5q, Kc_5, pfF_size_a_5, pfF_keys_a_5, pfF_nodes_a_5, pfE_a_5, pfV_d_5, pfV_g_5⟩⟩⟩⟩⟩⟩⟩⟩⟩ := hQ_5
  have Z_5 : n0 ≤ T_5.heap.size := (Nat.le_trans Z_4 Kc_5.1)
  have K_5 : Keep h0 T_5.heap [] := K_4.trans Kc_5 (allS (Or.inr sz_b_1) (allS (Or.inr sz_d__2) (allS (Or.inr sz_g__2) all0)))
  have N_5 := Fr.app N_4 N_5q
  obtain ⟨cq_6, kq_6, q_6a, q_6b, q_6c⟩ := isOf hZ rfl pfE_a_5
  obtain ⟨_, _, ⟨T_6, L_6, k_6, n_6⟩, -, X_6, ⟨Lc_6, hQ_6, l_6, y_6, z_6⟩, st_6⟩ := X_5.virtualBack hx (y := MN4) (z := MN4) hown (mvT hZ (ow hw 23 rfl)) (mvT hZ (ow hw 24 rfl)) (notFace_of_selects (args := #[]) (mvT hZ (ow hw 26 rfl))) (mvT hZ (ow hw 26 rfl)) (mvT hZ (ow hw 25 rfl)) (by decide) (backOf (W := 0) (rm_clear l Z a0 hw [] b_1 d__2 g__2 (2 : Int32) T_5.heap n0 Z_5 pfF_size_a_5 pfF_keys_a_5 pfF_nodes_a_5 pfE_a_5 g_b_1) hZ (ow hw 27 rfl) (ow hw 3 rfl) (by decide) (by decide)) q_6a q_6c (g := (mkF mM 139 (lc51 p1 p2 k1 k2 nd fl b_1) [(.ref b_1)])) rfl (by rw [hml]; rfl) (Steps.refl _) (argsL := []) (rest := []) (lenOf pd_3 rfl) rfl (by show 2 * 0 + _ ≤ _; exact Nat.le_of_eq rfl) (hb hby at_139) (fun _ _ => ⟨rfl, rfl, (by decide : 3 + 0 ≤ _), (by decide : 35 + 0 ≤ _)⟩)
  dsimp only [Pt.U, Pt.locs, Pt.cells, Pt.slots] at X_6 l_6 y_6 z_6 st_6 hQ_6
  subst l_6 y_6 z_6
  obtain ⟨rfl, N_6q, Kc_6, pfF_size_a_6, pfF_keys_a_6, pfF_nodes_a_6, pfE_a_6⟩ := hQ_6
  have Z_6 : n0 ≤ T_6.heap.size := (Nat.le_trans Z_5 Kc_6.1)
  have K_6 : Keep h0 T_6.heap [] := K_5.trans Kc_6 (allS (Or.inr sz_b_1) all0)
  have N_6 := Fr.app N_5 N_6q
  obtain ⟨T_7, h_7, L_7, X_7, e_7, N_7, Kc_7, st_7⟩ := pc_tail0 p1 p2 k1 k2 nd fl (2 : Int32) (0 : Int32) (1 : Int32) b_1 d__2 g__2 kd__2 kg__2 u0__5 u1__5 u2__5 u3__5 v0__5 v1__5 v2__5 v3__5 X_6 hx hZ hw hby hml hown rfl N_6 Z_6 pfF_size_a_6 pfF_keys_a_6 pfF_nodes_a_6 pfE_a_6 g_b_1 g_d__2 g_g__2 (pfV_d_5.keep Kc_6 (ninS (Ne.symm (Nat.ne_of_lt (Nat.lt_of_lt_of_le A_1.lt pfsz_d_2))) nin0)) (pfV_g_5.keep Kc_6 (ninS (Ne.symm (Nat.ne_of_lt (Nat.lt_of_lt_of_le A_1.lt pfsz_g_2))) nin0)) pfndg_2 (Nat.ne_of_lt (Nat.lt_of_lt_of_le A_1.lt pfsz_d_2)) (Nat.ne_of_lt (Nat.lt_of_lt_of_le A_1.lt pfsz_g_2))
  have Z_7 : n0 ≤ h_7.size := (Nat.le_trans Z_6 Kc_7.1)
  have K_7 : Keep h0 h_7 [] := K_6.trans Kc_7 (allS (Or.inr sz_b_1) (allS (Or.inr sz_d__2) (allS (Or.inr sz_g__2) all0)))
  obtain ⟨fs, hr, hrun, hended, hW, hsame⟩ := X_7.leave (v := some (.int (1 : Int32))) (fun h => by rw [Bd.returns] at h; cases h)
  refine ⟨_, _, pre0 _ ?_, hrun, hended, _, _, rfl, ?_, ⟨_, rfl⟩, hW, hsame.mono (by decide) (by decide)⟩
  · show oS pP eE below s₁ (mkF mM 0 (lc6 p1 p2 k1 k2 nd fl) []) _
    refine XS.iloadN X0.here hx rfl (hb hby at_0) rfl ?_
    refine XS.iconst X0.here hx rfl (hb hby at_1) ?_
    show oS pP eE below s₁ (mkF mM 2 (lc6 p1 p2 k1 k2 nd fl) [(.int (3 : Int32)), (.int p1)]) _
    refine XS.iand X0.here hx rfl (hb hby at_2) rfl ?_
    show oS pP eE below s₁ (mkF mM 3 (lc6 p1 p2 k1 k2 nd fl) [(.int (p1 &&& (3 : Int32)))]) _
    rw [hn]
    refine XS.istore X0.here hx rfl (hb hby at_3) rfl (l' := (lc42 p1 p2 k1 k2 nd fl)) rfl ?_
    refine XS.iloadN X0.here hx rfl (hb hby at_5) rfl ?_
    show oS pP eE below s₁ (mkF mM 6 (lc42 p1 p2 k1 k2 nd fl) [(.int p2)]) _
    refine X0.ldcI hx hown (mvT hZ (ow hw 0 rfl)) (g := (mkF mM 6 (lc42 p1 p2 k1 k2 nd fl) [(.int p2)])) rfl (hb hby at_6) ?_
    show oS pP eE below s₁ (mkF mM 8 (lc42 p1 p2 k1 k2 nd fl) [(.int (2147483647 : Int32)), (.int p2)]) _
    refine XS.iand X0.here hx rfl (hb hby at_8) rfl ?_
    refine XS.iload X0.here hx rfl (hb hby at_9) rfl ?_
    refine XS.iconst X0.here hx rfl (hb hby at_11) ?_
    show oS pP eE below s₁ (mkF mM 12 (lc42 p1 p2 k1 k2 nd fl) [(.int (1 : Int32)), (.int (2 : Int32)), (.int (p2 &&& (2147483647 : Int32)))]) _
    refine XS.iadd X0.here hx rfl (hb hby at_12) rfl ?_
    show oS pP eE below s₁ (mkF mM 13 (lc42 p1 p2 k1 k2 nd fl) [(.int ((2 : Int32) + (1 : Int32))), (.int (p2 &&& (2147483647 : Int32)))]) _
    rw [(by decide : ((2 : Int32) + (1 : Int32)) = (3 : Int32))]
    show oS pP eE below s₁ (mkF mM 13 (lc42 p1 p2 k1 k2 nd fl) [(.int (3 : Int32)), (.int (p2 &&& (2147483647 : Int32)))]) _
    refine iremM X0 hx rfl (hb hby at_13) rfl (by decide) ?_
    show oS pP eE below s₁ (mkF mM 14 (lc42 p1 p2 k1 k2 nd fl) [(.int ((p2 &&& (2147483647 : Int32)) % (3 : Int32)))]) _
    rw [ht]
    refine XS.istore X0.here hx rfl (hb hby at_14) rfl (l' := (lc43 p1 p2 k1 k2 nd fl)) rfl ?_
    refine XS.iload X0.here hx rfl (hb hby at_16) rfl ?_
    refine XS.iconst X0.here hx rfl (hb hby at_18) ?_
    show oS pP eE below s₁ (mkF mM 19 (lc43 p1 p2 k1 k2 nd fl) [(.int (1 : Int32)), (.int fl)]) _
    refine XS.iand X0.here hx rfl (hb hby at_19) rfl ?_
    refine XS.ifNo X0.here hx rfl (hb hby at_20) rfl (XT.i0_eq_f hc) ?_
    refine XS.iconst X0.here hx rfl (hb hby at_23) ?_
    refine XS.goto X0.here hx rfl (pc0 := 24) (pc' := 28) rfl (hb hby at_24) (by decide) (by decide) ?_
    refine XS.istore X0.here hx rfl (hb hby at_28) rfl (l' := (lc49 p1 p2 k1 k2 nd fl)) rfl ?_
    show oS pP eE below s₁ (mkF mM 30 (lc49 p1 p2 k1 k2 nd fl) []) _
    refine st_1 _ ?_
    show oS pP eE below T_1 (mkF mM 33 (lc49 p1 p2 k1 k2 nd fl) [(.ref b_1)]) _
    refine XS.dup X_1.here hx rfl (hb hby at_33) rfl rfl ?_
    show oS pP eE below T_1 (mkF mM 34 (lc49 p1 p2 k1 k2 nd fl) [(.ref b_1), (.ref b_1)]) _
    refine st_2.trans ?_
    show oS pP eE below T_2 (mkF mM 37 (lc49 p1 p2 k1 k2 nd fl) [(.ref b_1)]) _
    refine XS.astore X_2.here hx rfl (hb hby at_37) rfl rfl (l' := (lc50 p1 p2 k1 k2 nd fl b_1)) rfl ?_
    refine XS.aload X_2.here hx rfl (hb hby at_39) rfl rfl ?_
    show oS pP eE below T_2 (mkF mM 41 (lc50 p1 p2 k1 k2 nd fl b_1) [(.ref b_1)]) _
    refine st_3.trans ?_
    show oS pP eE below T_3 (mkF mM 44 (lc50 p1 p2 k1 k2 nd fl b_1) [(.int (1 : Int32))]) _
    refine XS.istore X_3.here hx rfl (hb hby at_44) rfl (l' := (lc51 p1 p2 k1 k2 nd fl b_1)) rfl ?_
    refine XS.iload X_3.here hx rfl (hb hby at_46) rfl ?_
    refine XS.iconst X_3.here hx rfl (hb hby at_48) ?_
    refine XS.icmpNo X_3.here hx rfl (hb hby at_49) rfl (by decide) ?_
    refine XS.aload X_3.here hx rfl (hb hby at_52) rfl rfl ?_
    refine XT.lloadN X_3.here hx rfl (hb hby at_54) rfl ?_
    refine XS.iload X_3.here hx rfl (hb hby at_55) rfl ?_
    show oS pP eE below T_3 (mkF mM 57 (lc51 p1 p2 k1 k2 nd fl b_1) [(.int nd), (.long k1), (.ref b_1)]) _
    refine st_4.trans ?_
    show oS pP eE below T_4 (mkF mM 60 (lc51 p1 p2 k1 k2 nd fl b_1) []) _
    refine XS.iload X_4.here hx rfl (hb hby at_60) rfl ?_
    refine XS.iconst X_4.here hx rfl (hb hby at_62) ?_
    refine XS.icmpNo X_4.here hx rfl (hb hby at_63) rfl (by decide) ?_
    refine XS.aload X_4.here hx rfl (hb hby at_66) rfl rfl ?_
    refine XT.lload X_4.here hx rfl (hb hby at_68) rfl ?_
    refine XS.iload X_4.here hx rfl (hb hby at_70) rfl ?_
    refine XS.iconst X_4.here hx rfl (hb hby at_72) ?_
    show oS pP eE below T_4 (mkF mM 73 (lc51 p1 p2 k1 k2 nd fl b_1) [(.int (1 : Int32)), (.int nd), (.long k2), (.ref b_1)]) _
    refine XS.iadd X_4.here hx rfl (hb hby at_73) rfl ?_
    show oS pP eE below T_4 (mkF mM 74 (lc51 p1 p2 k1 k2 nd fl b_1) [(.int (nd + (1 : Int32))), (.long k2), (.ref b_1)]) _
    refine st_5.trans ?_
    show oS pP eE below T_5 (mkF mM 77 (lc51 p1 p2 k1 k2 nd fl b_1) []) _
    refine XS.iload X_5.here hx rfl (hb hby at_77) rfl ?_
    refine XS.iconst X_5.here hx rfl (hb hby at_79) ?_
    refine XS.icmpYes X_5.here hx rfl (pc0 := 80) (pc' := 96) rfl (hb hby at_80) rfl (by decide) (by decide) (by decide) ?_
    refine XS.iload X_5.here hx rfl (hb hby at_96) rfl ?_
    refine XS.iconst X_5.here hx rfl (hb hby at_98) ?_
    refine XS.icmpYes X_5.here hx rfl (pc0 := 99) (pc' := 108) rfl (hb hby at_99) rfl (by decide) (by decide) (by decide) ?_
    refine XS.iload X_5.here hx rfl (hb hby at_108) rfl ?_
    refine XS.iconst X_5.here hx rfl (hb hby at_110) ?_
    show oS pP eE below T_5 (mkF mM 111 (lc51 p1 p2 k1 k2 nd fl b_1) [(.int (2 : Int32)), (.int (0 : Int32))]) _
    refine XS.icmpYes X_5.here hx rfl (pc0 := 111) (pc' := 120) rfl (hb hby at_111) rfl (by decide) (by decide) (by decide) ?_
    refine XS.iload X_5.here hx rfl (hb hby at_120) rfl ?_
    refine XS.iconst X_5.here hx rfl (hb hby at_122) ?_
    refine XS.icmpYes X_5.here hx rfl (pc0 := 123) (pc' := 132) rfl (hb hby at_123) rfl (by decide) (by decide) (by decide) ?_
    refine XS.iload X_5.here hx rfl (hb hby at_132) rfl ?_
    refine XS.ifNo X_5.here hx rfl (hb hby at_134) rfl (by decide) ?_
    refine XS.aload X_5.here hx rfl (hb hby at_137) rfl rfl ?_
    show oS pP eE below T_5 (mkF mM 139 (lc51 p1 p2 k1 k2 nd fl b_1) [(.ref b_1)]) _
    refine st_6.trans ?_
    show oS pP eE below T_6 (mkF mM 142 (lc51 p1 p2 k1 k2 nd fl b_1) []) _
    refine XS.iload X_6.here hx rfl (hb hby at_142) rfl ?_
    refine XS.ifYes X_6.here hx rfl (pc0 := 144) (pc' := 155) rfl (hb hby at_144) rfl (by decide) (by decide) (by decide) ?_
    refine XS.iconst X_6.here hx rfl (hb hby at_155) ?_
    refine XS.goto X_6.here hx rfl (pc0 := 156) (pc' := 160) rfl (hb hby at_156) (by decide) (by decide) ?_
    refine XS.istore X_6.here hx rfl (hb hby at_160) rfl (l' := (lc52 p1 p2 k1 k2 nd fl b_1)) rfl ?_
    show oS pP eE below T_6 (mkF mM 162 (lc52 p1 p2 k1 k2 nd fl b_1) []) _
    refine st_7 _ ?_
    show oS pP eE below T_7 (mkF mM 207 (lc53 p1 p2 k1 k2 nd fl b_1) [(.int (1 : Int32))]) _
    exact retN X_7 hx (t := .boolean) Bd.returns (by simp) (hb hby at_207) hr
  · show Q_law201 Z p1 p2 k1 k2 nd fl h0 n0 _ T_7.heap _
    exact ⟨rfl, N_7⟩
abbrev lc54 (p1 : Int32) (p2 : Int32) (k1 : Int64) (k2 : Int64) (nd : Int32) (fl : Int32) : Array Slot := #[.val (.int p1), .val (.int p2), .val (.long k1), .second, .val (.long k2), .second, .val (.int nd), .val (.int fl), .val (.int (2 : Int32)), .val (.int (1 : Int32)), .unset, .unset, .unset, .unset, .unset, .unset]
abbrev lc55 (p1 : Int32) (p2 : Int32) (k1 : Int64) (k2 : Int64) (nd : Int32) (fl : Int32) : Array Slot := #[.val (.int p1), .val (.int p2), .val (.long k1), .second, .val (.long k2), .second, .val (.int nd), .val (.int fl), .val (.int (2 : Int32)), .val (.int (1 : Int32)), .val (.int (0 : Int32)), .unset, .unset, .unset, .unset, .unset]
abbrev lc56 (p1 : Int32) (p2 : Int32) (k1 : Int64) (k2 : Int64) (nd : Int32) (fl : Int32) (b_1 : Addr) : Array Slot := #[.val (.int p1), .val (.int p2), .val (.long k1), .second, .val (.long k2), .second, .val (.int nd), .val (.int fl), .val (.int (2 : Int32)), .val (.int (1 : Int32)), .val (.int (0 : Int32)), .val (.ref b_1), .unset, .unset, .unset, .unset]
abbrev lc57 (p1 : Int32) (p2 : Int32) (k1 : Int64) (k2 : Int64) (nd : Int32) (fl : Int32) (b_1 : Addr) : Array Slot := #[.val (.int p1), .val (.int p2), .val (.long k1), .second, .val (.long k2), .second, .val (.int nd), .val (.int fl), .val (.int (2 : Int32)), .val (.int (1 : Int32)), .val (.int (0 : Int32)), .val (.ref b_1), .val (.int (1 : Int32)), .unset, .unset, .unset]
abbrev lc58 (p1 : Int32) (p2 : Int32) (k1 : Int64) (k2 : Int64) (nd : Int32) (fl : Int32) (b_1 : Addr) : Array Slot := #[.val (.int p1), .val (.int p2), .val (.long k1), .second, .val (.long k2), .second, .val (.int nd), .val (.int fl), .val (.int (2 : Int32)), .val (.int (1 : Int32)), .val (.int (0 : Int32)), .val (.ref b_1), .val (.int (1 : Int32)), .val (.int (0 : Int32)), .unset, .unset]
abbrev lc59 (p1 : Int32) (p2 : Int32) (k1 : Int64) (k2 : Int64) (nd : Int32) (fl : Int32) (b_1 : Addr) : Array Slot := #[.val (.int p1), .val (.int p2), .val (.long k1), .second, .val (.long k2), .second, .val (.int nd), .val (.int fl), .val (.int (2 : Int32)), .val (.int (1 : Int32)), .val (.int (0 : Int32)), .val (.ref b_1), .val (.int (1 : Int32)), .val (.int (0 : Int32)), .val (.int (0 : Int32)), .val (.int (0 : Int32))]
theorem ef_law210 (mM : MethodId) (x0 : Int32) (x1 : Int32) (x2 : Int64) (x3 : Int64) (x4 : Int32) (x5 : Int32) : entryFrame mM #[(.int x0), (.int x1), (.long x2), (.long x3), (.int x4), (.int x5)] maxLocals = mkF mM 0 #[.val (.int x0), .val (.int x1), .val (.long x2), .second, .val (.long x3), .second, .val (.int x4), .val (.int x5), .unset, .unset, .unset, .unset, .unset, .unset, .unset, .unset] [] := by first | (simp [entryFrame, mkF, argsToLocals, Value.category, maxLocals]; done) | rfl
def Q_law210 (Z : State) (p1 : Int32) (p2 : Int32) (k1 : Int64) (k2 : Int64) (nd : Int32) (fl : Int32) (h0 : Heap) (n0 : Nat) (v_ : Option Value) (h_ : Heap) (L_ : List Loc) : Prop := v_ = some (.int (1 : Int32)) ∧ Fr n0 L_
set_option maxRecDepth 65536 in
set_option maxHeartbeats 40000000 in
theorem rm_law210 (l : Launch) (Z : State) (a0 : Array Value) (hw : ∀ d ∈ tables_1, d.before a0 Z = true) (ws : List Jvm.Cond) (p1 : Int32) (p2 : Int32) (k1 : Int64) (k2 : Int64) (nd : Int32) (fl : Int32) (h0 : Heap) (n0 : Nat) (Z0 : n0 ≤ h0.size) (hn : (p1 &&& (3 : Int32)) = (2 : Int32)) (ht : ((p2 &&& (2147483647 : Int32)) % (3 : Int32)) = (1 : Int32)) (hc : (fl &&& (1 : Int32)) = 0) :
    MetFree l x (head1 (Jvm.Cond.code x code maxLocals ret :: ws) room_1) (fun aa_ U_ => aa_ = #[(.int p1), (.int p2), (.long k1), (.long k2), (.int nd), (.int fl)] ∧ Z.Warmed39 U_.vm ∧ U_.heap = h0) (fun _ _ _ _ _ => True) (fun _ U_ o_ U'_ => ∃ v_ L_, o_ = .returned v_ ∧ Q_law210 Z p1 p2 k1 k2 nd fl h0 n0 v_ U'_.heap L_ ∧ FrameEnd U_ o_ U'_ L_ 3 35) := by
  refine MetFree.of_bodySF (plainFor_of_name pn_1) hisR ?_
  intro pP eE sS mM argsA below meth cC s₁ Bd hml0 hP hK
  obtain ⟨rfl, hZ, hh⟩ := hP
  have hx := Bd.exec
  have hby := Bd.bytes
  have hml : cC.maxLocals = 16 := hml0
  have hown : sS.vm.findClass "com/example/greenweft/greenweft/steiner/NodeHeapIsEmptyPinLaw" = some mM.cls := findClass_of_methodNamed Bd.named
  have hnm := (name_of_methodNamed Bd.named Bd.method).1
  have X0 : Stand pP l eE room_1 sS mM #[(.int p1), (.int p2), (.long k1), (.long k2), (.int nd), (.int fl)] below meth cC s₁ [] 0 0 := Stand.of_body Bd
  have e0 : s₁.heap = h0 := by rw [← hh, Bd.state]; rfl
  have N0 := Fr.nil n0
  have pre0 : ∀ t_, Steps pP.tables eE below (s₁.setTop (mkF mM 0 #[.val (.int p1), .val (.int p2), .val (.long k1), .second, .val (.long k2), .second, .val (.int nd), .val (.int fl), .unset, .unset, .unset, .unset, .unset, .unset, .unset, .unset] [])) t_ → Steps pP.tables eE below (s₁.setTop (entryFrame mM #[(.int p1), (.int p2), (.long k1), (.long k2), (.int nd), (.int fl)] maxLocals)) t_ := fun t_ k_ => castTop (ef_law210 mM p1 p2 k1 k2 nd fl) k_
  obtain ⟨T_1, h_1, X_1, e_1, E_1, A_1, D_1, -, st_1⟩ := newO X0 hx hZ hown (ow hw 1 rfl) (ow hw 2 rfl) (ow hw 3 rfl) e0 (g := (mkF mM 30 (lc55 p1 p2 k1 k2 nd fl) [])) rfl (hb hby at_30) (by decide) (by decide)
  obtain ⟨b_1, g_1⟩ : ∃ z, z = h0.size := ⟨_, rfl⟩
  rw [← g_1] at A_1 D_1 st_1
  have g_b_1 : n0 ≤ b_1 := Nat.le_trans Z0 (Nat.le_of_eq g_1.symm)
  have sz_b_1 : h0.size ≤ b_1 := Nat.le_trans (Keep.refl h0 []).1 (Nat.le_of_eq g_1.symm)
  have Z_1 : n0 ≤ h_1.size := (Nat.le_trans Z0 E_1.1)
  have K_1 : Keep h0 h_1 [] := (Keep.refl h0 []).ext E_1
  have F_keys_b_1__1 : Fld Z h_1 b_1 "com/example/greenweft/greenweft/steiner/NodeHeap" "keys" "[J" .null := D_1 (Or.inl (ow hw 12 rfl)) (ty := (.array .long)) (by decide)
  have F_nodes_b_1__1 : Fld Z h_1 b_1 "com/example/greenweft/greenweft/steiner/NodeHeap" "nodes" "[I" .null := D_1 (Or.inl (ow hw 15 rfl)) (ty := (.array .int)) (by decide)
  have F_size_b_1__1 : Fld Z h_1 b_1 "com/example/greenweft/greenweft/steiner/NodeHeap" "size" "I" (.int (0 : Int32)) := D_1 (Or.inl (ow hw 22 rfl)) (ty := .int) (by decide)
  obtain ⟨_, _, ⟨T_2, L_2, k_2, n_2⟩, -, X_2, ⟨Lc_2, hQ_2, l_2, y_2, z_2⟩, st_2⟩ := X_1.specialBack hx (y := MN3) rfl hown (mvT hZ (ow hw 4 rfl)) (mvT hZ (ow hw 5 rfl)) (mvT hZ (ow hw 6 rfl)) (by decide) (backOf (W := 1) (rm_init l Z a0 hw [] b_1 h_1 n0 Z_1 F_keys_b_1__1 F_nodes_b_1__1 F_size_b_1__1 A_1 g_b_1) hZ (ow hw 6 rfl) (ow hw 3 rfl) (by decide) (by decide)) (g := (mkF mM 34 (lc55 p1 p2 k1 k2 nd fl) [(.ref b_1), (.ref b_1)])) rfl (by rw [hml]; rfl) (Steps.refl _) (a := b_1) (argsL := []) (rest := [(.ref b_1)]) (lenOf pd_3 rfl) rfl (by show 2 * 0 + _ ≤ _; exact Nat.le_of_eq rfl) (hb hby at_34) (fun _ _ => ⟨rfl, e_1, (by decide : 1 + 2 ≤ _), (by decide : 3 + 32 ≤ _)⟩)
  dsimp only [Pt.U, Pt.locs, Pt.cells, Pt.slots] at X_2 l_2 y_2 z_2 st_2 hQ_2
  subst l_2 y_2 z_2
  obtain ⟨d__2, ⟨g__2, ⟨kd__2, ⟨kg__2, ⟨rfl, N_2q, Kc_2, pfsz_d_2, pfsz_g_2, pfndg_2, pfE_a_2, pfF_keys_a_2, pfF_nodes_a_2, pfF_size_a_2, pfV_d_2, pfV_g_2⟩⟩⟩⟩⟩ := hQ_2
  have Z_2 : n0 ≤ T_2.heap.size := (Nat.le_trans Z_1 Kc_2.1)
  have K_2 : Keep h0 T_2.heap [] := K_1.trans Kc_2 (allS (Or.inr sz_b_1) all0)
  have sz_d__2 : h0.size ≤ d__2 := Nat.le_trans K_1.1 pfsz_d_2
  have g_d__2 : n0 ≤ d__2 := Nat.le_trans Z_1 pfsz_d_2
  have sz_g__2 : h0.size ≤ g__2 := Nat.le_trans K_1.1 pfsz_g_2
  have g_g__2 : n0 ≤ g__2 := Nat.le_trans Z_1 pfsz_g_2
  have N_2 := Fr.app N0 N_2q
  obtain ⟨cq_3, kq_3, q_3a, q_3b, q_3c⟩ := isOf hZ rfl pfE_a_2
  obtain ⟨_, _, ⟨T_3, L_3, k_3, n_3⟩, -, X_3, ⟨Lc_3, hQ_3, l_3, y_3, z_3⟩, st_3⟩ := X_2.virtualBack hx (y := MN1) (z := MN1) hown (mvT hZ (ow hw 16 rfl)) (mvT hZ (ow hw 17 rfl)) (notFace_of_selects (args := #[]) (mvT hZ (ow hw 19 rfl))) (mvT hZ (ow hw 19 rfl)) (mvT hZ (ow hw 18 rfl)) (by decide) (backOf (W := 0) (rm_ie0 l Z a0 hw [] b_1 T_2.heap n0 Z_2 pfF_size_a_2) hZ (ow hw 20 rfl) (ow hw 3 rfl) (by decide) (by decide)) q_3a q_3c (g := (mkF mM 41 (lc56 p1 p2 k1 k2 nd fl b_1) [(.ref b_1)])) rfl (by rw [hml]; rfl) (Steps.refl _) (argsL := []) (rest := []) (lenOf pd_1 rfl) rfl (by show 2 * 0 + _ ≤ _; exact Nat.le_of_eq rfl) (hb hby at_41) (fun _ _ => ⟨rfl, rfl, (by decide : 3 + 0 ≤ _), (by decide : 35 + 0 ≤ _)⟩)
  dsimp only [Pt.U, Pt.locs, Pt.cells, Pt.slots] at X_3 l_3 y_3 z_3 st_3 hQ_3
  subst l_3 y_3 z_3
  obtain ⟨rfl, N_3q, eh_3⟩ := hQ_3
  have N_3 := Fr.app N_2 N_3q
  obtain ⟨cq_4, kq_4, q_4a, q_4b, q_4c⟩ := isOf hZ eh_3 pfE_a_2
  obtain ⟨_, _, ⟨T_4, L_4, k_4, n_4⟩, -, X_4, ⟨Lc_4, hQ_4, l_4, y_4, z_4⟩, st_4⟩ := X_3.virtualBack hx (y := MN2) (z := MN2) hown (mvT hZ (ow hw 28 rfl)) (mvT hZ (ow hw 29 rfl)) (notFace_of_selects (args := #[]) (mvT hZ (ow hw 31 rfl))) (mvT hZ (ow hw 31 rfl)) (mvT hZ (ow hw 30 rfl)) (by decide) (backOf (W := 0) (rm_add0 l Z a0 hw [] b_1 d__2 g__2 kd__2 kg__2 k1 nd (0 : Int64) (0 : Int64) (0 : Int64) (0 : Int64) (0 : Int32) (0 : Int32) (0 : Int32) (0 : Int32) T_2.heap n0 Z_2 pfF_size_a_2 pfF_keys_a_2 pfF_nodes_a_2 pfE_a_2 g_b_1 g_d__2 g_g__2 pfV_d_2 pfV_g_2 pfndg_2 (Nat.ne_of_lt (Nat.lt_of_lt_of_le A_1.lt pfsz_d_2)) (Nat.ne_of_lt (Nat.lt_of_lt_of_le A_1.lt pfsz_g_2))) hZ (ow hw 32 rfl) (ow hw 3 rfl) (by decide) (by decide)) q_4a q_4c (g := (mkF mM 57 (lc57 p1 p2 k1 k2 nd fl b_1) [(.int nd), (.long k1), (.ref b_1)])) rfl (by rw [hml]; rfl) (Steps.refl _) (argsL := [(.long k1), (.int nd)]) (rest := []) (lenOf pd_2 rfl) rfl (by show 2 * 0 + _ ≤ _; exact Nat.le_of_eq rfl) (hb hby at_57) (fun _ _ => ⟨rfl, eh_3, (by decide : 3 + 0 ≤ _), (by decide : 35 + 0 ≤ _)⟩)
  dsimp only [Pt.U, Pt.locs, Pt.cells, Pt.slots] at X_4 l_4 y_4 z_4 st_4 hQ_4
  subst l_4 y_4 z_4
  obtain ⟨u0__4, ⟨u1__4, ⟨u2__4, ⟨u3__4, ⟨v0__4, ⟨v1__4, ⟨v2__4, ⟨v3__4, ⟨rfl, N_4q, Kc_4, pfF_size_a_4, pfF_keys_a_4, pfF_nodes_a_4, pfE_a_4, pfV_d_4, pfV_g_4⟩⟩⟩⟩⟩⟩⟩⟩⟩ := hQ_4
  have Z_4 : n0 ≤ T_4.heap.size := (Nat.le_trans Z_2 Kc_4.1)
  have K_4 : Keep h0 T_4.heap [] := K_2.trans Kc_4 (allS (Or.inr sz_b_1) (allS (Or.inr sz_d__2) (allS (Or.inr sz_g__2) all0)))
  have N_4 := Fr.app N_3 N_4q
  obtain ⟨cq_5, kq_5, q_5a, q_5b, q_5c⟩ := isOf hZ rfl pfE_a_4
  obtain ⟨_, _, ⟨T_5, L_5, k_5, n_5⟩, -, X_5, ⟨Lc_5, hQ_5, l_5, y_5, z_5⟩, st_5⟩ := X_4.virtualBack hx (y := MN2) (z := MN2) hown (mvT hZ (ow hw 28 rfl)) (mvT hZ (ow hw 29 rfl)) (notFace_of_selects (args := #[]) (mvT hZ (ow hw 31 rfl))) (mvT hZ (ow hw 31 rfl)) (mvT hZ (ow hw 30 rfl)) (by decide) (backOf (W := 0) (rm_add1 l Z a0 hw [] b_1 d__2 g__2 kd__2 kg__2 k2 (nd + (1 : Int32)) u0__4 u1__4 u2__4 u3__4 v0__4 v1__4 v2__4 v3__4 T_4.heap n0 Z_4 pfF_size_a_4 pfF_keys_a_4 pfF_nodes_a_4 pfE_a_4 g_b_1 g_d__2 g_g__2 pfV_d_4 pfV_g_4 pfndg_2 (Nat.ne_of_lt (Nat.lt_of_lt_of_le A_1.lt pfsz_d_2)) (Nat.ne_of_lt (Nat.lt_of_lt_of_le A_1.lt pfsz_g_2))) hZ (ow hw 32 rfl) (ow hw 3 rfl) (by decide) (by decide)) q_5a q_5c (g := (mkF mM 74 (lc57 p1 p2 k1 k2 nd fl b_1) [(.int (nd + (1 : Int32))), (.long k2), (.ref b_1)])) rfl (by rw [hml]; rfl) (Steps.refl _) (argsL := [(.long k2), (.int (nd + (1 : Int32)))]) (rest := []) (lenOf pd_2 rfl) rfl (by show 2 * 0 + _ ≤ _; exact Nat.le_of_eq rfl) (hb hby at_74) (fun _ _ => ⟨rfl, rfl, (by decide : 3 + 0 ≤ _), (by decide : 35 + 0 ≤ _)⟩)
  dsimp only [Pt.U, Pt.locs, Pt.cells, Pt.slots] at X_5 l_5 y_5 z_5 st_5 hQ_5
  subst l_5 y_5 z_5
  obtain ⟨u0__5, ⟨u1__5, ⟨u2__5, ⟨u3__5, ⟨v0__5, ⟨v1__5, ⟨v2__5, ⟨v3__5, ⟨rfl, N_5q, Kc_5, pfF_size_a_5, pfF_keys_a_5, pfF_nodes_a_5, pfE_a_5, pfV_d_5, pfV_g_5⟩⟩⟩⟩⟩⟩⟩⟩⟩ := hQ_5
  have Z_5 : n0 ≤ T_5.heap.size := (Nat.le_trans Z_4 Kc_5.1)
  have K_5 : Keep h0 T_5.heap [] := K_4.trans Kc_5 (allS (Or.inr sz_b_1) (allS (Or.inr sz_d__2) (allS (Or.inr sz_g__2) all0)))
  have N_5 := Fr.app N_4 N_5q
  obtain ⟨cq_6, kq_6, q_6a, q_6b, q_6c⟩ := isOf hZ rfl pfE_a_5
  obtain ⟨_, _, ⟨T_6, L_6, k_6, n_6⟩, -, X_6, ⟨Lc_6, hQ_6, l_6, y_6, z_6⟩, st_6⟩ := X_5.virtualBack hx (y := MN5) (z := MN5) hown (mvT hZ (ow hw 36 rfl)) (mvT hZ (ow hw 37 rfl)) (notFace_of_selects (args := #[]) (mvT hZ (ow hw 39 rfl))) (mvT hZ (ow hw 39 rfl)) (mvT hZ (ow hw 38 rfl)) (by decide) (backOf (W := 0) (rm_take2 l Z a0 hw [] b_1 d__2 g__2 kd__2 kg__2 u0__5 u1__5 u2__5 u3__5 v0__5 v1__5 v2__5 v3__5 T_5.heap n0 Z_5 pfF_size_a_5 pfF_keys_a_5 pfF_nodes_a_5 pfE_a_5 g_b_1 g_d__2 g_g__2 pfV_d_5 pfV_g_5 pfndg_2 (Nat.ne_of_lt (Nat.lt_of_lt_of_le A_1.lt pfsz_d_2)) (Nat.ne_of_lt (Nat.lt_of_lt_of_le A_1.lt pfsz_g_2))) hZ (ow hw 40 rfl) (ow hw 3 rfl) (by decide) (by decide)) q_6a q_6c (g := (mkF mM 104 (lc57 p1 p2 k1 k2 nd fl b_1) [(.ref b_1)])) rfl (by rw [hml]; rfl) (Steps.refl _) (argsL := []) (rest := []) (lenOf pd_4 rfl) rfl (by show 2 * 0 + _ ≤ _; exact Nat.le_of_eq rfl) (hb hby at_104) (fun _ _ => ⟨rfl, rfl, (by decide : 3 + 0 ≤ _), (by decide : 35 + 0 ≤ _)⟩)
  dsimp only [Pt.U, Pt.locs, Pt.cells, Pt.slots] at X_6 l_6 y_6 z_6 st_6 hQ_6
  subst l_6 y_6 z_6
  obtain ⟨u0__6, ⟨u1__6, ⟨u2__6, ⟨u3__6, ⟨v0__6, ⟨v1__6, ⟨v2__6, ⟨v3__6, ⟨rfl, N_6q, Kc_6, pfF_size_a_6, pfF_keys_a_6, pfF_nodes_a_6, pfE_a_6, pfV_d_6, pfV_g_6⟩⟩⟩⟩⟩⟩⟩⟩⟩ := hQ_6
  have Z_6 : n0 ≤ T_6.heap.size := (Nat.le_trans Z_5 Kc_6.1)
  have K_6 : Keep h0 T_6.heap [] := K_5.trans Kc_6 (allS (Or.inr sz_b_1) (allS (Or.inr sz_d__2) (allS (Or.inr sz_g__2) all0)))
  have N_6 := Fr.app N_5 N_6q
  obtain ⟨T_7, h_7, L_7, X_7, e_7, N_7, Kc_7, st_7⟩ := pc_tail1 p1 p2 k1 k2 nd fl (2 : Int32) (1 : Int32) (0 : Int32) b_1 d__2 g__2 kd__2 kg__2 u0__6 u1__6 u2__6 u3__6 v0__6 v1__6 v2__6 v3__6 X_6 hx hZ hw hby hml hown rfl N_6 Z_6 pfF_size_a_6 pfF_keys_a_6 pfF_nodes_a_6 pfE_a_6 g_b_1 g_d__2 g_g__2 pfV_d_6 pfV_g_6 pfndg_2 (Nat.ne_of_lt (Nat.lt_of_lt_of_le A_1.lt pfsz_d_2)) (Nat.ne_of_lt (Nat.lt_of_lt_of_le A_1.lt pfsz_g_2))
  have Z_7 : n0 ≤ h_7.size := (Nat.le_trans Z_6 Kc_7.1)
  have K_7 : Keep h0 h_7 [] := K_6.trans Kc_7 (allS (Or.inr sz_b_1) (allS (Or.inr sz_d__2) (allS (Or.inr sz_g__2) all0)))
  obtain ⟨fs, hr, hrun, hended, hW, hsame⟩ := X_7.leave (v := some (.int (1 : Int32))) (fun h => by rw [Bd.returns] at h; cases h)
  refine ⟨_, _, pre0 _ ?_, hrun, hended, _, _, rfl, ?_, ⟨_, rfl⟩, hW, hsame.mono (by decide) (by decide)⟩
  · show oS pP eE below s₁ (mkF mM 0 (lc6 p1 p2 k1 k2 nd fl) []) _
    refine XS.iloadN X0.here hx rfl (hb hby at_0) rfl ?_
    refine XS.iconst X0.here hx rfl (hb hby at_1) ?_
    show oS pP eE below s₁ (mkF mM 2 (lc6 p1 p2 k1 k2 nd fl) [(.int (3 : Int32)), (.int p1)]) _
    refine XS.iand X0.here hx rfl (hb hby at_2) rfl ?_
    show oS pP eE below s₁ (mkF mM 3 (lc6 p1 p2 k1 k2 nd fl) [(.int (p1 &&& (3 : Int32)))]) _
    rw [hn]
    refine XS.istore X0.here hx rfl (hb hby at_3) rfl (l' := (lc42 p1 p2 k1 k2 nd fl)) rfl ?_
    refine XS.iloadN X0.here hx rfl (hb hby at_5) rfl ?_
    show oS pP eE below s₁ (mkF mM 6 (lc42 p1 p2 k1 k2 nd fl) [(.int p2)]) _
    refine X0.ldcI hx hown (mvT hZ (ow hw 0 rfl)) (g := (mkF mM 6 (lc42 p1 p2 k1 k2 nd fl) [(.int p2)])) rfl (hb hby at_6) ?_
    show oS pP eE below s₁ (mkF mM 8 (lc42 p1 p2 k1 k2 nd fl) [(.int (2147483647 : Int32)), (.int p2)]) _
    refine XS.iand X0.here hx rfl (hb hby at_8) rfl ?_
    refine XS.iload X0.here hx rfl (hb hby at_9) rfl ?_
    refine XS.iconst X0.here hx rfl (hb hby at_11) ?_
    show oS pP eE below s₁ (mkF mM 12 (lc42 p1 p2 k1 k2 nd fl) [(.int (1 : Int32)), (.int (2 : Int32)), (.int (p2 &&& (2147483647 : Int32)))]) _
    refine XS.iadd X0.here hx rfl (hb hby at_12) rfl ?_
    show oS pP eE below s₁ (mkF mM 13 (lc42 p1 p2 k1 k2 nd fl) [(.int ((2 : Int32) + (1 : Int32))), (.int (p2 &&& (2147483647 : Int32)))]) _
    rw [(by decide : ((2 : Int32) + (1 : Int32)) = (3 : Int32))]
    show oS pP eE below s₁ (mkF mM 13 (lc42 p1 p2 k1 k2 nd fl) [(.int (3 : Int32)), (.int (p2 &&& (2147483647 : Int32)))]) _
    refine iremM X0 hx rfl (hb hby at_13) rfl (by decide) ?_
    show oS pP eE below s₁ (mkF mM 14 (lc42 p1 p2 k1 k2 nd fl) [(.int ((p2 &&& (2147483647 : Int32)) % (3 : Int32)))]) _
    rw [ht]
    refine XS.istore X0.here hx rfl (hb hby at_14) rfl (l' := (lc54 p1 p2 k1 k2 nd fl)) rfl ?_
    refine XS.iload X0.here hx rfl (hb hby at_16) rfl ?_
    refine XS.iconst X0.here hx rfl (hb hby at_18) ?_
    show oS pP eE below s₁ (mkF mM 19 (lc54 p1 p2 k1 k2 nd fl) [(.int (1 : Int32)), (.int fl)]) _
    refine XS.iand X0.here hx rfl (hb hby at_19) rfl ?_
    refine XS.ifYes X0.here hx rfl (pc0 := 20) (pc' := 27) rfl (hb hby at_20) rfl (XT.i0_eq_t hc) (by decide) (by decide) ?_
    refine XS.iconst X0.here hx rfl (hb hby at_27) ?_
    refine XS.istore X0.here hx rfl (hb hby at_28) rfl (l' := (lc55 p1 p2 k1 k2 nd fl)) rfl ?_
    show oS pP eE below s₁ (mkF mM 30 (lc55 p1 p2 k1 k2 nd fl) []) _
    refine st_1 _ ?_
    show oS pP eE below T_1 (mkF mM 33 (lc55 p1 p2 k1 k2 nd fl) [(.ref b_1)]) _
    refine XS.dup X_1.here hx rfl (hb hby at_33) rfl rfl ?_
    show oS pP eE below T_1 (mkF mM 34 (lc55 p1 p2 k1 k2 nd fl) [(.ref b_1), (.ref b_1)]) _
    refine st_2.trans ?_
    show oS pP eE below T_2 (mkF mM 37 (lc55 p1 p2 k1 k2 nd fl) [(.ref b_1)]) _
    refine XS.astore X_2.here hx rfl (hb hby at_37) rfl rfl (l' := (lc56 p1 p2 k1 k2 nd fl b_1)) rfl ?_
    refine XS.aload X_2.here hx rfl (hb hby at_39) rfl rfl ?_
    show oS pP eE below T_2 (mkF mM 41 (lc56 p1 p2 k1 k2 nd fl b_1) [(.ref b_1)]) _
    refine st_3.trans ?_
    show oS pP eE below T_3 (mkF mM 44 (lc56 p1 p2 k1 k2 nd fl b_1) [(.int (1 : Int32))]) _
    refine XS.istore X_3.here hx rfl (hb hby at_44) rfl (l' := (lc57 p1 p2 k1 k2 nd fl b_1)) rfl ?_
    refine XS.iload X_3.here hx rfl (hb hby at_46) rfl ?_
    refine XS.iconst X_3.here hx rfl (hb hby at_48) ?_
    refine XS.icmpNo X_3.here hx rfl (hb hby at_49) rfl (by decide) ?_
    refine XS.aload X_3.here hx rfl (hb hby at_52) rfl rfl ?_
    refine XT.lloadN X_3.here hx rfl (hb hby at_54) rfl ?_
    refine XS.iload X_3.here hx rfl (hb hby at_55) rfl ?_
    show oS pP eE below T_3 (mkF mM 57 (lc57 p1 p2 k1 k2 nd fl b_1) [(.int nd), (.long k1), (.ref b_1)]) _
    refine st_4.trans ?_
    show oS pP eE below T_4 (mkF mM 60 (lc57 p1 p2 k1 k2 nd fl b_1) []) _
    refine XS.iload X_4.here hx rfl (hb hby at_60) rfl ?_
    refine XS.iconst X_4.here hx rfl (hb hby at_62) ?_
    refine XS.icmpNo X_4.here hx rfl (hb hby at_63) rfl (by decide) ?_
    refine XS.aload X_4.here hx rfl (hb hby at_66) rfl rfl ?_
    refine XT.lload X_4.here hx rfl (hb hby at_68) rfl ?_
    refine XS.iload X_4.here hx rfl (hb hby at_70) rfl ?_
    refine XS.iconst X_4.here hx rfl (hb hby at_72) ?_
    show oS pP eE below T_4 (mkF mM 73 (lc57 p1 p2 k1 k2 nd fl b_1) [(.int (1 : Int32)), (.int nd), (.long k2), (.ref b_1)]) _
    refine XS.iadd X_4.here hx rfl (hb hby at_73) rfl ?_
    show oS pP eE below T_4 (mkF mM 74 (lc57 p1 p2 k1 k2 nd fl b_1) [(.int (nd + (1 : Int32))), (.long k2), (.ref b_1)]) _
    refine st_5.trans ?_
    show oS pP eE below T_5 (mkF mM 77 (lc57 p1 p2 k1 k2 nd fl b_1) []) _
    refine XS.iload X_5.here hx rfl (hb hby at_77) rfl ?_
    refine XS.iconst X_5.here hx rfl (hb hby at_79) ?_
    refine XS.icmpYes X_5.here hx rfl (pc0 := 80) (pc' := 96) rfl (hb hby at_80) rfl (by decide) (by decide) (by decide) ?_
    refine XS.iload X_5.here hx rfl (hb hby at_96) rfl ?_
    refine XS.iconst X_5.here hx rfl (hb hby at_98) ?_
    refine XS.icmpNo X_5.here hx rfl (hb hby at_99) rfl (by decide) ?_
    refine XS.aload X_5.here hx rfl (hb hby at_102) rfl rfl ?_
    show oS pP eE below T_5 (mkF mM 104 (lc57 p1 p2 k1 k2 nd fl b_1) [(.ref b_1)]) _
    refine st_6.trans ?_
    show oS pP eE below T_6 (mkF mM 107 (lc57 p1 p2 k1 k2 nd fl b_1) [(.int v0__5)]) _
    refine XT.pop X_6.here hx rfl (hb hby at_107) rfl rfl ?_
    refine XS.iload X_6.here hx rfl (hb hby at_108) rfl ?_
    refine XS.iconst X_6.here hx rfl (hb hby at_110) ?_
    refine XS.icmpYes X_6.here hx rfl (pc0 := 111) (pc' := 120) rfl (hb hby at_111) rfl (by decide) (by decide) (by decide) ?_
    refine XS.iload X_6.here hx rfl (hb hby at_120) rfl ?_
    refine XS.iconst X_6.here hx rfl (hb hby at_122) ?_
    refine XS.icmpYes X_6.here hx rfl (pc0 := 123) (pc' := 132) rfl (hb hby at_123) rfl (by decide) (by decide) (by decide) ?_
    refine XS.iload X_6.here hx rfl (hb hby at_132) rfl ?_
    show oS pP eE below T_6 (mkF mM 134 (lc57 p1 p2 k1 k2 nd fl b_1) [(.int (0 : Int32))]) _
    refine XS.ifYes X_6.here hx rfl (pc0 := 134) (pc' := 142) rfl (hb hby at_134) rfl (by decide) (by decide) (by decide) ?_
    refine XS.iload X_6.here hx rfl (hb hby at_142) rfl ?_
    refine XS.ifNo X_6.here hx rfl (hb hby at_144) rfl (by decide) ?_
    refine XS.iload X_6.here hx rfl (hb hby at_147) rfl ?_
    refine XS.iload X_6.here hx rfl (hb hby at_149) rfl ?_
    show oS pP eE below T_6 (mkF mM 151 (lc57 p1 p2 k1 k2 nd fl b_1) [(.int (1 : Int32)), (.int (2 : Int32))]) _
    refine XS.isub X_6.here hx rfl (hb hby at_151) rfl ?_
    show oS pP eE below T_6 (mkF mM 152 (lc57 p1 p2 k1 k2 nd fl b_1) [(.int ((2 : Int32) - (1 : Int32)))]) _
    rw [(by decide : ((2 : Int32) - (1 : Int32)) = (1 : Int32))]
    refine XS.ifYes X_6.here hx rfl (pc0 := 152) (pc' := 159) rfl (hb hby at_152) rfl (by decide) (by decide) (by decide) ?_
    refine XS.iconst X_6.here hx rfl (hb hby at_159) ?_
    refine XS.istore X_6.here hx rfl (hb hby at_160) rfl (l' := (lc58 p1 p2 k1 k2 nd fl b_1)) rfl ?_
    show oS pP eE below T_6 (mkF mM 162 (lc58 p1 p2 k1 k2 nd fl b_1) []) _
    refine st_7 _ ?_
    show oS pP eE below T_7 (mkF mM 207 (lc59 p1 p2 k1 k2 nd fl b_1) [(.int (1 : Int32))]) _
    exact retN X_7 hx (t := .boolean) Bd.returns (by simp) (hb hby at_207) hr
  · show Q_law210 Z p1 p2 k1 k2 nd fl h0 n0 _ T_7.heap _
    exact ⟨rfl, N_7⟩
abbrev lc60 (p1 : Int32) (p2 : Int32) (k1 : Int64) (k2 : Int64) (nd : Int32) (fl : Int32) : Array Slot := #[.val (.int p1), .val (.int p2), .val (.long k1), .second, .val (.long k2), .second, .val (.int nd), .val (.int fl), .val (.int (2 : Int32)), .val (.int (1 : Int32)), .val (.int (1 : Int32)), .unset, .unset, .unset, .unset, .unset]
abbrev lc61 (p1 : Int32) (p2 : Int32) (k1 : Int64) (k2 : Int64) (nd : Int32) (fl : Int32) (b_1 : Addr) : Array Slot := #[.val (.int p1), .val (.int p2), .val (.long k1), .second, .val (.long k2), .second, .val (.int nd), .val (.int fl), .val (.int (2 : Int32)), .val (.int (1 : Int32)), .val (.int (1 : Int32)), .val (.ref b_1), .unset, .unset, .unset, .unset]
abbrev lc62 (p1 : Int32) (p2 : Int32) (k1 : Int64) (k2 : Int64) (nd : Int32) (fl : Int32) (b_1 : Addr) : Array Slot := #[.val (.int p1), .val (.int p2), .val (.long k1), .second, .val (.long k2), .second, .val (.int nd), .val (.int fl), .val (.int (2 : Int32)), .val (.int (1 : Int32)), .val (.int (1 : Int32)), .val (.ref b_1), .val (.int (1 : Int32)), .unset, .unset, .unset]
abbrev lc63 (p1 : Int32) (p2 : Int32) (k1 : Int64) (k2 : Int64) (nd : Int32) (fl : Int32) (b_1 : Addr) : Array Slot := #[.val (.int p1), .val (.int p2), .val (.long k1), .second, .val (.long k2), .second, .val (.int nd), .val (.int fl), .val (.int (2 : Int32)), .val (.int (1 : Int32)), .val (.int (1 : Int32)), .val (.ref b_1), .val (.int (1 : Int32)), .val (.int (1 : Int32)), .unset, .unset]
abbrev lc64 (p1 : Int32) (p2 : Int32) (k1 : Int64) (k2 : Int64) (nd : Int32) (fl : Int32) (b_1 : Addr) : Array Slot := #[.val (.int p1), .val (.int p2), .val (.long k1), .second, .val (.long k2), .second, .val (.int nd), .val (.int fl), .val (.int (2 : Int32)), .val (.int (1 : Int32)), .val (.int (1 : Int32)), .val (.ref b_1), .val (.int (1 : Int32)), .val (.int (1 : Int32)), .val (.int (1 : Int32)), .val (.int (0 : Int32))]
theorem ef_law211 (mM : MethodId) (x0 : Int32) (x1 : Int32) (x2 : Int64) (x3 : Int64) (x4 : Int32) (x5 : Int32) : entryFrame mM #[(.int x0), (.int x1), (.long x2), (.long x3), (.int x4), (.int x5)] maxLocals = mkF mM 0 #[.val (.int x0), .val (.int x1), .val (.long x2), .second, .val (.long x3), .second, .val (.int x4), .val (.int x5), .unset, .unset, .unset, .unset, .unset, .unset, .unset, .unset] [] := by first | (simp [entryFrame, mkF, argsToLocals, Value.category, maxLocals]; done) | rfl
def Q_law211 (Z : State) (p1 : Int32) (p2 : Int32) (k1 : Int64) (k2 : Int64) (nd : Int32) (fl : Int32) (h0 : Heap) (n0 : Nat) (v_ : Option Value) (h_ : Heap) (L_ : List Loc) : Prop := v_ = some (.int (1 : Int32)) ∧ Fr n0 L_
set_option maxRecDepth 65536 in
set_option maxHeartbeats 40000000 in
theorem rm_law211 (l : Launch) (Z : State) (a0 : Array Value) (hw : ∀ d ∈ tables_1, d.before a0 Z = true) (ws : List Jvm.Cond) (p1 : Int32) (p2 : Int32) (k1 : Int64) (k2 : Int64) (nd : Int32) (fl : Int32) (h0 : Heap) (n0 : Nat) (Z0 : n0 ≤ h0.size) (hn : (p1 &&& (3 : Int32)) = (2 : Int32)) (ht : ((p2 &&& (2147483647 : Int32)) % (3 : Int32)) = (1 : Int32)) (hc : ¬ (fl &&& (1 : Int32)) = 0) :
    MetFree l x (head1 (Jvm.Cond.code x code maxLocals ret :: ws) room_1) (fun aa_ U_ => aa_ = #[(.int p1), (.int p2), (.long k1), (.long k2), (.int nd), (.int fl)] ∧ Z.Warmed39 U_.vm ∧ U_.heap = h0) (fun _ _ _ _ _ => True) (fun _ U_ o_ U'_ => ∃ v_ L_, o_ = .returned v_ ∧ Q_law211 Z p1 p2 k1 k2 nd fl h0 n0 v_ U'_.heap L_ ∧ FrameEnd U_ o_ U'_ L_ 3 35) := by
  refine MetFree.of_bodySF (plainFor_of_name pn_1) hisR ?_
  intro pP eE sS mM argsA below meth cC s₁ Bd hml0 hP hK
  obtain ⟨rfl, hZ, hh⟩ := hP
  have hx := Bd.exec
  have hby := Bd.bytes
  have hml : cC.maxLocals = 16 := hml0
  have hown : sS.vm.findClass "com/example/greenweft/greenweft/steiner/NodeHeapIsEmptyPinLaw" = some mM.cls := findClass_of_methodNamed Bd.named
  have hnm := (name_of_methodNamed Bd.named Bd.method).1
  have X0 : Stand pP l eE room_1 sS mM #[(.int p1), (.int p2), (.long k1), (.long k2), (.int nd), (.int fl)] below meth cC s₁ [] 0 0 := Stand.of_body Bd
  have e0 : s₁.heap = h0 := by rw [← hh, Bd.state]; rfl
  have N0 := Fr.nil n0
  have pre0 : ∀ t_, Steps pP.tables eE below (s₁.setTop (mkF mM 0 #[.val (.int p1), .val (.int p2), .val (.long k1), .second, .val (.long k2), .second, .val (.int nd), .val (.int fl), .unset, .unset, .unset, .unset, .unset, .unset, .unset, .unset] [])) t_ → Steps pP.tables eE below (s₁.setTop (entryFrame mM #[(.int p1), (.int p2), (.long k1), (.long k2), (.int nd), (.int fl)] maxLocals)) t_ := fun t_ k_ => castTop (ef_law211 mM p1 p2 k1 k2 nd fl) k_
  obtain ⟨T_1, h_1, X_1, e_1, E_1, A_1, D_1, -, st_1⟩ := newO X0 hx hZ hown (ow hw 1 rfl) (ow hw 2 rfl) (ow hw 3 rfl) e0 (g := (mkF mM 30 (lc60 p1 p2 k1 k2 nd fl) [])) rfl (hb hby at_30) (by decide) (by decide)
  obtain ⟨b_1, g_1⟩ : ∃ z, z = h0.size := ⟨_, rfl⟩
  rw [← g_1] at A_1 D_1 st_1
  have g_b_1 : n0 ≤ b_1 := Nat.le_trans Z0 (Nat.le_of_eq g_1.symm)
  have sz_b_1 : h0.size ≤ b_1 := Nat.le_trans (Keep.refl h0 []).1 (Nat.le_of_eq g_1.symm)
  have Z_1 : n0 ≤ h_1.size := (Nat.le_trans Z0 E_1.1)
  have K_1 : Keep h0 h_1 [] := (Keep.refl h0 []).ext E_1
  have F_keys_b_1__1 : Fld Z h_1 b_1 "com/example/greenweft/greenweft/steiner/NodeHeap" "keys" "[J" .null := D_1 (Or.inl (ow hw 12 rfl)) (ty := (.array .long)) (by decide)
  have F_nodes_b_1__1 : Fld Z h_1 b_1 "com/example/greenweft/greenweft/steiner/NodeHeap" "nodes" "[I" .null := D_1 (Or.inl (ow hw 15 rfl)) (ty := (.array .int)) (by decide)
  have F_size_b_1__1 : Fld Z h_1 b_1 "com/example/greenweft/greenweft/steiner/NodeHeap" "size" "I" (.int (0 : Int32)) := D_1 (Or.inl (ow hw 22 rfl)) (ty := .int) (by decide)
  obtain ⟨_, _, ⟨T_2, L_2, k_2, n_2⟩, -, X_2, ⟨Lc_2, hQ_2, l_2, y_2, z_2⟩, st_2⟩ := X_1.specialBack hx (y := MN3) rfl hown (mvT hZ (ow hw 4 rfl)) (mvT hZ (ow hw 5 rfl)) (mvT hZ (ow hw 6 rfl)) (by decide) (backOf (W := 1) (rm_init l Z a0 hw [] b_1 h_1 n0 Z_1 F_keys_b_1__1 F_nodes_b_1__1 F_size_b_1__1 A_1 g_b_1) hZ (ow hw 6 rfl) (ow hw 3 rfl) (by decide) (by decide)) (g := (mkF mM 34 (lc60 p1 p2 k1 k2 nd fl) [(.ref b_1), (.ref b_1)])) rfl (by rw [hml]; rfl) (Steps.refl _) (a := b_1) (argsL := []) (rest := [(.ref b_1)]) (lenOf pd_3 rfl) rfl (by show 2 * 0 + _ ≤ _; exact Nat.le_of_eq rfl) (hb hby at_34) (fun _ _ => ⟨rfl, e_1, (by decide : 1 + 2 ≤ _), (by decide : 3 + 32 ≤ _)⟩)
  dsimp only [Pt.U, Pt.locs, Pt.cells, Pt.slots] at X_2 l_2 y_2 z_2 st_2 hQ_2
  subst l_2 y_2 z_2
  obtain ⟨d__2, ⟨g__2, ⟨kd__2, ⟨kg__2, ⟨rfl, N_2q, Kc_2, pfsz_d_2, pfsz_g_2, pfndg_2, pfE_a_2, pfF_keys_a_2, pfF_nodes_a_2, pfF_size_a_2, pfV_d_2, pfV_g_2⟩⟩⟩⟩⟩ := hQ_2
  have Z_2 : n0 ≤ T_2.heap.size := (Nat.le_trans Z_1 Kc_2.1)
  have K_2 : Keep h0 T_2.heap [] := K_1.trans Kc_2 (allS (Or.inr sz_b_1) all0)
  have sz_d__2 : h0.size ≤ d__2 := Nat.le_trans K_1.1 pfsz_d_2
  have g_d__2 : n0 ≤ d__2 := Nat.le_trans Z_1 pfsz_d_2
  have sz_g__2 : h0.size ≤ g__2 := Nat.le_trans K_1.1 pfsz_g_2
  have g_g__2 : n0 ≤ g__2 := Nat.le_trans Z_1 pfsz_g_2
  have N_2 := Fr.app N0 N_2q
  obtain ⟨cq_3, kq_3, q_3a, q_3b, q_3c⟩ := isOf hZ rfl pfE_a_2
  obtain ⟨_, _, ⟨T_3, L_3, k_3, n_3⟩, -, X_3, ⟨Lc_3, hQ_3, l_3, y_3, z_3⟩, st_3⟩ := X_2.virtualBack hx (y := MN1) (z := MN1) hown (mvT hZ (ow hw 16 rfl)) (mvT hZ (ow hw 17 rfl)) (notFace_of_selects (args := #[]) (mvT hZ (ow hw 19 rfl))) (mvT hZ (ow hw 19 rfl)) (mvT hZ (ow hw 18 rfl)) (by decide) (backOf (W := 0) (rm_ie0 l Z a0 hw [] b_1 T_2.heap n0 Z_2 pfF_size_a_2) hZ (ow hw 20 rfl) (ow hw 3 rfl) (by decide) (by decide)) q_3a q_3c (g := (mkF mM 41 (lc61 p1 p2 k1 k2 nd fl b_1) [(.ref b_1)])) rfl (by rw [hml]; rfl) (Steps.refl _) (argsL := []) (rest := []) (lenOf pd_1 rfl) rfl (by show 2 * 0 + _ ≤ _; exact Nat.le_of_eq rfl) (hb hby at_41) (fun _ _ => ⟨rfl, rfl, (by decide : 3 + 0 ≤ _), (by decide : 35 + 0 ≤ _)⟩)
  dsimp only [Pt.U, Pt.locs, Pt.cells, Pt.slots] at X_3 l_3 y_3 z_3 st_3 hQ_3
  subst l_3 y_3 z_3
  obtain ⟨rfl, N_3q, eh_3⟩ := hQ_3
  have N_3 := Fr.app N_2 N_3q
  obtain ⟨cq_4, kq_4, q_4a, q_4b, q_4c⟩ := isOf hZ eh_3 pfE_a_2
  obtain ⟨_, _, ⟨T_4, L_4, k_4, n_4⟩, -, X_4, ⟨Lc_4, hQ_4, l_4, y_4, z_4⟩, st_4⟩ := X_3.virtualBack hx (y := MN2) (z := MN2) hown (mvT hZ (ow hw 28 rfl)) (mvT hZ (ow hw 29 rfl)) (notFace_of_selects (args := #[]) (mvT hZ (ow hw 31 rfl))) (mvT hZ (ow hw 31 rfl)) (mvT hZ (ow hw 30 rfl)) (by decide) (backOf (W := 0) (rm_add0 l Z a0 hw [] b_1 d__2 g__2 kd__2 kg__2 k1 nd (0 : Int64) (0 : Int64) (0 : Int64) (0 : Int64) (0 : Int32) (0 : Int32) (0 : Int32) (0 : Int32) T_2.heap n0 Z_2 pfF_size_a_2 pfF_keys_a_2 pfF_nodes_a_2 pfE_a_2 g_b_1 g_d__2 g_g__2 pfV_d_2 pfV_g_2 pfndg_2 (Nat.ne_of_lt (Nat.lt_of_lt_of_le A_1.lt pfsz_d_2)) (Nat.ne_of_lt (Nat.lt_of_lt_of_le A_1.lt pfsz_g_2))) hZ (ow hw 32 rfl) (ow hw 3 rfl) (by decide) (by decide)) q_4a q_4c (g := (mkF mM 57 (lc62 p1 p2 k1 k2 nd fl b_1) [(.int nd), (.long k1), (.ref b_1)])) rfl (by rw [hml]; rfl) (Steps.refl _) (argsL := [(.long k1), (.int nd)]) (rest := []) (lenOf pd_2 rfl) rfl (by show 2 * 0 + _ ≤ _; exact Nat.le_of_eq rfl) (hb hby at_57) (fun _ _ => ⟨rfl, eh_3, (by decide : 3 + 0 ≤ _), (by decide : 35 + 0 ≤ _)⟩)
  dsimp only [Pt.U, Pt.locs, Pt.cells, Pt.slots] at X_4 l_4 y_4 z_4 st_4 hQ_4
  subst l_4 y_4 z_4
  obtain ⟨u0__4, ⟨u1__4, ⟨u2__4, ⟨u3__4, ⟨v0__4, ⟨v1__4, ⟨v2__4, ⟨v3__4, ⟨rfl, N_4q, Kc_4, pfF_size_a_4, pfF_keys_a_4, pfF_nodes_a_4, pfE_a_4, pfV_d_4, pfV_g_4⟩⟩⟩⟩⟩⟩⟩⟩⟩ := hQ_4
  have Z_4 : n0 ≤ T_4.heap.size := (Nat.le_trans Z_2 Kc_4.1)
  have K_4 : Keep h0 T_4.heap [] := K_2.trans Kc_4 (allS (Or.inr sz_b_1) (allS (Or.inr sz_d__2) (allS (Or.inr sz_g__2) all0)))
  have N_4 := Fr.app N_3 N_4q
  obtain ⟨cq_5, kq_5, q_5a, q_5b, q_5c⟩ := isOf hZ rfl pfE_a_4
  obtain ⟨_, _, ⟨T_5, L_5, k_5, n_5⟩, -, X_5, ⟨Lc_5, hQ_5, l_5, y_5, z_5⟩, st_5⟩ := X_4.virtualBack hx (y := MN2) (z := MN2) hown (mvT hZ (ow hw 28 rfl)) (mvT hZ (ow hw 29 rfl)) (notFace_of_selects (args := #[]) (mvT hZ (ow hw 31 rfl))) (mvT hZ (ow hw 31 rfl)) (mvT hZ (ow hw 30 rfl)) (by decide) (backOf (W := 0) (rm_add1 l Z a0 hw [] b_1 d__2 g__2 kd__2 kg__2 k2 (nd + (1 : Int32)) u0__4 u1__4 u2__4 u3__4 v0__4 v1__4 v2__4 v3__4 T_4.heap n0 Z_4 pfF_size_a_4 pfF_keys_a_4 pfF_nodes_a_4 pfE_a_4 g_b_1 g_d__2 g_g__2 pfV_d_4 pfV_g_4 pfndg_2 (Nat.ne_of_lt (Nat.lt_of_lt_of_le A_1.lt pfsz_d_2)) (Nat.ne_of_lt (Nat.lt_of_lt_of_le A_1.lt pfsz_g_2))) hZ (ow hw 32 rfl) (ow hw 3 rfl) (by decide) (by decide)) q_5a q_5c (g := (mkF mM 74 (lc62 p1 p2 k1 k2 nd fl b_1) [(.int (nd + (1 : Int32))), (.long k2), (.ref b_1)])) rfl (by rw [hml]; rfl) (Steps.refl _) (argsL := [(.long k2), (.int (nd + (1 : Int32)))]) (rest := []) (lenOf pd_2 rfl) rfl (by show 2 * 0 + _ ≤ _; exact Nat.le_of_eq rfl) (hb hby at_74) (fun _ _ => ⟨rfl, rfl, (by decide : 3 + 0 ≤ _), (by decide : 35 + 0 ≤ _)⟩)
  dsimp only [Pt.U, Pt.locs, Pt.cells, Pt.slots] at X_5 l_5 y_5 z_5 st_5 hQ_5
  subst l_5 y_5 z_5
  obtain ⟨u0__5, ⟨u1__5, ⟨u2__5, ⟨u3__5, ⟨v0__5, ⟨v1__5, ⟨v2__5, ⟨v3__5, ⟨rfl, N_5q, Kc_5, pfF_size_a_5, pfF_keys_a_5, pfF_nodes_a_5, pfE_a_5, pfV_d_5, pfV_g_5⟩⟩⟩⟩⟩⟩⟩⟩⟩ := hQ_5
  have Z_5 : n0 ≤ T_5.heap.size := (Nat.le_trans Z_4 Kc_5.1)
  have K_5 : Keep h0 T_5.heap [] := K_4.trans Kc_5 (allS (Or.inr sz_b_1) (allS (Or.inr sz_d__2) (allS (Or.inr sz_g__2) all0)))
  have N_5 := Fr.app N_4 N_5q
  obtain ⟨cq_6, kq_6, q_6a, q_6b, q_6c⟩ := isOf hZ rfl pfE_a_5
  obtain ⟨_, _, ⟨T_6, L_6, k_6, n_6⟩, -, X_6, ⟨Lc_6, hQ_6, l_6, y_6, z_6⟩, st_6⟩ := X_5.virtualBack hx (y := MN5) (z := MN5) hown (mvT hZ (ow hw 36 rfl)) (mvT hZ (ow hw 37 rfl)) (notFace_of_selects (args := #[]) (mvT hZ (ow hw 39 rfl))) (mvT hZ (ow hw 39 rfl)) (mvT hZ (ow hw 38 rfl)) (by decide) (backOf (W := 0) (rm_take2 l Z a0 hw [] b_1 d__2 g__2 kd__2 kg__2 u0__5 u1__5 u2__5 u3__5 v0__5 v1__5 v2__5 v3__5 T_5.heap n0 Z_5 pfF_size_a_5 pfF_keys_a_5 pfF_nodes_a_5 pfE_a_5 g_b_1 g_d__2 g_g__2 pfV_d_5 pfV_g_5 pfndg_2 (Nat.ne_of_lt (Nat.lt_of_lt_of_le A_1.lt pfsz_d_2)) (Nat.ne_of_lt (Nat.lt_of_lt_of_le A_1.lt pfsz_g_2))) hZ (ow hw 40 rfl) (ow hw 3 rfl) (by decide) (by decide)) q_6a q_6c (g := (mkF mM 104 (lc62 p1 p2 k1 k2 nd fl b_1) [(.ref b_1)])) rfl (by rw [hml]; rfl) (Steps.refl _) (argsL := []) (rest := []) (lenOf pd_4 rfl) rfl (by show 2 * 0 + _ ≤ _; exact Nat.le_of_eq rfl) (hb hby at_104) (fun _ _ => ⟨rfl, rfl, (by decide : 3 + 0 ≤ _), (by decide : 35 + 0 ≤ _)⟩)
  dsimp only [Pt.U, Pt.locs, Pt.cells, Pt.slots] at X_6 l_6 y_6 z_6 st_6 hQ_6
  subst l_6 y_6 z_6
  obtain ⟨u0__6, ⟨u1__6, ⟨u2__6, ⟨u3__6, ⟨v0__6, ⟨v1__6, ⟨v2__6, ⟨v3__6, ⟨rfl, N_6q, Kc_6, pfF_size_a_6, pfF_keys_a_6, pfF_nodes_a_6, pfE_a_6, pfV_d_6, pfV_g_6⟩⟩⟩⟩⟩⟩⟩⟩⟩ := hQ_6
  have Z_6 : n0 ≤ T_6.heap.size := (Nat.le_trans Z_5 Kc_6.1)
  have K_6 : Keep h0 T_6.heap [] := K_5.trans Kc_6 (allS (Or.inr sz_b_1) (allS (Or.inr sz_d__2) (allS (Or.inr sz_g__2) all0)))
  have N_6 := Fr.app N_5 N_6q
  obtain ⟨cq_7, kq_7, q_7a, q_7b, q_7c⟩ := isOf hZ rfl pfE_a_6
  obtain ⟨_, _, ⟨T_7, L_7, k_7, n_7⟩, -, X_7, ⟨Lc_7, hQ_7, l_7, y_7, z_7⟩, st_7⟩ := X_6.virtualBack hx (y := MN4) (z := MN4) hown (mvT hZ (ow hw 23 rfl)) (mvT hZ (ow hw 24 rfl)) (notFace_of_selects (args := #[]) (mvT hZ (ow hw 26 rfl))) (mvT hZ (ow hw 26 rfl)) (mvT hZ (ow hw 25 rfl)) (by decide) (backOf (W := 0) (rm_clear l Z a0 hw [] b_1 d__2 g__2 (1 : Int32) T_6.heap n0 Z_6 pfF_size_a_6 pfF_keys_a_6 pfF_nodes_a_6 pfE_a_6 g_b_1) hZ (ow hw 27 rfl) (ow hw 3 rfl) (by decide) (by decide)) q_7a q_7c (g := (mkF mM 139 (lc62 p1 p2 k1 k2 nd fl b_1) [(.ref b_1)])) rfl (by rw [hml]; rfl) (Steps.refl _) (argsL := []) (rest := []) (lenOf pd_3 rfl) rfl (by show 2 * 0 + _ ≤ _; exact Nat.le_of_eq rfl) (hb hby at_139) (fun _ _ => ⟨rfl, rfl, (by decide : 3 + 0 ≤ _), (by decide : 35 + 0 ≤ _)⟩)
  dsimp only [Pt.U, Pt.locs, Pt.cells, Pt.slots] at X_7 l_7 y_7 z_7 st_7 hQ_7
  subst l_7 y_7 z_7
  obtain ⟨rfl, N_7q, Kc_7, pfF_size_a_7, pfF_keys_a_7, pfF_nodes_a_7, pfE_a_7⟩ := hQ_7
  have Z_7 : n0 ≤ T_7.heap.size := (Nat.le_trans Z_6 Kc_7.1)
  have K_7 : Keep h0 T_7.heap [] := K_6.trans Kc_7 (allS (Or.inr sz_b_1) all0)
  have N_7 := Fr.app N_6 N_7q
  obtain ⟨T_8, h_8, L_8, X_8, e_8, N_8, Kc_8, st_8⟩ := pc_tail0 p1 p2 k1 k2 nd fl (2 : Int32) (1 : Int32) (1 : Int32) b_1 d__2 g__2 kd__2 kg__2 u0__6 u1__6 u2__6 u3__6 v0__6 v1__6 v2__6 v3__6 X_7 hx hZ hw hby hml hown rfl N_7 Z_7 pfF_size_a_7 pfF_keys_a_7 pfF_nodes_a_7 pfE_a_7 g_b_1 g_d__2 g_g__2 (pfV_d_6.keep Kc_7 (ninS (Ne.symm (Nat.ne_of_lt (Nat.lt_of_lt_of_le A_1.lt pfsz_d_2))) nin0)) (pfV_g_6.keep Kc_7 (ninS (Ne.symm (Nat.ne_of_lt (Nat.lt_of_lt_of_le A_1.lt pfsz_g_2))) nin0)) pfndg_2 (Nat.ne_of_lt (Nat.lt_of_lt_of_le A_1.lt pfsz_d_2)) (Nat.ne_of_lt (Nat.lt_of_lt_of_le A_1.lt pfsz_g_2))
  have Z_8 : n0 ≤ h_8.size := (Nat.le_trans Z_7 Kc_8.1)
  have K_8 : Keep h0 h_8 [] := K_7.trans Kc_8 (allS (Or.inr sz_b_1) (allS (Or.inr sz_d__2) (allS (Or.inr sz_g__2) all0)))
  obtain ⟨fs, hr, hrun, hended, hW, hsame⟩ := X_8.leave (v := some (.int (1 : Int32))) (fun h => by rw [Bd.returns] at h; cases h)
  refine ⟨_, _, pre0 _ ?_, hrun, hended, _, _, rfl, ?_, ⟨_, rfl⟩, hW, hsame.mono (by decide) (by decide)⟩
  · show oS pP eE below s₁ (mkF mM 0 (lc6 p1 p2 k1 k2 nd fl) []) _
    refine XS.iloadN X0.here hx rfl (hb hby at_0) rfl ?_
    refine XS.iconst X0.here hx rfl (hb hby at_1) ?_
    show oS pP eE below s₁ (mkF mM 2 (lc6 p1 p2 k1 k2 nd fl) [(.int (3 : Int32)), (.int p1)]) _
    refine XS.iand X0.here hx rfl (hb hby at_2) rfl ?_
    show oS pP eE below s₁ (mkF mM 3 (lc6 p1 p2 k1 k2 nd fl) [(.int (p1 &&& (3 : Int32)))]) _
    rw [hn]
    refine XS.istore X0.here hx rfl (hb hby at_3) rfl (l' := (lc42 p1 p2 k1 k2 nd fl)) rfl ?_
    refine XS.iloadN X0.here hx rfl (hb hby at_5) rfl ?_
    show oS pP eE below s₁ (mkF mM 6 (lc42 p1 p2 k1 k2 nd fl) [(.int p2)]) _
    refine X0.ldcI hx hown (mvT hZ (ow hw 0 rfl)) (g := (mkF mM 6 (lc42 p1 p2 k1 k2 nd fl) [(.int p2)])) rfl (hb hby at_6) ?_
    show oS pP eE below s₁ (mkF mM 8 (lc42 p1 p2 k1 k2 nd fl) [(.int (2147483647 : Int32)), (.int p2)]) _
    refine XS.iand X0.here hx rfl (hb hby at_8) rfl ?_
    refine XS.iload X0.here hx rfl (hb hby at_9) rfl ?_
    refine XS.iconst X0.here hx rfl (hb hby at_11) ?_
    show oS pP eE below s₁ (mkF mM 12 (lc42 p1 p2 k1 k2 nd fl) [(.int (1 : Int32)), (.int (2 : Int32)), (.int (p2 &&& (2147483647 : Int32)))]) _
    refine XS.iadd X0.here hx rfl (hb hby at_12) rfl ?_
    show oS pP eE below s₁ (mkF mM 13 (lc42 p1 p2 k1 k2 nd fl) [(.int ((2 : Int32) + (1 : Int32))), (.int (p2 &&& (2147483647 : Int32)))]) _
    rw [(by decide : ((2 : Int32) + (1 : Int32)) = (3 : Int32))]
    show oS pP eE below s₁ (mkF mM 13 (lc42 p1 p2 k1 k2 nd fl) [(.int (3 : Int32)), (.int (p2 &&& (2147483647 : Int32)))]) _
    refine iremM X0 hx rfl (hb hby at_13) rfl (by decide) ?_
    show oS pP eE below s₁ (mkF mM 14 (lc42 p1 p2 k1 k2 nd fl) [(.int ((p2 &&& (2147483647 : Int32)) % (3 : Int32)))]) _
    rw [ht]
    refine XS.istore X0.here hx rfl (hb hby at_14) rfl (l' := (lc54 p1 p2 k1 k2 nd fl)) rfl ?_
    refine XS.iload X0.here hx rfl (hb hby at_16) rfl ?_
    refine XS.iconst X0.here hx rfl (hb hby at_18) ?_
    show oS pP eE below s₁ (mkF mM 19 (lc54 p1 p2 k1 k2 nd fl) [(.int (1 : Int32)), (.int fl)]) _
    refine XS.iand X0.here hx rfl (hb hby at_19) rfl ?_
    refine XS.ifNo X0.here hx rfl (hb hby at_20) rfl (XT.i0_eq_f hc) ?_
    refine XS.iconst X0.here hx rfl (hb hby at_23) ?_
    refine XS.goto X0.here hx rfl (pc0 := 24) (pc' := 28) rfl (hb hby at_24) (by decide) (by decide) ?_
    refine XS.istore X0.here hx rfl (hb hby at_28) rfl (l' := (lc60 p1 p2 k1 k2 nd fl)) rfl ?_
    show oS pP eE below s₁ (mkF mM 30 (lc60 p1 p2 k1 k2 nd fl) []) _
    refine st_1 _ ?_
    show oS pP eE below T_1 (mkF mM 33 (lc60 p1 p2 k1 k2 nd fl) [(.ref b_1)]) _
    refine XS.dup X_1.here hx rfl (hb hby at_33) rfl rfl ?_
    show oS pP eE below T_1 (mkF mM 34 (lc60 p1 p2 k1 k2 nd fl) [(.ref b_1), (.ref b_1)]) _
    refine st_2.trans ?_
    show oS pP eE below T_2 (mkF mM 37 (lc60 p1 p2 k1 k2 nd fl) [(.ref b_1)]) _
    refine XS.astore X_2.here hx rfl (hb hby at_37) rfl rfl (l' := (lc61 p1 p2 k1 k2 nd fl b_1)) rfl ?_
    refine XS.aload X_2.here hx rfl (hb hby at_39) rfl rfl ?_
    show oS pP eE below T_2 (mkF mM 41 (lc61 p1 p2 k1 k2 nd fl b_1) [(.ref b_1)]) _
    refine st_3.trans ?_
    show oS pP eE below T_3 (mkF mM 44 (lc61 p1 p2 k1 k2 nd fl b_1) [(.int (1 : Int32))]) _
    refine XS.istore X_3.here hx rfl (hb hby at_44) rfl (l' := (lc62 p1 p2 k1 k2 nd fl b_1)) rfl ?_
    refine XS.iload X_3.here hx rfl (hb hby at_46) rfl ?_
    refine XS.iconst X_3.here hx rfl (hb hby at_48) ?_
    refine XS.icmpNo X_3.here hx rfl (hb hby at_49) rfl (by decide) ?_
    refine XS.aload X_3.here hx rfl (hb hby at_52) rfl rfl ?_
    refine XT.lloadN X_3.here hx rfl (hb hby at_54) rfl ?_
    refine XS.iload X_3.here hx rfl (hb hby at_55) rfl ?_
    show oS pP eE below T_3 (mkF mM 57 (lc62 p1 p2 k1 k2 nd fl b_1) [(.int nd), (.long k1), (.ref b_1)]) _
    refine st_4.trans ?_
    show oS pP eE below T_4 (mkF mM 60 (lc62 p1 p2 k1 k2 nd fl b_1) []) _
    refine XS.iload X_4.here hx rfl (hb hby at_60) rfl ?_
    refine XS.iconst X_4.here hx rfl (hb hby at_62) ?_
    refine XS.icmpNo X_4.here hx rfl (hb hby at_63) rfl (by decide) ?_
    refine XS.aload X_4.here hx rfl (hb hby at_66) rfl rfl ?_
    refine XT.lload X_4.here hx rfl (hb hby at_68) rfl ?_
    refine XS.iload X_4.here hx rfl (hb hby at_70) rfl ?_
    refine XS.iconst X_4.here hx rfl (hb hby at_72) ?_
    show oS pP eE below T_4 (mkF mM 73 (lc62 p1 p2 k1 k2 nd fl b_1) [(.int (1 : Int32)), (.int nd), (.long k2), (.ref b_1)]) _
    refine XS.iadd X_4.here hx rfl (hb hby at_73) rfl ?_
    show oS pP eE below T_4 (mkF mM 74 (lc62 p1 p2 k1 k2 nd fl b_1) [(.int (nd + (1 : Int32))), (.long k2), (.ref b_1)]) _
    refine st_5.trans ?_
    show oS pP eE below T_5 (mkF mM 77 (lc62 p1 p2 k1 k2 nd fl b_1) []) _
    refine XS.iload X_5.here hx rfl (hb hby at_77) rfl ?_
    refine XS.iconst X_5.here hx rfl (hb hby at_79) ?_
    refine XS.icmpYes X_5.here hx rfl (pc0 := 80) (pc' := 96) rfl (hb hby at_80) rfl (by decide) (by decide) (by decide) ?_
    refine XS.iload X_5.here hx rfl (hb hby at_96) rfl ?_
    refine XS.iconst X_5.here hx rfl (hb hby at_98) ?_
    refine XS.icmpNo X_5.here hx rfl (hb hby at_99) rfl (by decide) ?_
    refine XS.aload X_5.here hx rfl (hb hby at_102) rfl rfl ?_
    show oS pP eE below T_5 (mkF mM 104 (lc62 p1 p2 k1 k2 nd fl b_1) [(.ref b_1)]) _
    refine st_6.trans ?_
    show oS pP eE below T_6 (mkF mM 107 (lc62 p1 p2 k1 k2 nd fl b_1) [(.int v0__5)]) _
    refine XT.pop X_6.here hx rfl (hb hby at_107) rfl rfl ?_
    refine XS.iload X_6.here hx rfl (hb hby at_108) rfl ?_
    refine XS.iconst X_6.here hx rfl (hb hby at_110) ?_
    refine XS.icmpYes X_6.here hx rfl (pc0 := 111) (pc' := 120) rfl (hb hby at_111) rfl (by decide) (by decide) (by decide) ?_
    refine XS.iload X_6.here hx rfl (hb hby at_120) rfl ?_
    refine XS.iconst X_6.here hx rfl (hb hby at_122) ?_
    refine XS.icmpYes X_6.here hx rfl (pc0 := 123) (pc' := 132) rfl (hb hby at_123) rfl (by decide) (by decide) (by decide) ?_
    refine XS.iload X_6.here hx rfl (hb hby at_132) rfl ?_
    show oS pP eE below T_6 (mkF mM 134 (lc62 p1 p2 k1 k2 nd fl b_1) [(.int (1 : Int32))]) _
    refine XS.ifNo X_6.here hx rfl (hb hby at_134) rfl (by decide) ?_
    refine XS.aload X_6.here hx rfl (hb hby at_137) rfl rfl ?_
    show oS pP eE below T_6 (mkF mM 139 (lc62 p1 p2 k1 k2 nd fl b_1) [(.ref b_1)]) _
    refine st_7.trans ?_
    show oS pP eE below T_7 (mkF mM 142 (lc62 p1 p2 k1 k2 nd fl b_1) []) _
    refine XS.iload X_7.here hx rfl (hb hby at_142) rfl ?_
    refine XS.ifYes X_7.here hx rfl (pc0 := 144) (pc' := 155) rfl (hb hby at_144) rfl (by decide) (by decide) (by decide) ?_
    refine XS.iconst X_7.here hx rfl (hb hby at_155) ?_
    refine XS.goto X_7.here hx rfl (pc0 := 156) (pc' := 160) rfl (hb hby at_156) (by decide) (by decide) ?_
    refine XS.istore X_7.here hx rfl (hb hby at_160) rfl (l' := (lc63 p1 p2 k1 k2 nd fl b_1)) rfl ?_
    show oS pP eE below T_7 (mkF mM 162 (lc63 p1 p2 k1 k2 nd fl b_1) []) _
    refine st_8 _ ?_
    show oS pP eE below T_8 (mkF mM 207 (lc64 p1 p2 k1 k2 nd fl b_1) [(.int (1 : Int32))]) _
    exact retN X_8 hx (t := .boolean) Bd.returns (by simp) (hb hby at_207) hr
  · show Q_law211 Z p1 p2 k1 k2 nd fl h0 n0 _ T_8.heap _
    exact ⟨rfl, N_8⟩
abbrev lc65 (p1 : Int32) (p2 : Int32) (k1 : Int64) (k2 : Int64) (nd : Int32) (fl : Int32) : Array Slot := #[.val (.int p1), .val (.int p2), .val (.long k1), .second, .val (.long k2), .second, .val (.int nd), .val (.int fl), .val (.int (2 : Int32)), .val (.int (2 : Int32)), .unset, .unset, .unset, .unset, .unset, .unset]
abbrev lc66 (p1 : Int32) (p2 : Int32) (k1 : Int64) (k2 : Int64) (nd : Int32) (fl : Int32) : Array Slot := #[.val (.int p1), .val (.int p2), .val (.long k1), .second, .val (.long k2), .second, .val (.int nd), .val (.int fl), .val (.int (2 : Int32)), .val (.int (2 : Int32)), .val (.int (0 : Int32)), .unset, .unset, .unset, .unset, .unset]
abbrev lc67 (p1 : Int32) (p2 : Int32) (k1 : Int64) (k2 : Int64) (nd : Int32) (fl : Int32) (b_1 : Addr) : Array Slot := #[.val (.int p1), .val (.int p2), .val (.long k1), .second, .val (.long k2), .second, .val (.int nd), .val (.int fl), .val (.int (2 : Int32)), .val (.int (2 : Int32)), .val (.int (0 : Int32)), .val (.ref b_1), .unset, .unset, .unset, .unset]
abbrev lc68 (p1 : Int32) (p2 : Int32) (k1 : Int64) (k2 : Int64) (nd : Int32) (fl : Int32) (b_1 : Addr) : Array Slot := #[.val (.int p1), .val (.int p2), .val (.long k1), .second, .val (.long k2), .second, .val (.int nd), .val (.int fl), .val (.int (2 : Int32)), .val (.int (2 : Int32)), .val (.int (0 : Int32)), .val (.ref b_1), .val (.int (1 : Int32)), .unset, .unset, .unset]
abbrev lc69 (p1 : Int32) (p2 : Int32) (k1 : Int64) (k2 : Int64) (nd : Int32) (fl : Int32) (b_1 : Addr) : Array Slot := #[.val (.int p1), .val (.int p2), .val (.long k1), .second, .val (.long k2), .second, .val (.int nd), .val (.int fl), .val (.int (2 : Int32)), .val (.int (2 : Int32)), .val (.int (0 : Int32)), .val (.ref b_1), .val (.int (1 : Int32)), .val (.int (1 : Int32)), .unset, .unset]
abbrev lc70 (p1 : Int32) (p2 : Int32) (k1 : Int64) (k2 : Int64) (nd : Int32) (fl : Int32) (b_1 : Addr) : Array Slot := #[.val (.int p1), .val (.int p2), .val (.long k1), .second, .val (.long k2), .second, .val (.int nd), .val (.int fl), .val (.int (2 : Int32)), .val (.int (2 : Int32)), .val (.int (0 : Int32)), .val (.ref b_1), .val (.int (1 : Int32)), .val (.int (1 : Int32)), .val (.int (1 : Int32)), .val (.int (0 : Int32))]
theorem ef_law220 (mM : MethodId) (x0 : Int32) (x1 : Int32) (x2 : Int64) (x3 : Int64) (x4 : Int32) (x5 : Int32) : entryFrame mM #[(.int x0), (.int x1), (.long x2), (.long x3), (.int x4), (.int x5)] maxLocals = mkF mM 0 #[.val (.int x0), .val (.int x1), .val (.long x2), .second, .val (.long x3), .second, .val (.int x4), .val (.int x5), .unset, .unset, .unset, .unset, .unset, .unset, .unset, .unset] [] := by first | (simp [entryFrame, mkF, argsToLocals, Value.category, maxLocals]; done) | rfl
def Q_law220 (Z : State) (p1 : Int32) (p2 : Int32) (k1 : Int64) (k2 : Int64) (nd : Int32) (fl : Int32) (h0 : Heap) (n0 : Nat) (v_ : Option Value) (h_ : Heap) (L_ : List Loc) : Prop := v_ = some (.int (1 : Int32)) ∧ Fr n0 L_
set_option maxRecDepth 65536 in
set_option maxHeartbeats 40000000 in
theorem rm_law220 (l : Launch) (Z : State) (a0 : Array Value) (hw : ∀ d ∈ tables_1, d.before a0 Z = true) (ws : List Jvm.Cond) (p1 : Int32) (p2 : Int32) (k1 : Int64) (k2 : Int64) (nd : Int32) (fl : Int32) (h0 : Heap) (n0 : Nat) (Z0 : n0 ≤ h0.size) (hn : (p1 &&& (3 : Int32)) = (2 : Int32)) (ht : ((p2 &&& (2147483647 : Int32)) % (3 : Int32)) = (2 : Int32)) (hc : (fl &&& (1 : Int32)) = 0) :
    MetFree l x (head1 (Jvm.Cond.code x code maxLocals ret :: ws) room_1) (fun aa_ U_ => aa_ = #[(.int p1), (.int p2), (.long k1), (.long k2), (.int nd), (.int fl)] ∧ Z.Warmed39 U_.vm ∧ U_.heap = h0) (fun _ _ _ _ _ => True) (fun _ U_ o_ U'_ => ∃ v_ L_, o_ = .returned v_ ∧ Q_law220 Z p1 p2 k1 k2 nd fl h0 n0 v_ U'_.heap L_ ∧ FrameEnd U_ o_ U'_ L_ 3 35) := by
  refine MetFree.of_bodySF (plainFor_of_name pn_1) hisR ?_
  intro pP eE sS mM argsA below meth cC s₁ Bd hml0 hP hK
  obtain ⟨rfl, hZ, hh⟩ := hP
  have hx := Bd.exec
  have hby := Bd.bytes
  have hml : cC.maxLocals = 16 := hml0
  have hown : sS.vm.findClass "com/example/greenweft/greenweft/steiner/NodeHeapIsEmptyPinLaw" = some mM.cls := findClass_of_methodNamed Bd.named
  have hnm := (name_of_methodNamed Bd.named Bd.method).1
  have X0 : Stand pP l eE room_1 sS mM #[(.int p1), (.int p2), (.long k1), (.long k2), (.int nd), (.int fl)] below meth cC s₁ [] 0 0 := Stand.of_body Bd
  have e0 : s₁.heap = h0 := by rw [← hh, Bd.state]; rfl
  have N0 := Fr.nil n0
  have pre0 : ∀ t_, Steps pP.tables eE below (s₁.setTop (mkF mM 0 #[.val (.int p1), .val (.int p2), .val (.long k1), .second, .val (.long k2), .second, .val (.int nd), .val (.int fl), .unset, .unset, .unset, .unset, .unset, .unset, .unset, .unset] [])) t_ → Steps pP.tables eE below (s₁.setTop (entryFrame mM #[(.int p1), (.int p2), (.long k1), (.long k2), (.int nd), (.int fl)] maxLocals)) t_ := fun t_ k_ => castTop (ef_law220 mM p1 p2 k1 k2 nd fl) k_
  obtain ⟨T_1, h_1, X_1, e_1, E_1, A_1, D_1, -, st_1⟩ := newO X0 hx hZ hown (ow hw 1 rfl) (ow hw 2 rfl) (ow hw 3 rfl) e0 (g := (mkF mM 30 (lc66 p1 p2 k1 k2 nd fl) [])) rfl (hb hby at_30) (by decide) (by decide)
  obtain ⟨b_1, g_1⟩ : ∃ z, z = h0.size := ⟨_, rfl⟩
  rw [← g_1] at A_1 D_1 st_1
  have g_b_1 : n0 ≤ b_1 := Nat.le_trans Z0 (Nat.le_of_eq g_1.symm)
  have sz_b_1 : h0.size ≤ b_1 := Nat.le_trans (Keep.refl h0 []).1 (Nat.le_of_eq g_1.symm)
  have Z_1 : n0 ≤ h_1.size := (Nat.le_trans Z0 E_1.1)
  have K_1 : Keep h0 h_1 [] := (Keep.refl h0 []).ext E_1
  have F_keys_b_1__1 : Fld Z h_1 b_1 "com/example/greenweft/greenweft/steiner/NodeHeap" "keys" "[J" .null := D_1 (Or.inl (ow hw 12 rfl)) (ty := (.array .long)) (by decide)
  have F_nodes_b_1__1 : Fld Z h_1 b_1 "com/example/greenweft/greenweft/steiner/NodeHeap" "nodes" "[I" .null := D_1 (Or.inl (ow hw 15 rfl)) (ty := (.array .int)) (by decide)
  have F_size_b_1__1 : Fld Z h_1 b_1 "com/example/greenweft/greenweft/steiner/NodeHeap" "size" "I" (.int (0 : Int32)) := D_1 (Or.inl (ow hw 22 rfl)) (ty := .int) (by decide)
  obtain ⟨_, _, ⟨T_2, L_2, k_2, n_2⟩, -, X_2, ⟨Lc_2, hQ_2, l_2, y_2, z_2⟩, st_2⟩ := X_1.specialBack hx (y := MN3) rfl hown (mvT hZ (ow hw 4 rfl)) (mvT hZ (ow hw 5 rfl)) (mvT hZ (ow hw 6 rfl)) (by decide) (backOf (W := 1) (rm_init l Z a0 hw [] b_1 h_1 n0 Z_1 F_keys_b_1__1 F_nodes_b_1__1 F_size_b_1__1 A_1 g_b_1) hZ (ow hw 6 rfl) (ow hw 3 rfl) (by decide) (by decide)) (g := (mkF mM 34 (lc66 p1 p2 k1 k2 nd fl) [(.ref b_1), (.ref b_1)])) rfl (by rw [hml]; rfl) (Steps.refl _) (a := b_1) (argsL := []) (rest := [(.ref b_1)]) (lenOf pd_3 rfl) rfl (by show 2 * 0 + _ ≤ _; exact Nat.le_of_eq rfl) (hb hby at_34) (fun _ _ => ⟨rfl, e_1, (by decide : 1 + 2 ≤ _), (by decide : 3 + 32 ≤ _)⟩)
  dsimp only [Pt.U, Pt.locs, Pt.cells, Pt.slots] at X_2 l_2 y_2 z_2 st_2 hQ_2
  subst l_2 y_2 z_2
  obtain ⟨d__2, ⟨g__2, ⟨kd__2, ⟨kg__2, ⟨rfl, N_2q, Kc_2, pfsz_d_2, pfsz_g_2, pfndg_2, pfE_a_2, pfF_keys_a_2, pfF_nodes_a_2, pfF_size_a_2, pfV_d_2, pfV_g_2⟩⟩⟩⟩⟩ := hQ_2
  have Z_2 : n0 ≤ T_2.heap.size := (Nat.le_trans Z_1 Kc_2.1)
  have K_2 : Keep h0 T_2.heap [] := K_1.trans Kc_2 (allS (Or.inr sz_b_1) all0)
  have sz_d__2 : h0.size ≤ d__2 := Nat.le_trans K_1.1 pfsz_d_2
  have g_d__2 : n0 ≤ d__2 := Nat.le_trans Z_1 pfsz_d_2
  have sz_g__2 : h0.size ≤ g__2 := Nat.le_trans K_1.1 pfsz_g_2
  have g_g__2 : n0 ≤ g__2 := Nat.le_trans Z_1 pfsz_g_2
  have N_2 := Fr.app N0 N_2q
  obtain ⟨cq_3, kq_3, q_3a, q_3b, q_3c⟩ := isOf hZ rfl pfE_a_2
  obtain ⟨_, _, ⟨T_3, L_3, k_3, n_3⟩, -, X_3, ⟨Lc_3, hQ_3, l_3, y_3, z_3⟩, st_3⟩ := X_2.virtualBack hx (y := MN1) (z := MN1) hown (mvT hZ (ow hw 16 rfl)) (mvT hZ (ow hw 17 rfl)) (notFace_of_selects (args := #[]) (mvT hZ (ow hw 19 rfl))) (mvT hZ (ow hw 19 rfl)) (mvT hZ (ow hw 18 rfl)) (by decide) (backOf (W := 0) (rm_ie0 l Z a0 hw [] b_1 T_2.heap n0 Z_2 pfF_size_a_2) hZ (ow hw 20 rfl) (ow hw 3 rfl) (by decide) (by decide)) q_3a q_3c (g := (mkF mM 41 (lc67 p1 p2 k1 k2 nd fl b_1) [(.ref b_1)])) rfl (by rw [hml]; rfl) (Steps.refl _) (argsL := []) (rest := []) (lenOf pd_1 rfl) rfl (by show 2 * 0 + _ ≤ _; exact Nat.le_of_eq rfl) (hb hby at_41) (fun _ _ => ⟨rfl, rfl, (by decide : 3 + 0 ≤ _), (by decide : 35 + 0 ≤ _)⟩)
  dsimp only [Pt.U, Pt.locs, Pt.cells, Pt.slots] at X_3 l_3 y_3 z_3 st_3 hQ_3
  subst l_3 y_3 z_3
  obtain ⟨rfl, N_3q, eh_3⟩ := hQ_3
  have N_3 := Fr.app N_2 N_3q
  obtain ⟨cq_4, kq_4, q_4a, q_4b, q_4c⟩ := isOf hZ eh_3 pfE_a_2
  obtain ⟨_, _, ⟨T_4, L_4, k_4, n_4⟩, -, X_4, ⟨Lc_4, hQ_4, l_4, y_4, z_4⟩, st_4⟩ := X_3.virtualBack hx (y := MN2) (z := MN2) hown (mvT hZ (ow hw 28 rfl)) (mvT hZ (ow hw 29 rfl)) (notFace_of_selects (args := #[]) (mvT hZ (ow hw 31 rfl))) (mvT hZ (ow hw 31 rfl)) (mvT hZ (ow hw 30 rfl)) (by decide) (backOf (W := 0) (rm_add0 l Z a0 hw [] b_1 d__2 g__2 kd__2 kg__2 k1 nd (0 : Int64) (0 : Int64) (0 : Int64) (0 : Int64) (0 : Int32) (0 : Int32) (0 : Int32) (0 : Int32) T_2.heap n0 Z_2 pfF_size_a_2 pfF_keys_a_2 pfF_nodes_a_2 pfE_a_2 g_b_1 g_d__2 g_g__2 pfV_d_2 pfV_g_2 pfndg_2 (Nat.ne_of_lt (Nat.lt_of_lt_of_le A_1.lt pfsz_d_2)) (Nat.ne_of_lt (Nat.lt_of_lt_of_le A_1.lt pfsz_g_2))) hZ (ow hw 32 rfl) (ow hw 3 rfl) (by decide) (by decide)) q_4a q_4c (g := (mkF mM 57 (lc68 p1 p2 k1 k2 nd fl b_1) [(.int nd), (.long k1), (.ref b_1)])) rfl (by rw [hml]; rfl) (Steps.refl _) (argsL := [(.long k1), (.int nd)]) (rest := []) (lenOf pd_2 rfl) rfl (by show 2 * 0 + _ ≤ _; exact Nat.le_of_eq rfl) (hb hby at_57) (fun _ _ => ⟨rfl, eh_3, (by decide : 3 + 0 ≤ _), (by decide : 35 + 0 ≤ _)⟩)
  dsimp only [Pt.U, Pt.locs, Pt.cells, Pt.slots] at X_4 l_4 y_4 z_4 st_4 hQ_4
  subst l_4 y_4 z_4
  obtain ⟨u0__4, ⟨u1__4, ⟨u2__4, ⟨u3__4, ⟨v0__4, ⟨v1__4, ⟨v2__4, ⟨v3__4, ⟨rfl, N_4q, Kc_4, pfF_size_a_4, pfF_keys_a_4, pfF_nodes_a_4, pfE_a_4, pfV_d_4, pfV_g_4⟩⟩⟩⟩⟩⟩⟩⟩⟩ := hQ_4
  have Z_4 : n0 ≤ T_4.heap.size := (Nat.le_trans Z_2 Kc_4.1)
  have K_4 : Keep h0 T_4.heap [] := K_2.trans Kc_4 (allS (Or.inr sz_b_1) (allS (Or.inr sz_d__2) (allS (Or.inr sz_g__2) all0)))
  have N_4 := Fr.app N_3 N_4q
  obtain ⟨cq_5, kq_5, q_5a, q_5b, q_5c⟩ := isOf hZ rfl pfE_a_4
  obtain ⟨_, _, ⟨T_5, L_5, k_5, n_5⟩, -, X_5, ⟨Lc_5, hQ_5, l_5, y_5, z_5⟩, st_5⟩ := X_4.virtualBack hx (y := MN2) (z := MN2) hown (mvT hZ (ow hw 28 rfl)) (mvT hZ (ow hw 29 rfl)) (notFace_of_selects (args := #[]) (mvT hZ (ow hw 31 rfl))) (mvT hZ (ow hw 31 rfl)) (mvT hZ (ow hw 30 rfl)) (by decide) (backOf (W := 0) (rm_add1 l Z a0 hw [] b_1 d__2 g__2 kd__2 kg__2 k2 (nd + (1 : Int32)) u0__4 u1__4 u2__4 u3__4 v0__4 v1__4 v2__4 v3__4 T_4.heap n0 Z_4 pfF_size_a_4 pfF_keys_a_4 pfF_nodes_a_4 pfE_a_4 g_b_1 g_d__2 g_g__2 pfV_d_4 pfV_g_4 pfndg_2 (Nat.ne_of_lt (Nat.lt_of_lt_of_le A_1.lt pfsz_d_2)) (Nat.ne_of_lt (Nat.lt_of_lt_of_le A_1.lt pfsz_g_2))) hZ (ow hw 32 rfl) (ow hw 3 rfl) (by decide) (by decide)) q_5a q_5c (g := (mkF mM 74 (lc68 p1 p2 k1 k2 nd fl b_1) [(.int (nd + (1 : Int32))), (.long k2), (.ref b_1)])) rfl (by rw [hml]; rfl) (Steps.refl _) (argsL := [(.long k2), (.int (nd + (1 : Int32)))]) (rest := []) (lenOf pd_2 rfl) rfl (by show 2 * 0 + _ ≤ _; exact Nat.le_of_eq rfl) (hb hby at_74) (fun _ _ => ⟨rfl, rfl, (by decide : 3 + 0 ≤ _), (by decide : 35 + 0 ≤ _)⟩)
  dsimp only [Pt.U, Pt.locs, Pt.cells, Pt.slots] at X_5 l_5 y_5 z_5 st_5 hQ_5
  subst l_5 y_5 z_5
  obtain ⟨u0__5, ⟨u1__5, ⟨u2__5, ⟨u3__5, ⟨v0__5, ⟨v1__5, ⟨v2__5, ⟨v3__5, ⟨rfl, N_5q, Kc_5, pfF_size_a_5, pfF_keys_a_5, pfF_nodes_a_5, pfE_a_5, pfV_d_5, pfV_g_5⟩⟩⟩⟩⟩⟩⟩⟩⟩ := hQ_5
  have Z_5 : n0 ≤ T_5.heap.size := (Nat.le_trans Z_4 Kc_5.1)
  have K_5 : Keep h0 T_5.heap [] := K_4.trans Kc_5 (allS (Or.inr sz_b_1) (allS (Or.inr sz_d__2) (allS (Or.inr sz_g__2) all0)))
  have N_5 := Fr.app N_4 N_5q
  obtain ⟨cq_6, kq_6, q_6a, q_6b, q_6c⟩ := isOf hZ rfl pfE_a_5
  obtain ⟨_, _, ⟨T_6, L_6, k_6, n_6⟩, -, X_6, ⟨Lc_6, hQ_6, l_6, y_6, z_6⟩, st_6⟩ := X_5.virtualBack hx (y := MN5) (z := MN5) hown (mvT hZ (ow hw 36 rfl)) (mvT hZ (ow hw 37 rfl)) (notFace_of_selects (args := #[]) (mvT hZ (ow hw 39 rfl))) (mvT hZ (ow hw 39 rfl)) (mvT hZ (ow hw 38 rfl)) (by decide) (backOf (W := 0) (rm_take2 l Z a0 hw [] b_1 d__2 g__2 kd__2 kg__2 u0__5 u1__5 u2__5 u3__5 v0__5 v1__5 v2__5 v3__5 T_5.heap n0 Z_5 pfF_size_a_5 pfF_keys_a_5 pfF_nodes_a_5 pfE_a_5 g_b_1 g_d__2 g_g__2 pfV_d_5 pfV_g_5 pfndg_2 (Nat.ne_of_lt (Nat.lt_of_lt_of_le A_1.lt pfsz_d_2)) (Nat.ne_of_lt (Nat.lt_of_lt_of_le A_1.lt pfsz_g_2))) hZ (ow hw 40 rfl) (ow hw 3 rfl) (by decide) (by decide)) q_6a q_6c (g := (mkF mM 104 (lc68 p1 p2 k1 k2 nd fl b_1) [(.ref b_1)])) rfl (by rw [hml]; rfl) (Steps.refl _) (argsL := []) (rest := []) (lenOf pd_4 rfl) rfl (by show 2 * 0 + _ ≤ _; exact Nat.le_of_eq rfl) (hb hby at_104) (fun _ _ => ⟨rfl, rfl, (by decide : 3 + 0 ≤ _), (by decide : 35 + 0 ≤ _)⟩)
  dsimp only [Pt.U, Pt.locs, Pt.cells, Pt.slots] at X_6 l_6 y_6 z_6 st_6 hQ_6
  subst l_6 y_6 z_6
  obtain ⟨u0__6, ⟨u1__6, ⟨u2__6, ⟨u3__6, ⟨v0__6, ⟨v1__6, ⟨v2__6, ⟨v3__6, ⟨rfl, N_6q, Kc_6, pfF_size_a_6, pfF_keys_a_6, pfF_nodes_a_6, pfE_a_6, pfV_d_6, pfV_g_6⟩⟩⟩⟩⟩⟩⟩⟩⟩ := hQ_6
  have Z_6 : n0 ≤ T_6.heap.size := (Nat.le_trans Z_5 Kc_6.1)
  have K_6 : Keep h0 T_6.heap [] := K_5.trans Kc_6 (allS (Or.inr sz_b_1) (allS (Or.inr sz_d__2) (allS (Or.inr sz_g__2) all0)))
  have N_6 := Fr.app N_5 N_6q
  obtain ⟨cq_7, kq_7, q_7a, q_7b, q_7c⟩ := isOf hZ rfl pfE_a_6
  obtain ⟨_, _, ⟨T_7, L_7, k_7, n_7⟩, -, X_7, ⟨Lc_7, hQ_7, l_7, y_7, z_7⟩, st_7⟩ := X_6.virtualBack hx (y := MN5) (z := MN5) hown (mvT hZ (ow hw 36 rfl)) (mvT hZ (ow hw 37 rfl)) (notFace_of_selects (args := #[]) (mvT hZ (ow hw 39 rfl))) (mvT hZ (ow hw 39 rfl)) (mvT hZ (ow hw 38 rfl)) (by decide) (backOf (W := 0) (rm_take1 l Z a0 hw [] b_1 d__2 g__2 kd__2 kg__2 u0__6 u1__6 u2__6 u3__6 v0__6 v1__6 v2__6 v3__6 T_6.heap n0 Z_6 pfF_size_a_6 pfF_keys_a_6 pfF_nodes_a_6 pfE_a_6 g_b_1 g_d__2 g_g__2 pfV_d_6 pfV_g_6 pfndg_2 (Nat.ne_of_lt (Nat.lt_of_lt_of_le A_1.lt pfsz_d_2)) (Nat.ne_of_lt (Nat.lt_of_lt_of_le A_1.lt pfsz_g_2))) hZ (ow hw 40 rfl) (ow hw 3 rfl) (by decide) (by decide)) q_7a q_7c (g := (mkF mM 116 (lc68 p1 p2 k1 k2 nd fl b_1) [(.ref b_1)])) rfl (by rw [hml]; rfl) (Steps.refl _) (argsL := []) (rest := []) (lenOf pd_4 rfl) rfl (by show 2 * 0 + _ ≤ _; exact Nat.le_of_eq rfl) (hb hby at_116) (fun _ _ => ⟨rfl, rfl, (by decide : 3 + 0 ≤ _), (by decide : 35 + 0 ≤ _)⟩)
  dsimp only [Pt.U, Pt.locs, Pt.cells, Pt.slots] at X_7 l_7 y_7 z_7 st_7 hQ_7
  subst l_7 y_7 z_7
  obtain ⟨u0__7, ⟨u1__7, ⟨u2__7, ⟨u3__7, ⟨v0__7, ⟨v1__7, ⟨v2__7, ⟨v3__7, ⟨rfl, N_7q, Kc_7, pfF_size_a_7, pfF_keys_a_7, pfF_nodes_a_7, pfE_a_7, pfV_d_7, pfV_g_7⟩⟩⟩⟩⟩⟩⟩⟩⟩ := hQ_7
  have Z_7 : n0 ≤ T_7.heap.size := (Nat.le_trans Z_6 Kc_7.1)
  have K_7 : Keep h0 T_7.heap [] := K_6.trans Kc_7 (allS (Or.inr sz_b_1) (allS (Or.inr sz_d__2) (allS (Or.inr sz_g__2) all0)))
  have N_7 := Fr.app N_6 N_7q
  obtain ⟨T_8, h_8, L_8, X_8, e_8, N_8, Kc_8, st_8⟩ := pc_tail0 p1 p2 k1 k2 nd fl (2 : Int32) (2 : Int32) (0 : Int32) b_1 d__2 g__2 kd__2 kg__2 u0__7 u1__7 u2__7 u3__7 v0__7 v1__7 v2__7 v3__7 X_7 hx hZ hw hby hml hown rfl N_7 Z_7 pfF_size_a_7 pfF_keys_a_7 pfF_nodes_a_7 pfE_a_7 g_b_1 g_d__2 g_g__2 pfV_d_7 pfV_g_7 pfndg_2 (Nat.ne_of_lt (Nat.lt_of_lt_of_le A_1.lt pfsz_d_2)) (Nat.ne_of_lt (Nat.lt_of_lt_of_le A_1.lt pfsz_g_2))
  have Z_8 : n0 ≤ h_8.size := (Nat.le_trans Z_7 Kc_8.1)
  have K_8 : Keep h0 h_8 [] := K_7.trans Kc_8 (allS (Or.inr sz_b_1) (allS (Or.inr sz_d__2) (allS (Or.inr sz_g__2) all0)))
  obtain ⟨fs, hr, hrun, hended, hW, hsame⟩ := X_8.leave (v := some (.int (1 : Int32))) (fun h => by rw [Bd.returns] at h; cases h)
  refine ⟨_, _, pre0 _ ?_, hrun, hended, _, _, rfl, ?_, ⟨_, rfl⟩, hW, hsame.mono (by decide) (by decide)⟩
  · show oS pP eE below s₁ (mkF mM 0 (lc6 p1 p2 k1 k2 nd fl) []) _
    refine XS.iloadN X0.here hx rfl (hb hby at_0) rfl ?_
    refine XS.iconst X0.here hx rfl (hb hby at_1) ?_
    show oS pP eE below s₁ (mkF mM 2 (lc6 p1 p2 k1 k2 nd fl) [(.int (3 : Int32)), (.int p1)]) _
    refine XS.iand X0.here hx rfl (hb hby at_2) rfl ?_
    show oS pP eE below s₁ (mkF mM 3 (lc6 p1 p2 k1 k2 nd fl) [(.int (p1 &&& (3 : Int32)))]) _
    rw [hn]
    refine XS.istore X0.here hx rfl (hb hby at_3) rfl (l' := (lc42 p1 p2 k1 k2 nd fl)) rfl ?_
    refine XS.iloadN X0.here hx rfl (hb hby at_5) rfl ?_
    show oS pP eE below s₁ (mkF mM 6 (lc42 p1 p2 k1 k2 nd fl) [(.int p2)]) _
    refine X0.ldcI hx hown (mvT hZ (ow hw 0 rfl)) (g := (mkF mM 6 (lc42 p1 p2 k1 k2 nd fl) [(.int p2)])) rfl (hb hby at_6) ?_
    show oS pP eE below s₁ (mkF mM 8 (lc42 p1 p2 k1 k2 nd fl) [(.int (2147483647 : Int32)), (.int p2)]) _
    refine XS.iand X0.here hx rfl (hb hby at_8) rfl ?_
    refine XS.iload X0.here hx rfl (hb hby at_9) rfl ?_
    refine XS.iconst X0.here hx rfl (hb hby at_11) ?_
    show oS pP eE below s₁ (mkF mM 12 (lc42 p1 p2 k1 k2 nd fl) [(.int (1 : Int32)), (.int (2 : Int32)), (.int (p2 &&& (2147483647 : Int32)))]) _
    refine XS.iadd X0.here hx rfl (hb hby at_12) rfl ?_
    show oS pP eE below s₁ (mkF mM 13 (lc42 p1 p2 k1 k2 nd fl) [(.int ((2 : Int32) + (1 : Int32))), (.int (p2 &&& (2147483647 : Int32)))]) _
    rw [(by decide : ((2 : Int32) + (1 : Int32)) = (3 : Int32))]
    show oS pP eE below s₁ (mkF mM 13 (lc42 p1 p2 k1 k2 nd fl) [(.int (3 : Int32)), (.int (p2 &&& (2147483647 : Int32)))]) _
    refine iremM X0 hx rfl (hb hby at_13) rfl (by decide) ?_
    show oS pP eE below s₁ (mkF mM 14 (lc42 p1 p2 k1 k2 nd fl) [(.int ((p2 &&& (2147483647 : Int32)) % (3 : Int32)))]) _
    rw [ht]
    refine XS.istore X0.here hx rfl (hb hby at_14) rfl (l' := (lc65 p1 p2 k1 k2 nd fl)) rfl ?_
    refine XS.iload X0.here hx rfl (hb hby at_16) rfl ?_
    refine XS.iconst X0.here hx rfl (hb hby at_18) ?_
    show oS pP eE below s₁ (mkF mM 19 (lc65 p1 p2 k1 k2 nd fl) [(.int (1 : Int32)), (.int fl)]) _
    refine XS.iand X0.here hx rfl (hb hby at_19) rfl ?_
    refine XS.ifYes X0.here hx rfl (pc0 := 20) (pc' := 27) rfl (hb hby at_20) rfl (XT.i0_eq_t hc) (by decide) (by decide) ?_
    refine XS.iconst X0.here hx rfl (hb hby at_27) ?_
    refine XS.istore X0.here hx rfl (hb hby at_28) rfl (l' := (lc66 p1 p2 k1 k2 nd fl)) rfl ?_
    show oS pP eE below s₁ (mkF mM 30 (lc66 p1 p2 k1 k2 nd fl) []) _
    refine st_1 _ ?_
    show oS pP eE below T_1 (mkF mM 33 (lc66 p1 p2 k1 k2 nd fl) [(.ref b_1)]) _
    refine XS.dup X_1.here hx rfl (hb hby at_33) rfl rfl ?_
    show oS pP eE below T_1 (mkF mM 34 (lc66 p1 p2 k1 k2 nd fl) [(.ref b_1), (.ref b_1)]) _
    refine st_2.trans ?_
    show oS pP eE below T_2 (mkF mM 37 (lc66 p1 p2 k1 k2 nd fl) [(.ref b_1)]) _
    refine XS.astore X_2.here hx rfl (hb hby at_37) rfl rfl (l' := (lc67 p1 p2 k1 k2 nd fl b_1)) rfl ?_
    refine XS.aload X_2.here hx rfl (hb hby at_39) rfl rfl ?_
    show oS pP eE below T_2 (mkF mM 41 (lc67 p1 p2 k1 k2 nd fl b_1) [(.ref b_1)]) _
    refine st_3.trans ?_
    show oS pP eE below T_3 (mkF mM 44 (lc67 p1 p2 k1 k2 nd fl b_1) [(.int (1 : Int32))]) _
    refine XS.istore X_3.here hx rfl (hb hby at_44) rfl (l' := (lc68 p1 p2 k1 k2 nd fl b_1)) rfl ?_
    refine XS.iload X_3.here hx rfl (hb hby at_46) rfl ?_
    refine XS.iconst X_3.here hx rfl (hb hby at_48) ?_
    refine XS.icmpNo X_3.here hx rfl (hb hby at_49) rfl (by decide) ?_
    refine XS.aload X_3.here hx rfl (hb hby at_52) rfl rfl ?_
    refine XT.lloadN X_3.here hx rfl (hb hby at_54) rfl ?_
    refine XS.iload X_3.here hx rfl (hb hby at_55) rfl ?_
    show oS pP eE below T_3 (mkF mM 57 (lc68 p1 p2 k1 k2 nd fl b_1) [(.int nd), (.long k1), (.ref b_1)]) _
    refine st_4.trans ?_
    show oS pP eE below T_4 (mkF mM 60 (lc68 p1 p2 k1 k2 nd fl b_1) []) _
    refine XS.iload X_4.here hx rfl (hb hby at_60) rfl ?_
    refine XS.iconst X_4.here hx rfl (hb hby at_62) ?_
    refine XS.icmpNo X_4.here hx rfl (hb hby at_63) rfl (by decide) ?_
    refine XS.aload X_4.here hx rfl (hb hby at_66) rfl rfl ?_
    refine XT.lload X_4.here hx rfl (hb hby at_68) rfl ?_
    refine XS.iload X_4.here hx rfl (hb hby at_70) rfl ?_
    refine XS.iconst X_4.here hx rfl (hb hby at_72) ?_
    show oS pP eE below T_4 (mkF mM 73 (lc68 p1 p2 k1 k2 nd fl b_1) [(.int (1 : Int32)), (.int nd), (.long k2), (.ref b_1)]) _
    refine XS.iadd X_4.here hx rfl (hb hby at_73) rfl ?_
    show oS pP eE below T_4 (mkF mM 74 (lc68 p1 p2 k1 k2 nd fl b_1) [(.int (nd + (1 : Int32))), (.long k2), (.ref b_1)]) _
    refine st_5.trans ?_
    show oS pP eE below T_5 (mkF mM 77 (lc68 p1 p2 k1 k2 nd fl b_1) []) _
    refine XS.iload X_5.here hx rfl (hb hby at_77) rfl ?_
    refine XS.iconst X_5.here hx rfl (hb hby at_79) ?_
    refine XS.icmpYes X_5.here hx rfl (pc0 := 80) (pc' := 96) rfl (hb hby at_80) rfl (by decide) (by decide) (by decide) ?_
    refine XS.iload X_5.here hx rfl (hb hby at_96) rfl ?_
    refine XS.iconst X_5.here hx rfl (hb hby at_98) ?_
    refine XS.icmpNo X_5.here hx rfl (hb hby at_99) rfl (by decide) ?_
    refine XS.aload X_5.here hx rfl (hb hby at_102) rfl rfl ?_
    show oS pP eE below T_5 (mkF mM 104 (lc68 p1 p2 k1 k2 nd fl b_1) [(.ref b_1)]) _
    refine st_6.trans ?_
    show oS pP eE below T_6 (mkF mM 107 (lc68 p1 p2 k1 k2 nd fl b_1) [(.int v0__5)]) _
    refine XT.pop X_6.here hx rfl (hb hby at_107) rfl rfl ?_
    refine XS.iload X_6.here hx rfl (hb hby at_108) rfl ?_
    refine XS.iconst X_6.here hx rfl (hb hby at_110) ?_
    refine XS.icmpNo X_6.here hx rfl (hb hby at_111) rfl (by decide) ?_
    refine XS.aload X_6.here hx rfl (hb hby at_114) rfl rfl ?_
    show oS pP eE below T_6 (mkF mM 116 (lc68 p1 p2 k1 k2 nd fl b_1) [(.ref b_1)]) _
    refine st_7.trans ?_
    show oS pP eE below T_7 (mkF mM 119 (lc68 p1 p2 k1 k2 nd fl b_1) [(.int v0__6)]) _
    refine XT.pop X_7.here hx rfl (hb hby at_119) rfl rfl ?_
    refine XS.iload X_7.here hx rfl (hb hby at_120) rfl ?_
    refine XS.iconst X_7.here hx rfl (hb hby at_122) ?_
    refine XS.icmpYes X_7.here hx rfl (pc0 := 123) (pc' := 132) rfl (hb hby at_123) rfl (by decide) (by decide) (by decide) ?_
    refine XS.iload X_7.here hx rfl (hb hby at_132) rfl ?_
    refine XS.ifYes X_7.here hx rfl (pc0 := 134) (pc' := 142) rfl (hb hby at_134) rfl (by decide) (by decide) (by decide) ?_
    refine XS.iload X_7.here hx rfl (hb hby at_142) rfl ?_
    refine XS.ifNo X_7.here hx rfl (hb hby at_144) rfl (by decide) ?_
    show oS pP eE below T_7 (mkF mM 147 (lc68 p1 p2 k1 k2 nd fl b_1) []) _
    refine XS.iload X_7.here hx rfl (hb hby at_147) rfl ?_
    refine XS.iload X_7.here hx rfl (hb hby at_149) rfl ?_
    show oS pP eE below T_7 (mkF mM 151 (lc68 p1 p2 k1 k2 nd fl b_1) [(.int (2 : Int32)), (.int (2 : Int32))]) _
    refine XS.isub X_7.here hx rfl (hb hby at_151) rfl ?_
    show oS pP eE below T_7 (mkF mM 152 (lc68 p1 p2 k1 k2 nd fl b_1) [(.int ((2 : Int32) - (2 : Int32)))]) _
    rw [(by decide : ((2 : Int32) - (2 : Int32)) = (0 : Int32))]
    refine XS.ifNo X_7.here hx rfl (hb hby at_152) rfl (by decide) ?_
    refine XS.iconst X_7.here hx rfl (hb hby at_155) ?_
    refine XS.goto X_7.here hx rfl (pc0 := 156) (pc' := 160) rfl (hb hby at_156) (by decide) (by decide) ?_
    refine XS.istore X_7.here hx rfl (hb hby at_160) rfl (l' := (lc69 p1 p2 k1 k2 nd fl b_1)) rfl ?_
    show oS pP eE below T_7 (mkF mM 162 (lc69 p1 p2 k1 k2 nd fl b_1) []) _
    refine st_8 _ ?_
    show oS pP eE below T_8 (mkF mM 207 (lc70 p1 p2 k1 k2 nd fl b_1) [(.int (1 : Int32))]) _
    exact retN X_8 hx (t := .boolean) Bd.returns (by simp) (hb hby at_207) hr
  · show Q_law220 Z p1 p2 k1 k2 nd fl h0 n0 _ T_8.heap _
    exact ⟨rfl, N_8⟩
abbrev lc71 (p1 : Int32) (p2 : Int32) (k1 : Int64) (k2 : Int64) (nd : Int32) (fl : Int32) : Array Slot := #[.val (.int p1), .val (.int p2), .val (.long k1), .second, .val (.long k2), .second, .val (.int nd), .val (.int fl), .val (.int (2 : Int32)), .val (.int (2 : Int32)), .val (.int (1 : Int32)), .unset, .unset, .unset, .unset, .unset]
abbrev lc72 (p1 : Int32) (p2 : Int32) (k1 : Int64) (k2 : Int64) (nd : Int32) (fl : Int32) (b_1 : Addr) : Array Slot := #[.val (.int p1), .val (.int p2), .val (.long k1), .second, .val (.long k2), .second, .val (.int nd), .val (.int fl), .val (.int (2 : Int32)), .val (.int (2 : Int32)), .val (.int (1 : Int32)), .val (.ref b_1), .unset, .unset, .unset, .unset]
abbrev lc73 (p1 : Int32) (p2 : Int32) (k1 : Int64) (k2 : Int64) (nd : Int32) (fl : Int32) (b_1 : Addr) : Array Slot := #[.val (.int p1), .val (.int p2), .val (.long k1), .second, .val (.long k2), .second, .val (.int nd), .val (.int fl), .val (.int (2 : Int32)), .val (.int (2 : Int32)), .val (.int (1 : Int32)), .val (.ref b_1), .val (.int (1 : Int32)), .unset, .unset, .unset]
abbrev lc74 (p1 : Int32) (p2 : Int32) (k1 : Int64) (k2 : Int64) (nd : Int32) (fl : Int32) (b_1 : Addr) : Array Slot := #[.val (.int p1), .val (.int p2), .val (.long k1), .second, .val (.long k2), .second, .val (.int nd), .val (.int fl), .val (.int (2 : Int32)), .val (.int (2 : Int32)), .val (.int (1 : Int32)), .val (.ref b_1), .val (.int (1 : Int32)), .val (.int (1 : Int32)), .unset, .unset]
abbrev lc75 (p1 : Int32) (p2 : Int32) (k1 : Int64) (k2 : Int64) (nd : Int32) (fl : Int32) (b_1 : Addr) : Array Slot := #[.val (.int p1), .val (.int p2), .val (.long k1), .second, .val (.long k2), .second, .val (.int nd), .val (.int fl), .val (.int (2 : Int32)), .val (.int (2 : Int32)), .val (.int (1 : Int32)), .val (.ref b_1), .val (.int (1 : Int32)), .val (.int (1 : Int32)), .val (.int (1 : Int32)), .val (.int (0 : Int32))]
theorem ef_law221 (mM : MethodId) (x0 : Int32) (x1 : Int32) (x2 : Int64) (x3 : Int64) (x4 : Int32) (x5 : Int32) : entryFrame mM #[(.int x0), (.int x1), (.long x2), (.long x3), (.int x4), (.int x5)] maxLocals = mkF mM 0 #[.val (.int x0), .val (.int x1), .val (.long x2), .second, .val (.long x3), .second, .val (.int x4), .val (.int x5), .unset, .unset, .unset, .unset, .unset, .unset, .unset, .unset] [] := by first | (simp [entryFrame, mkF, argsToLocals, Value.category, maxLocals]; done) | rfl
def Q_law221 (Z : State) (p1 : Int32) (p2 : Int32) (k1 : Int64) (k2 : Int64) (nd : Int32) (fl : Int32) (h0 : Heap) (n0 : Nat) (v_ : Option Value) (h_ : Heap) (L_ : List Loc) : Prop := v_ = some (.int (1 : Int32)) ∧ Fr n0 L_
set_option maxRecDepth 65536 in
set_option maxHeartbeats 40000000 in
theorem rm_law221 (l : Launch) (Z : State) (a0 : Array Value) (hw : ∀ d ∈ tables_1, d.before a0 Z = true) (ws : List Jvm.Cond) (p1 : Int32) (p2 : Int32) (k1 : Int64) (k2 : Int64) (nd : Int32) (fl : Int32) (h0 : Heap) (n0 : Nat) (Z0 : n0 ≤ h0.size) (hn : (p1 &&& (3 : Int32)) = (2 : Int32)) (ht : ((p2 &&& (2147483647 : Int32)) % (3 : Int32)) = (2 : Int32)) (hc : ¬ (fl &&& (1 : Int32)) = 0) :
    MetFree l x (head1 (Jvm.Cond.code x code maxLocals ret :: ws) room_1) (fun aa_ U_ => aa_ = #[(.int p1), (.int p2), (.long k1), (.long k2), (.int nd), (.int fl)] ∧ Z.Warmed39 U_.vm ∧ U_.heap = h0) (fun _ _ _ _ _ => True) (fun _ U_ o_ U'_ => ∃ v_ L_, o_ = .returned v_ ∧ Q_law221 Z p1 p2 k1 k2 nd fl h0 n0 v_ U'_.heap L_ ∧ FrameEnd U_ o_ U'_ L_ 3 35) := by
  refine MetFree.of_bodySF (plainFor_of_name pn_1) hisR ?_
  intro pP eE sS mM argsA below meth cC s₁ Bd hml0 hP hK
  obtain ⟨rfl, hZ, hh⟩ := hP
  have hx := Bd.exec
  have hby := Bd.bytes
  have hml : cC.maxLocals = 16 := hml0
  have hown : sS.vm.findClass "com/example/greenweft/greenweft/steiner/NodeHeapIsEmptyPinLaw" = some mM.cls := findClass_of_methodNamed Bd.named
  have hnm := (name_of_methodNamed Bd.named Bd.method).1
  have X0 : Stand pP l eE room_1 sS mM #[(.int p1), (.int p2), (.long k1), (.long k2), (.int nd), (.int fl)] below meth cC s₁ [] 0 0 := Stand.of_body Bd
  have e0 : s₁.heap = h0 := by rw [← hh, Bd.state]; rfl
  have N0 := Fr.nil n0
  have pre0 : ∀ t_, Steps pP.tables eE below (s₁.setTop (mkF mM 0 #[.val (.int p1), .val (.int p2), .val (.long k1), .second, .val (.long k2), .second, .val (.int nd), .val (.int fl), .unset, .unset, .unset, .unset, .unset, .unset, .unset, .unset] [])) t_ → Steps pP.tables eE below (s₁.setTop (entryFrame mM #[(.int p1), (.int p2), (.long k1), (.long k2), (.int nd), (.int fl)] maxLocals)) t_ := fun t_ k_ => castTop (ef_law221 mM p1 p2 k1 k2 nd fl) k_
  obtain ⟨T_1, h_1, X_1, e_1, E_1, A_1, D_1, -, st_1⟩ := newO X0 hx hZ hown (ow hw 1 rfl) (ow hw 2 rfl) (ow hw 3 rfl) e0 (g := (mkF mM 30 (lc71 p1 p2 k1 k2 nd fl) [])) rfl (hb hby at_30) (by decide) (by decide)
  obtain ⟨b_1, g_1⟩ : ∃ z, z = h0.size := ⟨_, rfl⟩
  rw [← g_1] at A_1 D_1 st_1
  have g_b_1 : n0 ≤ b_1 := Nat.le_trans Z0 (Nat.le_of_eq g_1.symm)
  have sz_b_1 : h0.size ≤ b_1 := Nat.le_trans (Keep.refl h0 []).1 (Nat.le_of_eq g_1.symm)
  have Z_1 : n0 ≤ h_1.size := (Nat.le_trans Z0 E_1.1)
  have K_1 : Keep h0 h_1 [] := (Keep.refl h0 []).ext E_1
  have F_keys_b_1__1 : Fld Z h_1 b_1 "com/example/greenweft/greenweft/steiner/NodeHeap" "keys" "[J" .null := D_1 (Or.inl (ow hw 12 rfl)) (ty := (.array .long)) (by decide)
  have F_nodes_b_1__1 : Fld Z h_1 b_1 "com/example/greenweft/greenweft/steiner/NodeHeap" "nodes" "[I" .null := D_1 (Or.inl (ow hw 15 rfl)) (ty := (.array .int)) (by decide)
  have F_size_b_1__1 : Fld Z h_1 b_1 "com/example/greenweft/greenweft/steiner/NodeHeap" "size" "I" (.int (0 : Int32)) := D_1 (Or.inl (ow hw 22 rfl)) (ty := .int) (by decide)
  obtain ⟨_, _, ⟨T_2, L_2, k_2, n_2⟩, -, X_2, ⟨Lc_2, hQ_2, l_2, y_2, z_2⟩, st_2⟩ := X_1.specialBack hx (y := MN3) rfl hown (mvT hZ (ow hw 4 rfl)) (mvT hZ (ow hw 5 rfl)) (mvT hZ (ow hw 6 rfl)) (by decide) (backOf (W := 1) (rm_init l Z a0 hw [] b_1 h_1 n0 Z_1 F_keys_b_1__1 F_nodes_b_1__1 F_size_b_1__1 A_1 g_b_1) hZ (ow hw 6 rfl) (ow hw 3 rfl) (by decide) (by decide)) (g := (mkF mM 34 (lc71 p1 p2 k1 k2 nd fl) [(.ref b_1), (.ref b_1)])) rfl (by rw [hml]; rfl) (Steps.refl _) (a := b_1) (argsL := []) (rest := [(.ref b_1)]) (lenOf pd_3 rfl) rfl (by show 2 * 0 + _ ≤ _; exact Nat.le_of_eq rfl) (hb hby at_34) (fun _ _ => ⟨rfl, e_1, (by decide : 1 + 2 ≤ _), (by decide : 3 + 32 ≤ _)⟩)
  dsimp only [Pt.U, Pt.locs, Pt.cells, Pt.slots] at X_2 l_2 y_2 z_2 st_2 hQ_2
  subst l_2 y_2 z_2
  obtain ⟨d__2, ⟨g__2, ⟨kd__2, ⟨kg__2, ⟨rfl, N_2q, Kc_2, pfsz_d_2, pfsz_g_2, pfndg_2, pfE_a_2, pfF_keys_a_2, pfF_nodes_a_2, pfF_size_a_2, pfV_d_2, pfV_g_2⟩⟩⟩⟩⟩ := hQ_2
  have Z_2 : n0 ≤ T_2.heap.size := (Nat.le_trans Z_1 Kc_2.1)
  have K_2 : Keep h0 T_2.heap [] := K_1.trans Kc_2 (allS (Or.inr sz_b_1) all0)
  have sz_d__2 : h0.size ≤ d__2 := Nat.le_trans K_1.1 pfsz_d_2
  have g_d__2 : n0 ≤ d__2 := Nat.le_trans Z_1 pfsz_d_2
  have sz_g__2 : h0.size ≤ g__2 := Nat.le_trans K_1.1 pfsz_g_2
  have g_g__2 : n0 ≤ g__2 := Nat.le_trans Z_1 pfsz_g_2
  have N_2 := Fr.app N0 N_2q
  obtain ⟨cq_3, kq_3, q_3a, q_3b, q_3c⟩ := isOf hZ rfl pfE_a_2
  obtain ⟨_, _, ⟨T_3, L_3, k_3, n_3⟩, -, X_3, ⟨Lc_3, hQ_3, l_3, y_3, z_3⟩, st_3⟩ := X_2.virtualBack hx (y := MN1) (z := MN1) hown (mvT hZ (ow hw 16 rfl)) (mvT hZ (ow hw 17 rfl)) (notFace_of_selects (args := #[]) (mvT hZ (ow hw 19 rfl))) (mvT hZ (ow hw 19 rfl)) (mvT hZ (ow hw 18 rfl)) (by decide) (backOf (W := 0) (rm_ie0 l Z a0 hw [] b_1 T_2.heap n0 Z_2 pfF_size_a_2) hZ (ow hw 20 rfl) (ow hw 3 rfl) (by decide) (by decide)) q_3a q_3c (g := (mkF mM 41 (lc72 p1 p2 k1 k2 nd fl b_1) [(.ref b_1)])) rfl (by rw [hml]; rfl) (Steps.refl _) (argsL := []) (rest := []) (lenOf pd_1 rfl) rfl (by show 2 * 0 + _ ≤ _; exact Nat.le_of_eq rfl) (hb hby at_41) (fun _ _ => ⟨rfl, rfl, (by decide : 3 + 0 ≤ _), (by decide : 35 + 0 ≤ _)⟩)
  dsimp only [Pt.U, Pt.locs, Pt.cells, Pt.slots] at X_3 l_3 y_3 z_3 st_3 hQ_3
  subst l_3 y_3 z_3
  obtain ⟨rfl, N_3q, eh_3⟩ := hQ_3
  have N_3 := Fr.app N_2 N_3q
  obtain ⟨cq_4, kq_4, q_4a, q_4b, q_4c⟩ := isOf hZ eh_3 pfE_a_2
  obtain ⟨_, _, ⟨T_4, L_4, k_4, n_4⟩, -, X_4, ⟨Lc_4, hQ_4, l_4, y_4, z_4⟩, st_4⟩ := X_3.virtualBack hx (y := MN2) (z := MN2) hown (mvT hZ (ow hw 28 rfl)) (mvT hZ (ow hw 29 rfl)) (notFace_of_selects (args := #[]) (mvT hZ (ow hw 31 rfl))) (mvT hZ (ow hw 31 rfl)) (mvT hZ (ow hw 30 rfl)) (by decide) (backOf (W := 0) (rm_add0 l Z a0 hw [] b_1 d__2 g__2 kd__2 kg__2 k1 nd (0 : Int64) (0 : Int64) (0 : Int64) (0 : Int64) (0 : Int32) (0 : Int32) (0 : Int32) (0 : Int32) T_2.heap n0 Z_2 pfF_size_a_2 pfF_keys_a_2 pfF_nodes_a_2 pfE_a_2 g_b_1 g_d__2 g_g__2 pfV_d_2 pfV_g_2 pfndg_2 (Nat.ne_of_lt (Nat.lt_of_lt_of_le A_1.lt pfsz_d_2)) (Nat.ne_of_lt (Nat.lt_of_lt_of_le A_1.lt pfsz_g_2))) hZ (ow hw 32 rfl) (ow hw 3 rfl) (by decide) (by decide)) q_4a q_4c (g := (mkF mM 57 (lc73 p1 p2 k1 k2 nd fl b_1) [(.int nd), (.long k1), (.ref b_1)])) rfl (by rw [hml]; rfl) (Steps.refl _) (argsL := [(.long k1), (.int nd)]) (rest := []) (lenOf pd_2 rfl) rfl (by show 2 * 0 + _ ≤ _; exact Nat.le_of_eq rfl) (hb hby at_57) (fun _ _ => ⟨rfl, eh_3, (by decide : 3 + 0 ≤ _), (by decide : 35 + 0 ≤ _)⟩)
  dsimp only [Pt.U, Pt.locs, Pt.cells, Pt.slots] at X_4 l_4 y_4 z_4 st_4 hQ_4
  subst l_4 y_4 z_4
  obtain ⟨u0__4, ⟨u1__4, ⟨u2__4, ⟨u3__4, ⟨v0__4, ⟨v1__4, ⟨v2__4, ⟨v3__4, ⟨rfl, N_4q, Kc_4, pfF_size_a_4, pfF_keys_a_4, pfF_nodes_a_4, pfE_a_4, pfV_d_4, pfV_g_4⟩⟩⟩⟩⟩⟩⟩⟩⟩ := hQ_4
  have Z_4 : n0 ≤ T_4.heap.size := (Nat.le_trans Z_2 Kc_4.1)
  have K_4 : Keep h0 T_4.heap [] := K_2.trans Kc_4 (allS (Or.inr sz_b_1) (allS (Or.inr sz_d__2) (allS (Or.inr sz_g__2) all0)))
  have N_4 := Fr.app N_3 N_4q
  obtain ⟨cq_5, kq_5, q_5a, q_5b, q_5c⟩ := isOf hZ rfl pfE_a_4
  obtain ⟨_, _, ⟨T_5, L_5, k_5, n_5⟩, -, X_5, ⟨Lc_5, hQ_5, l_5, y_5, z_5⟩, st_5⟩ := X_4.virtualBack hx (y := MN2) (z := MN2) hown (mvT hZ (ow hw 28 rfl)) (mvT hZ (ow hw 29 rfl)) (notFace_of_selects (args := #[]) (mvT hZ (ow hw 31 rfl))) (mvT hZ (ow hw 31 rfl)) (mvT hZ (ow hw 30 rfl)) (by decide) (backOf (W := 0) (rm_add1 l Z a0 hw [] b_1 d__2 g__2 kd__2 kg__2 k2 (nd + (1 : Int32)) u0__4 u1__4 u2__4 u3__4 v0__4 v1__4 v2__4 v3__4 T_4.heap n0 Z_4 pfF_size_a_4 pfF_keys_a_4 pfF_nodes_a_4 pfE_a_4 g_b_1 g_d__2 g_g__2 pfV_d_4 pfV_g_4 pfndg_2 (Nat.ne_of_lt (Nat.lt_of_lt_of_le A_1.lt pfsz_d_2)) (Nat.ne_of_lt (Nat.lt_of_lt_of_le A_1.lt pfsz_g_2))) hZ (ow hw 32 rfl) (ow hw 3 rfl) (by decide) (by decide)) q_5a q_5c (g := (mkF mM 74 (lc73 p1 p2 k1 k2 nd fl b_1) [(.int (nd + (1 : Int32))), (.long k2), (.ref b_1)])) rfl (by rw [hml]; rfl) (Steps.refl _) (argsL := [(.long k2), (.int (nd + (1 : Int32)))]) (rest := []) (lenOf pd_2 rfl) rfl (by show 2 * 0 + _ ≤ _; exact Nat.le_of_eq rfl) (hb hby at_74) (fun _ _ => ⟨rfl, rfl, (by decide : 3 + 0 ≤ _), (by decide : 35 + 0 ≤ _)⟩)
  dsimp only [Pt.U, Pt.locs, Pt.cells, Pt.slots] at X_5 l_5 y_5 z_5 st_5 hQ_5
  subst l_5 y_5 z_5
  obtain ⟨u0__5, ⟨u1__5, ⟨u2__5, ⟨u3__5, ⟨v0__5, ⟨v1__5, ⟨v2__5, ⟨v3__5, ⟨rfl, N_5q, Kc_5, pfF_size_a_5, pfF_keys_a_5, pfF_nodes_a_5, pfE_a_5, pfV_d_5, pfV_g_5⟩⟩⟩⟩⟩⟩⟩⟩⟩ := hQ_5
  have Z_5 : n0 ≤ T_5.heap.size := (Nat.le_trans Z_4 Kc_5.1)
  have K_5 : Keep h0 T_5.heap [] := K_4.trans Kc_5 (allS (Or.inr sz_b_1) (allS (Or.inr sz_d__2) (allS (Or.inr sz_g__2) all0)))
  have N_5 := Fr.app N_4 N_5q
  obtain ⟨cq_6, kq_6, q_6a, q_6b, q_6c⟩ := isOf hZ rfl pfE_a_5
  obtain ⟨_, _, ⟨T_6, L_6, k_6, n_6⟩, -, X_6, ⟨Lc_6, hQ_6, l_6, y_6, z_6⟩, st_6⟩ := X_5.virtualBack hx (y := MN5) (z := MN5) hown (mvT hZ (ow hw 36 rfl)) (mvT hZ (ow hw 37 rfl)) (notFace_of_selects (args := #[]) (mvT hZ (ow hw 39 rfl))) (mvT hZ (ow hw 39 rfl)) (mvT hZ (ow hw 38 rfl)) (by decide) (backOf (W := 0) (rm_take2 l Z a0 hw [] b_1 d__2 g__2 kd__2 kg__2 u0__5 u1__5 u2__5 u3__5 v0__5 v1__5 v2__5 v3__5 T_5.heap n0 Z_5 pfF_size_a_5 pfF_keys_a_5 pfF_nodes_a_5 pfE_a_5 g_b_1 g_d__2 g_g__2 pfV_d_5 pfV_g_5 pfndg_2 (Nat.ne_of_lt (Nat.lt_of_lt_of_le A_1.lt pfsz_d_2)) (Nat.ne_of_lt (Nat.lt_of_lt_of_le A_1.lt pfsz_g_2))) hZ (ow hw 40 rfl) (ow hw 3 rfl) (by decide) (by decide)) q_6a q_6c (g := (mkF mM 104 (lc73 p1 p2 k1 k2 nd fl b_1) [(.ref b_1)])) rfl (by rw [hml]; rfl) (Steps.refl _) (argsL := []) (rest := []) (lenOf pd_4 rfl) rfl (by show 2 * 0 + _ ≤ _; exact Nat.le_of_eq rfl) (hb hby at_104) (fun _ _ => ⟨rfl, rfl, (by decide : 3 + 0 ≤ _), (by decide : 35 + 0 ≤ _)⟩)
  dsimp only [Pt.U, Pt.locs, Pt.cells, Pt.slots] at X_6 l_6 y_6 z_6 st_6 hQ_6
  subst l_6 y_6 z_6
  obtain ⟨u0__6, ⟨u1__6, ⟨u2__6, ⟨u3__6, ⟨v0__6, ⟨v1__6, ⟨v2__6, ⟨v3__6, ⟨rfl, N_6q, Kc_6, pfF_size_a_6, pfF_keys_a_6, pfF_nodes_a_6, pfE_a_6, pfV_d_6, pfV_g_6⟩⟩⟩⟩⟩⟩⟩⟩⟩ := hQ_6
  have Z_6 : n0 ≤ T_6.heap.size := (Nat.le_trans Z_5 Kc_6.1)
  have K_6 : Keep h0 T_6.heap [] := K_5.trans Kc_6 (allS (Or.inr sz_b_1) (allS (Or.inr sz_d__2) (allS (Or.inr sz_g__2) all0)))
  have N_6 := Fr.app N_5 N_6q
  obtain ⟨cq_7, kq_7, q_7a, q_7b, q_7c⟩ := isOf hZ rfl pfE_a_6
  obtain ⟨_, _, ⟨T_7, L_7, k_7, n_7⟩, -, X_7, ⟨Lc_7, hQ_7, l_7, y_7, z_7⟩, st_7⟩ := X_6.virtualBack hx (y := MN5) (z := MN5) hown (mvT hZ (ow hw 36 rfl)) (mvT hZ (ow hw 37 rfl)) (notFace_of_selects (args := #[]) (mvT hZ (ow hw 39 rfl))) (mvT hZ (ow hw 39 rfl)) (mvT hZ (ow hw 38 rfl)) (by decide) (backOf (W := 0) (rm_take1 l Z a0 hw [] b_1 d__2 g__2 kd__2 kg__2 u0__6 u1__6 u2__6 u3__6 v0__6 v1__6 v2__6 v3__6 T_6.heap n0 Z_6 pfF_size_a_6 pfF_keys_a_6 pfF_nodes_a_6 pfE_a_6 g_b_1 g_d__2 g_g__2 pfV_d_6 pfV_g_6 pfndg_2 (Nat.ne_of_lt (Nat.lt_of_lt_of_le A_1.lt pfsz_d_2)) (Nat.ne_of_lt (Nat.lt_of_lt_of_le A_1.lt pfsz_g_2))) hZ (ow hw 40 rfl) (ow hw 3 rfl) (by decide) (by decide)) q_7a q_7c (g := (mkF mM 116 (lc73 p1 p2 k1 k2 nd fl b_1) [(.ref b_1)])) rfl (by rw [hml]; rfl) (Steps.refl _) (argsL := []) (rest := []) (lenOf pd_4 rfl) rfl (by show 2 * 0 + _ ≤ _; exact Nat.le_of_eq rfl) (hb hby at_116) (fun _ _ => ⟨rfl, rfl, (by decide : 3 + 0 ≤ _), (by decide : 35 + 0 ≤ _)⟩)
  dsimp only [Pt.U, Pt.locs, Pt.cells, Pt.slots] at X_7 l_7 y_7 z_7 st_7 hQ_7
  subst l_7 y_7 z_7
  obtain ⟨u0__7, ⟨u1__7, ⟨u2__7, ⟨u3__7, ⟨v0__7, ⟨v1__7, ⟨v2__7, ⟨v3__7, ⟨rfl, N_7q, Kc_7, pfF_size_a_7, pfF_keys_a_7, pfF_nodes_a_7, pfE_a_7, pfV_d_7, pfV_g_7⟩⟩⟩⟩⟩⟩⟩⟩⟩ := hQ_7
  have Z_7 : n0 ≤ T_7.heap.size := (Nat.le_trans Z_6 Kc_7.1)
  have K_7 : Keep h0 T_7.heap [] := K_6.trans Kc_7 (allS (Or.inr sz_b_1) (allS (Or.inr sz_d__2) (allS (Or.inr sz_g__2) all0)))
  have N_7 := Fr.app N_6 N_7q
  obtain ⟨cq_8, kq_8, q_8a, q_8b, q_8c⟩ := isOf hZ rfl pfE_a_7
  obtain ⟨_, _, ⟨T_8, L_8, k_8, n_8⟩, -, X_8, ⟨Lc_8, hQ_8, l_8, y_8, z_8⟩, st_8⟩ := X_7.virtualBack hx (y := MN4) (z := MN4) hown (mvT hZ (ow hw 23 rfl)) (mvT hZ (ow hw 24 rfl)) (notFace_of_selects (args := #[]) (mvT hZ (ow hw 26 rfl))) (mvT hZ (ow hw 26 rfl)) (mvT hZ (ow hw 25 rfl)) (by decide) (backOf (W := 0) (rm_clear l Z a0 hw [] b_1 d__2 g__2 (0 : Int32) T_7.heap n0 Z_7 pfF_size_a_7 pfF_keys_a_7 pfF_nodes_a_7 pfE_a_7 g_b_1) hZ (ow hw 27 rfl) (ow hw 3 rfl) (by decide) (by decide)) q_8a q_8c (g := (mkF mM 139 (lc73 p1 p2 k1 k2 nd fl b_1) [(.ref b_1)])) rfl (by rw [hml]; rfl) (Steps.refl _) (argsL := []) (rest := []) (lenOf pd_3 rfl) rfl (by show 2 * 0 + _ ≤ _; exact Nat.le_of_eq rfl) (hb hby at_139) (fun _ _ => ⟨rfl, rfl, (by decide : 3 + 0 ≤ _), (by decide : 35 + 0 ≤ _)⟩)
  dsimp only [Pt.U, Pt.locs, Pt.cells, Pt.slots] at X_8 l_8 y_8 z_8 st_8 hQ_8
  subst l_8 y_8 z_8
  obtain ⟨rfl, N_8q, Kc_8, pfF_size_a_8, pfF_keys_a_8, pfF_nodes_a_8, pfE_a_8⟩ := hQ_8
  have Z_8 : n0 ≤ T_8.heap.size := (Nat.le_trans Z_7 Kc_8.1)
  have K_8 : Keep h0 T_8.heap [] := K_7.trans Kc_8 (allS (Or.inr sz_b_1) all0)
  have N_8 := Fr.app N_7 N_8q
  obtain ⟨T_9, h_9, L_9, X_9, e_9, N_9, Kc_9, st_9⟩ := pc_tail0 p1 p2 k1 k2 nd fl (2 : Int32) (2 : Int32) (1 : Int32) b_1 d__2 g__2 kd__2 kg__2 u0__7 u1__7 u2__7 u3__7 v0__7 v1__7 v2__7 v3__7 X_8 hx hZ hw hby hml hown rfl N_8 Z_8 pfF_size_a_8 pfF_keys_a_8 pfF_nodes_a_8 pfE_a_8 g_b_1 g_d__2 g_g__2 (pfV_d_7.keep Kc_8 (ninS (Ne.symm (Nat.ne_of_lt (Nat.lt_of_lt_of_le A_1.lt pfsz_d_2))) nin0)) (pfV_g_7.keep Kc_8 (ninS (Ne.symm (Nat.ne_of_lt (Nat.lt_of_lt_of_le A_1.lt pfsz_g_2))) nin0)) pfndg_2 (Nat.ne_of_lt (Nat.lt_of_lt_of_le A_1.lt pfsz_d_2)) (Nat.ne_of_lt (Nat.lt_of_lt_of_le A_1.lt pfsz_g_2))
  have Z_9 : n0 ≤ h_9.size := (Nat.le_trans Z_8 Kc_9.1)
  have K_9 : Keep h0 h_9 [] := K_8.trans Kc_9 (allS (Or.inr sz_b_1) (allS (Or.inr sz_d__2) (allS (Or.inr sz_g__2) all0)))
  obtain ⟨fs, hr, hrun, hended, hW, hsame⟩ := X_9.leave (v := some (.int (1 : Int32))) (fun h => by rw [Bd.returns] at h; cases h)
  refine ⟨_, _, pre0 _ ?_, hrun, hended, _, _, rfl, ?_, ⟨_, rfl⟩, hW, hsame.mono (by decide) (by decide)⟩
  · show oS pP eE below s₁ (mkF mM 0 (lc6 p1 p2 k1 k2 nd fl) []) _
    refine XS.iloadN X0.here hx rfl (hb hby at_0) rfl ?_
    refine XS.iconst X0.here hx rfl (hb hby at_1) ?_
    show oS pP eE below s₁ (mkF mM 2 (lc6 p1 p2 k1 k2 nd fl) [(.int (3 : Int32)), (.int p1)]) _
    refine XS.iand X0.here hx rfl (hb hby at_2) rfl ?_
    show oS pP eE below s₁ (mkF mM 3 (lc6 p1 p2 k1 k2 nd fl) [(.int (p1 &&& (3 : Int32)))]) _
    rw [hn]
    refine XS.istore X0.here hx rfl (hb hby at_3) rfl (l' := (lc42 p1 p2 k1 k2 nd fl)) rfl ?_
    refine XS.iloadN X0.here hx rfl (hb hby at_5) rfl ?_
    show oS pP eE below s₁ (mkF mM 6 (lc42 p1 p2 k1 k2 nd fl) [(.int p2)]) _
    refine X0.ldcI hx hown (mvT hZ (ow hw 0 rfl)) (g := (mkF mM 6 (lc42 p1 p2 k1 k2 nd fl) [(.int p2)])) rfl (hb hby at_6) ?_
    show oS pP eE below s₁ (mkF mM 8 (lc42 p1 p2 k1 k2 nd fl) [(.int (2147483647 : Int32)), (.int p2)]) _
    refine XS.iand X0.here hx rfl (hb hby at_8) rfl ?_
    refine XS.iload X0.here hx rfl (hb hby at_9) rfl ?_
    refine XS.iconst X0.here hx rfl (hb hby at_11) ?_
    show oS pP eE below s₁ (mkF mM 12 (lc42 p1 p2 k1 k2 nd fl) [(.int (1 : Int32)), (.int (2 : Int32)), (.int (p2 &&& (2147483647 : Int32)))]) _
    refine XS.iadd X0.here hx rfl (hb hby at_12) rfl ?_
    show oS pP eE below s₁ (mkF mM 13 (lc42 p1 p2 k1 k2 nd fl) [(.int ((2 : Int32) + (1 : Int32))), (.int (p2 &&& (2147483647 : Int32)))]) _
    rw [(by decide : ((2 : Int32) + (1 : Int32)) = (3 : Int32))]
    show oS pP eE below s₁ (mkF mM 13 (lc42 p1 p2 k1 k2 nd fl) [(.int (3 : Int32)), (.int (p2 &&& (2147483647 : Int32)))]) _
    refine iremM X0 hx rfl (hb hby at_13) rfl (by decide) ?_
    show oS pP eE below s₁ (mkF mM 14 (lc42 p1 p2 k1 k2 nd fl) [(.int ((p2 &&& (2147483647 : Int32)) % (3 : Int32)))]) _
    rw [ht]
    refine XS.istore X0.here hx rfl (hb hby at_14) rfl (l' := (lc65 p1 p2 k1 k2 nd fl)) rfl ?_
    refine XS.iload X0.here hx rfl (hb hby at_16) rfl ?_
    refine XS.iconst X0.here hx rfl (hb hby at_18) ?_
    show oS pP eE below s₁ (mkF mM 19 (lc65 p1 p2 k1 k2 nd fl) [(.int (1 : Int32)), (.int fl)]) _
    refine XS.iand X0.here hx rfl (hb hby at_19) rfl ?_
    refine XS.ifNo X0.here hx rfl (hb hby at_20) rfl (XT.i0_eq_f hc) ?_
    refine XS.iconst X0.here hx rfl (hb hby at_23) ?_
    refine XS.goto X0.here hx rfl (pc0 := 24) (pc' := 28) rfl (hb hby at_24) (by decide) (by decide) ?_
    refine XS.istore X0.here hx rfl (hb hby at_28) rfl (l' := (lc71 p1 p2 k1 k2 nd fl)) rfl ?_
    show oS pP eE below s₁ (mkF mM 30 (lc71 p1 p2 k1 k2 nd fl) []) _
    refine st_1 _ ?_
    show oS pP eE below T_1 (mkF mM 33 (lc71 p1 p2 k1 k2 nd fl) [(.ref b_1)]) _
    refine XS.dup X_1.here hx rfl (hb hby at_33) rfl rfl ?_
    show oS pP eE below T_1 (mkF mM 34 (lc71 p1 p2 k1 k2 nd fl) [(.ref b_1), (.ref b_1)]) _
    refine st_2.trans ?_
    show oS pP eE below T_2 (mkF mM 37 (lc71 p1 p2 k1 k2 nd fl) [(.ref b_1)]) _
    refine XS.astore X_2.here hx rfl (hb hby at_37) rfl rfl (l' := (lc72 p1 p2 k1 k2 nd fl b_1)) rfl ?_
    refine XS.aload X_2.here hx rfl (hb hby at_39) rfl rfl ?_
    show oS pP eE below T_2 (mkF mM 41 (lc72 p1 p2 k1 k2 nd fl b_1) [(.ref b_1)]) _
    refine st_3.trans ?_
    show oS pP eE below T_3 (mkF mM 44 (lc72 p1 p2 k1 k2 nd fl b_1) [(.int (1 : Int32))]) _
    refine XS.istore X_3.here hx rfl (hb hby at_44) rfl (l' := (lc73 p1 p2 k1 k2 nd fl b_1)) rfl ?_
    refine XS.iload X_3.here hx rfl (hb hby at_46) rfl ?_
    refine XS.iconst X_3.here hx rfl (hb hby at_48) ?_
    refine XS.icmpNo X_3.here hx rfl (hb hby at_49) rfl (by decide) ?_
    refine XS.aload X_3.here hx rfl (hb hby at_52) rfl rfl ?_
    refine XT.lloadN X_3.here hx rfl (hb hby at_54) rfl ?_
    refine XS.iload X_3.here hx rfl (hb hby at_55) rfl ?_
    show oS pP eE below T_3 (mkF mM 57 (lc73 p1 p2 k1 k2 nd fl b_1) [(.int nd), (.long k1), (.ref b_1)]) _
    refine st_4.trans ?_
    show oS pP eE below T_4 (mkF mM 60 (lc73 p1 p2 k1 k2 nd fl b_1) []) _
    refine XS.iload X_4.here hx rfl (hb hby at_60) rfl ?_
    refine XS.iconst X_4.here hx rfl (hb hby at_62) ?_
    refine XS.icmpNo X_4.here hx rfl (hb hby at_63) rfl (by decide) ?_
    refine XS.aload X_4.here hx rfl (hb hby at_66) rfl rfl ?_
    refine XT.lload X_4.here hx rfl (hb hby at_68) rfl ?_
    refine XS.iload X_4.here hx rfl (hb hby at_70) rfl ?_
    refine XS.iconst X_4.here hx rfl (hb hby at_72) ?_
    show oS pP eE below T_4 (mkF mM 73 (lc73 p1 p2 k1 k2 nd fl b_1) [(.int (1 : Int32)), (.int nd), (.long k2), (.ref b_1)]) _
    refine XS.iadd X_4.here hx rfl (hb hby at_73) rfl ?_
    show oS pP eE below T_4 (mkF mM 74 (lc73 p1 p2 k1 k2 nd fl b_1) [(.int (nd + (1 : Int32))), (.long k2), (.ref b_1)]) _
    refine st_5.trans ?_
    show oS pP eE below T_5 (mkF mM 77 (lc73 p1 p2 k1 k2 nd fl b_1) []) _
    refine XS.iload X_5.here hx rfl (hb hby at_77) rfl ?_
    refine XS.iconst X_5.here hx rfl (hb hby at_79) ?_
    refine XS.icmpYes X_5.here hx rfl (pc0 := 80) (pc' := 96) rfl (hb hby at_80) rfl (by decide) (by decide) (by decide) ?_
    refine XS.iload X_5.here hx rfl (hb hby at_96) rfl ?_
    refine XS.iconst X_5.here hx rfl (hb hby at_98) ?_
    refine XS.icmpNo X_5.here hx rfl (hb hby at_99) rfl (by decide) ?_
    refine XS.aload X_5.here hx rfl (hb hby at_102) rfl rfl ?_
    show oS pP eE below T_5 (mkF mM 104 (lc73 p1 p2 k1 k2 nd fl b_1) [(.ref b_1)]) _
    refine st_6.trans ?_
    show oS pP eE below T_6 (mkF mM 107 (lc73 p1 p2 k1 k2 nd fl b_1) [(.int v0__5)]) _
    refine XT.pop X_6.here hx rfl (hb hby at_107) rfl rfl ?_
    refine XS.iload X_6.here hx rfl (hb hby at_108) rfl ?_
    refine XS.iconst X_6.here hx rfl (hb hby at_110) ?_
    refine XS.icmpNo X_6.here hx rfl (hb hby at_111) rfl (by decide) ?_
    refine XS.aload X_6.here hx rfl (hb hby at_114) rfl rfl ?_
    show oS pP eE below T_6 (mkF mM 116 (lc73 p1 p2 k1 k2 nd fl b_1) [(.ref b_1)]) _
    refine st_7.trans ?_
    show oS pP eE below T_7 (mkF mM 119 (lc73 p1 p2 k1 k2 nd fl b_1) [(.int v0__6)]) _
    refine XT.pop X_7.here hx rfl (hb hby at_119) rfl rfl ?_
    refine XS.iload X_7.here hx rfl (hb hby at_120) rfl ?_
    refine XS.iconst X_7.here hx rfl (hb hby at_122) ?_
    refine XS.icmpYes X_7.here hx rfl (pc0 := 123) (pc' := 132) rfl (hb hby at_123) rfl (by decide) (by decide) (by decide) ?_
    refine XS.iload X_7.here hx rfl (hb hby at_132) rfl ?_
    refine XS.ifNo X_7.here hx rfl (hb hby at_134) rfl (by decide) ?_
    refine XS.aload X_7.here hx rfl (hb hby at_137) rfl rfl ?_
    show oS pP eE below T_7 (mkF mM 139 (lc73 p1 p2 k1 k2 nd fl b_1) [(.ref b_1)]) _
    refine st_8.trans ?_
    show oS pP eE below T_8 (mkF mM 142 (lc73 p1 p2 k1 k2 nd fl b_1) []) _
    refine XS.iload X_8.here hx rfl (hb hby at_142) rfl ?_
    refine XS.ifYes X_8.here hx rfl (pc0 := 144) (pc' := 155) rfl (hb hby at_144) rfl (by decide) (by decide) (by decide) ?_
    refine XS.iconst X_8.here hx rfl (hb hby at_155) ?_
    refine XS.goto X_8.here hx rfl (pc0 := 156) (pc' := 160) rfl (hb hby at_156) (by decide) (by decide) ?_
    refine XS.istore X_8.here hx rfl (hb hby at_160) rfl (l' := (lc74 p1 p2 k1 k2 nd fl b_1)) rfl ?_
    show oS pP eE below T_8 (mkF mM 162 (lc74 p1 p2 k1 k2 nd fl b_1) []) _
    refine st_9 _ ?_
    show oS pP eE below T_9 (mkF mM 207 (lc75 p1 p2 k1 k2 nd fl b_1) [(.int (1 : Int32))]) _
    exact retN X_9 hx (t := .boolean) Bd.returns (by simp) (hb hby at_207) hr
  · show Q_law221 Z p1 p2 k1 k2 nd fl h0 n0 _ T_9.heap _
    exact ⟨rfl, N_9⟩
abbrev lc76 (p1 : Int32) (p2 : Int32) (k1 : Int64) (k2 : Int64) (nd : Int32) (fl : Int32) : Array Slot := #[.val (.int p1), .val (.int p2), .val (.long k1), .second, .val (.long k2), .second, .val (.int nd), .val (.int fl), .val (.int (3 : Int32)), .unset, .unset, .unset, .unset, .unset, .unset, .unset]
abbrev lc77 (p1 : Int32) (p2 : Int32) (k1 : Int64) (k2 : Int64) (nd : Int32) (fl : Int32) : Array Slot := #[.val (.int p1), .val (.int p2), .val (.long k1), .second, .val (.long k2), .second, .val (.int nd), .val (.int fl), .val (.int (3 : Int32)), .val (.int (0 : Int32)), .unset, .unset, .unset, .unset, .unset, .unset]
abbrev lc78 (p1 : Int32) (p2 : Int32) (k1 : Int64) (k2 : Int64) (nd : Int32) (fl : Int32) : Array Slot := #[.val (.int p1), .val (.int p2), .val (.long k1), .second, .val (.long k2), .second, .val (.int nd), .val (.int fl), .val (.int (3 : Int32)), .val (.int (0 : Int32)), .val (.int (0 : Int32)), .unset, .unset, .unset, .unset, .unset]
abbrev lc79 (p1 : Int32) (p2 : Int32) (k1 : Int64) (k2 : Int64) (nd : Int32) (fl : Int32) (b_1 : Addr) : Array Slot := #[.val (.int p1), .val (.int p2), .val (.long k1), .second, .val (.long k2), .second, .val (.int nd), .val (.int fl), .val (.int (3 : Int32)), .val (.int (0 : Int32)), .val (.int (0 : Int32)), .val (.ref b_1), .unset, .unset, .unset, .unset]
abbrev lc80 (p1 : Int32) (p2 : Int32) (k1 : Int64) (k2 : Int64) (nd : Int32) (fl : Int32) (b_1 : Addr) : Array Slot := #[.val (.int p1), .val (.int p2), .val (.long k1), .second, .val (.long k2), .second, .val (.int nd), .val (.int fl), .val (.int (3 : Int32)), .val (.int (0 : Int32)), .val (.int (0 : Int32)), .val (.ref b_1), .val (.int (1 : Int32)), .unset, .unset, .unset]
abbrev lc81 (p1 : Int32) (p2 : Int32) (k1 : Int64) (k2 : Int64) (nd : Int32) (fl : Int32) (b_1 : Addr) : Array Slot := #[.val (.int p1), .val (.int p2), .val (.long k1), .second, .val (.long k2), .second, .val (.int nd), .val (.int fl), .val (.int (3 : Int32)), .val (.int (0 : Int32)), .val (.int (0 : Int32)), .val (.ref b_1), .val (.int (1 : Int32)), .val (.int (0 : Int32)), .unset, .unset]
abbrev lc82 (p1 : Int32) (p2 : Int32) (k1 : Int64) (k2 : Int64) (nd : Int32) (fl : Int32) (b_1 : Addr) : Array Slot := #[.val (.int p1), .val (.int p2), .val (.long k1), .second, .val (.long k2), .second, .val (.int nd), .val (.int fl), .val (.int (3 : Int32)), .val (.int (0 : Int32)), .val (.int (0 : Int32)), .val (.ref b_1), .val (.int (1 : Int32)), .val (.int (0 : Int32)), .val (.int (0 : Int32)), .val (.int (0 : Int32))]
theorem ef_law300 (mM : MethodId) (x0 : Int32) (x1 : Int32) (x2 : Int64) (x3 : Int64) (x4 : Int32) (x5 : Int32) : entryFrame mM #[(.int x0), (.int x1), (.long x2), (.long x3), (.int x4), (.int x5)] maxLocals = mkF mM 0 #[.val (.int x0), .val (.int x1), .val (.long x2), .second, .val (.long x3), .second, .val (.int x4), .val (.int x5), .unset, .unset, .unset, .unset, .unset, .unset, .unset, .unset] [] := by first | (simp [entryFrame, mkF, argsToLocals, Value.category, maxLocals]; done) | rfl
def Q_law300 (Z : State) (p1 : Int32) (p2 : Int32) (k1 : Int64) (k2 : Int64) (nd : Int32) (fl : Int32) (h0 : Heap) (n0 : Nat) (v_ : Option Value) (h_ : Heap) (L_ : List Loc) : Prop := v_ = some (.int (1 : Int32)) ∧ Fr n0 L_
set_option maxRecDepth 65536 in
set_option maxHeartbeats 40000000 in
theorem rm_law300 (l : Launch) (Z : State) (a0 : Array Value) (hw : ∀ d ∈ tables_1, d.before a0 Z = true) (ws : List Jvm.Cond) (p1 : Int32) (p2 : Int32) (k1 : Int64) (k2 : Int64) (nd : Int32) (fl : Int32) (h0 : Heap) (n0 : Nat) (Z0 : n0 ≤ h0.size) (hn : (p1 &&& (3 : Int32)) = (3 : Int32)) (ht : ((p2 &&& (2147483647 : Int32)) % (4 : Int32)) = (0 : Int32)) (hc : (fl &&& (1 : Int32)) = 0) :
    MetFree l x (head1 (Jvm.Cond.code x code maxLocals ret :: ws) room_1) (fun aa_ U_ => aa_ = #[(.int p1), (.int p2), (.long k1), (.long k2), (.int nd), (.int fl)] ∧ Z.Warmed39 U_.vm ∧ U_.heap = h0) (fun _ _ _ _ _ => True) (fun _ U_ o_ U'_ => ∃ v_ L_, o_ = .returned v_ ∧ Q_law300 Z p1 p2 k1 k2 nd fl h0 n0 v_ U'_.heap L_ ∧ FrameEnd U_ o_ U'_ L_ 3 35) := by
  refine MetFree.of_bodySF (plainFor_of_name pn_1) hisR ?_
  intro pP eE sS mM argsA below meth cC s₁ Bd hml0 hP hK
  obtain ⟨rfl, hZ, hh⟩ := hP
  have hx := Bd.exec
  have hby := Bd.bytes
  have hml : cC.maxLocals = 16 := hml0
  have hown : sS.vm.findClass "com/example/greenweft/greenweft/steiner/NodeHeapIsEmptyPinLaw" = some mM.cls := findClass_of_methodNamed Bd.named
  have hnm := (name_of_methodNamed Bd.named Bd.method).1
  have X0 : Stand pP l eE room_1 sS mM #[(.int p1), (.int p2), (.long k1), (.long k2), (.int nd), (.int fl)] below meth cC s₁ [] 0 0 := Stand.of_body Bd
  have e0 : s₁.heap = h0 := by rw [← hh, Bd.state]; rfl
  have N0 := Fr.nil n0
  have pre0 : ∀ t_, Steps pP.tables eE below (s₁.setTop (mkF mM 0 #[.val (.int p1), .val (.int p2), .val (.long k1), .second, .val (.long k2), .second, .val (.int nd), .val (.int fl), .unset, .unset, .unset, .unset, .unset, .unset, .unset, .unset] [])) t_ → Steps pP.tables eE below (s₁.setTop (entryFrame mM #[(.int p1), (.int p2), (.long k1), (.long k2), (.int nd), (.int fl)] maxLocals)) t_ := fun t_ k_ => castTop (ef_law300 mM p1 p2 k1 k2 nd fl) k_
  obtain ⟨T_1, h_1, X_1, e_1, E_1, A_1, D_1, -, st_1⟩ := newO X0 hx hZ hown (ow hw 1 rfl) (ow hw 2 rfl) (ow hw 3 rfl) e0 (g := (mkF mM 30 (lc78 p1 p2 k1 k2 nd fl) [])) rfl (hb hby at_30) (by decide) (by decide)
  obtain ⟨b_1, g_1⟩ : ∃ z, z = h0.size := ⟨_, rfl⟩
  rw [← g_1] at A_1 D_1 st_1
  have g_b_1 : n0 ≤ b_1 := Nat.le_trans Z0 (Nat.le_of_eq g_1.symm)
  have sz_b_1 : h0.size ≤ b_1 := Nat.le_trans (Keep.refl h0 []).1 (Nat.le_of_eq g_1.symm)
  have Z_1 : n0 ≤ h_1.size := (Nat.le_trans Z0 E_1.1)
  have K_1 : Keep h0 h_1 [] := (Keep.refl h0 []).ext E_1
  have F_keys_b_1__1 : Fld Z h_1 b_1 "com/example/greenweft/greenweft/steiner/NodeHeap" "keys" "[J" .null := D_1 (Or.inl (ow hw 12 rfl)) (ty := (.array .long)) (by decide)
  have F_nodes_b_1__1 : Fld Z h_1 b_1 "com/example/greenweft/greenweft/steiner/NodeHeap" "nodes" "[I" .null := D_1 (Or.inl (ow hw 15 rfl)) (ty := (.array .int)) (by decide)
  have F_size_b_1__1 : Fld Z h_1 b_1 "com/example/greenweft/greenweft/steiner/NodeHeap" "size" "I" (.int (0 : Int32)) := D_1 (Or.inl (ow hw 22 rfl)) (ty := .int) (by decide)
  obtain ⟨_, _, ⟨T_2, L_2, k_2, n_2⟩, -, X_2, ⟨Lc_2, hQ_2, l_2, y_2, z_2⟩, st_2⟩ := X_1.specialBack hx (y := MN3) rfl hown (mvT hZ (ow hw 4 rfl)) (mvT hZ (ow hw 5 rfl)) (mvT hZ (ow hw 6 rfl)) (by decide) (backOf (W := 1) (rm_init l Z a0 hw [] b_1 h_1 n0 Z_1 F_keys_b_1__1 F_nodes_b_1__1 F_size_b_1__1 A_1 g_b_1) hZ (ow hw 6 rfl) (ow hw 3 rfl) (by decide) (by decide)) (g := (mkF mM 34 (lc78 p1 p2 k1 k2 nd fl) [(.ref b_1), (.ref b_1)])) rfl (by rw [hml]; rfl) (Steps.refl _) (a := b_1) (argsL := []) (rest := [(.ref b_1)]) (lenOf pd_3 rfl) rfl (by show 2 * 0 + _ ≤ _; exact Nat.le_of_eq rfl) (hb hby at_34) (fun _ _ => ⟨rfl, e_1, (by decide : 1 + 2 ≤ _), (by decide : 3 + 32 ≤ _)⟩)
  dsimp only [Pt.U, Pt.locs, Pt.cells, Pt.slots] at X_2 l_2 y_2 z_2 st_2 hQ_2
  subst l_2 y_2 z_2
  obtain ⟨d__2, ⟨g__2, ⟨kd__2, ⟨kg__2, ⟨rfl, N_2q, Kc_2, pfsz_d_2, pfsz_g_2, pfndg_2, pfE_a_2, pfF_keys_a_2, pfF_nodes_a_2, pfF_size_a_2, pfV_d_2, pfV_g_2⟩⟩⟩⟩⟩ := hQ_2
  have Z_2 : n0 ≤ T_2.heap.size := (Nat.le_trans Z_1 Kc_2.1)
  have K_2 : Keep h0 T_2.heap [] := K_1.trans Kc_2 (allS (Or.inr sz_b_1) all0)
  have sz_d__2 : h0.size ≤ d__2 := Nat.le_trans K_1.1 pfsz_d_2
  have g_d__2 : n0 ≤ d__2 := Nat.le_trans Z_1 pfsz_d_2
  have sz_g__2 : h0.size ≤ g__2 := Nat.le_trans K_1.1 pfsz_g_2
  have g_g__2 : n0 ≤ g__2 := Nat.le_trans Z_1 pfsz_g_2
  have N_2 := Fr.app N0 N_2q
  obtain ⟨cq_3, kq_3, q_3a, q_3b, q_3c⟩ := isOf hZ rfl pfE_a_2
  obtain ⟨_, _, ⟨T_3, L_3, k_3, n_3⟩, -, X_3, ⟨Lc_3, hQ_3, l_3, y_3, z_3⟩, st_3⟩ := X_2.virtualBack hx (y := MN1) (z := MN1) hown (mvT hZ (ow hw 16 rfl)) (mvT hZ (ow hw 17 rfl)) (notFace_of_selects (args := #[]) (mvT hZ (ow hw 19 rfl))) (mvT hZ (ow hw 19 rfl)) (mvT hZ (ow hw 18 rfl)) (by decide) (backOf (W := 0) (rm_ie0 l Z a0 hw [] b_1 T_2.heap n0 Z_2 pfF_size_a_2) hZ (ow hw 20 rfl) (ow hw 3 rfl) (by decide) (by decide)) q_3a q_3c (g := (mkF mM 41 (lc79 p1 p2 k1 k2 nd fl b_1) [(.ref b_1)])) rfl (by rw [hml]; rfl) (Steps.refl _) (argsL := []) (rest := []) (lenOf pd_1 rfl) rfl (by show 2 * 0 + _ ≤ _; exact Nat.le_of_eq rfl) (hb hby at_41) (fun _ _ => ⟨rfl, rfl, (by decide : 3 + 0 ≤ _), (by decide : 35 + 0 ≤ _)⟩)
  dsimp only [Pt.U, Pt.locs, Pt.cells, Pt.slots] at X_3 l_3 y_3 z_3 st_3 hQ_3
  subst l_3 y_3 z_3
  obtain ⟨rfl, N_3q, eh_3⟩ := hQ_3
  have N_3 := Fr.app N_2 N_3q
  obtain ⟨cq_4, kq_4, q_4a, q_4b, q_4c⟩ := isOf hZ eh_3 pfE_a_2
  obtain ⟨_, _, ⟨T_4, L_4, k_4, n_4⟩, -, X_4, ⟨Lc_4, hQ_4, l_4, y_4, z_4⟩, st_4⟩ := X_3.virtualBack hx (y := MN2) (z := MN2) hown (mvT hZ (ow hw 28 rfl)) (mvT hZ (ow hw 29 rfl)) (notFace_of_selects (args := #[]) (mvT hZ (ow hw 31 rfl))) (mvT hZ (ow hw 31 rfl)) (mvT hZ (ow hw 30 rfl)) (by decide) (backOf (W := 0) (rm_add0 l Z a0 hw [] b_1 d__2 g__2 kd__2 kg__2 k1 nd (0 : Int64) (0 : Int64) (0 : Int64) (0 : Int64) (0 : Int32) (0 : Int32) (0 : Int32) (0 : Int32) T_2.heap n0 Z_2 pfF_size_a_2 pfF_keys_a_2 pfF_nodes_a_2 pfE_a_2 g_b_1 g_d__2 g_g__2 pfV_d_2 pfV_g_2 pfndg_2 (Nat.ne_of_lt (Nat.lt_of_lt_of_le A_1.lt pfsz_d_2)) (Nat.ne_of_lt (Nat.lt_of_lt_of_le A_1.lt pfsz_g_2))) hZ (ow hw 32 rfl) (ow hw 3 rfl) (by decide) (by decide)) q_4a q_4c (g := (mkF mM 57 (lc80 p1 p2 k1 k2 nd fl b_1) [(.int nd), (.long k1), (.ref b_1)])) rfl (by rw [hml]; rfl) (Steps.refl _) (argsL := [(.long k1), (.int nd)]) (rest := []) (lenOf pd_2 rfl) rfl (by show 2 * 0 + _ ≤ _; exact Nat.le_of_eq rfl) (hb hby at_57) (fun _ _ => ⟨rfl, eh_3, (by decide : 3 + 0 ≤ _), (by decide : 35 + 0 ≤ _)⟩)
  dsimp only [Pt.U, Pt.locs, Pt.cells, Pt.slots] at X_4 l_4 y_4 z_4 st_4 hQ_4
  subst l_4 y_4 z_4
  obtain ⟨u0__4, ⟨u1__4, ⟨u2__4, ⟨u3__4, ⟨v0__4, ⟨v1__4, ⟨v2__4, ⟨v3__4, ⟨rfl, N_4q, Kc_4, pfF_size_a_4, pfF_keys_a_4, pfF_nodes_a_4, pfE_a_4, pfV_d_4, pfV_g_4⟩⟩⟩⟩⟩⟩⟩⟩⟩ := hQ_4
  have Z_4 : n0 ≤ T_4.heap.size := (Nat.le_trans Z_2 Kc_4.1)
  have K_4 : Keep h0 T_4.heap [] := K_2.trans Kc_4 (allS (Or.inr sz_b_1) (allS (Or.inr sz_d__2) (allS (Or.inr sz_g__2) all0)))
  have N_4 := Fr.app N_3 N_4q
  obtain ⟨cq_5, kq_5, q_5a, q_5b, q_5c⟩ := isOf hZ rfl pfE_a_4
  obtain ⟨_, _, ⟨T_5, L_5, k_5, n_5⟩, -, X_5, ⟨Lc_5, hQ_5, l_5, y_5, z_5⟩, st_5⟩ := X_4.virtualBack hx (y := MN2) (z := MN2) hown (mvT hZ (ow hw 28 rfl)) (mvT hZ (ow hw 29 rfl)) (notFace_of_selects (args := #[]) (mvT hZ (ow hw 31 rfl))) (mvT hZ (ow hw 31 rfl)) (mvT hZ (ow hw 30 rfl)) (by decide) (backOf (W := 0) (rm_add1 l Z a0 hw [] b_1 d__2 g__2 kd__2 kg__2 k2 (nd + (1 : Int32)) u0__4 u1__4 u2__4 u3__4 v0__4 v1__4 v2__4 v3__4 T_4.heap n0 Z_4 pfF_size_a_4 pfF_keys_a_4 pfF_nodes_a_4 pfE_a_4 g_b_1 g_d__2 g_g__2 pfV_d_4 pfV_g_4 pfndg_2 (Nat.ne_of_lt (Nat.lt_of_lt_of_le A_1.lt pfsz_d_2)) (Nat.ne_of_lt (Nat.lt_of_lt_of_le A_1.lt pfsz_g_2))) hZ (ow hw 32 rfl) (ow hw 3 rfl) (by decide) (by decide)) q_5a q_5c (g := (mkF mM 74 (lc80 p1 p2 k1 k2 nd fl b_1) [(.int (nd + (1 : Int32))), (.long k2), (.ref b_1)])) rfl (by rw [hml]; rfl) (Steps.refl _) (argsL := [(.long k2), (.int (nd + (1 : Int32)))]) (rest := []) (lenOf pd_2 rfl) rfl (by show 2 * 0 + _ ≤ _; exact Nat.le_of_eq rfl) (hb hby at_74) (fun _ _ => ⟨rfl, rfl, (by decide : 3 + 0 ≤ _), (by decide : 35 + 0 ≤ _)⟩)
  dsimp only [Pt.U, Pt.locs, Pt.cells, Pt.slots] at X_5 l_5 y_5 z_5 st_5 hQ_5
  subst l_5 y_5 z_5
  obtain ⟨u0__5, ⟨u1__5, ⟨u2__5, ⟨u3__5, ⟨v0__5, ⟨v1__5, ⟨v2__5, ⟨v3__5, ⟨rfl, N_5q, Kc_5, pfF_size_a_5, pfF_keys_a_5, pfF_nodes_a_5, pfE_a_5, pfV_d_5, pfV_g_5⟩⟩⟩⟩⟩⟩⟩⟩⟩ := hQ_5
  have Z_5 : n0 ≤ T_5.heap.size := (Nat.le_trans Z_4 Kc_5.1)
  have K_5 : Keep h0 T_5.heap [] := K_4.trans Kc_5 (allS (Or.inr sz_b_1) (allS (Or.inr sz_d__2) (allS (Or.inr sz_g__2) all0)))
  have N_5 := Fr.app N_4 N_5q
  obtain ⟨cq_6, kq_6, q_6a, q_6b, q_6c⟩ := isOf hZ rfl pfE_a_5
  obtain ⟨_, _, ⟨T_6, L_6, k_6, n_6⟩, -, X_6, ⟨Lc_6, hQ_6, l_6, y_6, z_6⟩, st_6⟩ := X_5.virtualBack hx (y := MN2) (z := MN2) hown (mvT hZ (ow hw 28 rfl)) (mvT hZ (ow hw 29 rfl)) (notFace_of_selects (args := #[]) (mvT hZ (ow hw 31 rfl))) (mvT hZ (ow hw 31 rfl)) (mvT hZ (ow hw 30 rfl)) (by decide) (backOf (W := 0) (rm_add2 l Z a0 hw [] b_1 d__2 g__2 kd__2 kg__2 (k1 ^^^ k2) (nd ^^^ (-1 : Int32)) u0__5 u1__5 u2__5 u3__5 v0__5 v1__5 v2__5 v3__5 T_5.heap n0 Z_5 pfF_size_a_5 pfF_keys_a_5 pfF_nodes_a_5 pfE_a_5 g_b_1 g_d__2 g_g__2 pfV_d_5 pfV_g_5 pfndg_2 (Nat.ne_of_lt (Nat.lt_of_lt_of_le A_1.lt pfsz_d_2)) (Nat.ne_of_lt (Nat.lt_of_lt_of_le A_1.lt pfsz_g_2))) hZ (ow hw 32 rfl) (ow hw 3 rfl) (by decide) (by decide)) q_6a q_6c (g := (mkF mM 93 (lc80 p1 p2 k1 k2 nd fl b_1) [(.int (nd ^^^ (-1 : Int32))), (.long (k1 ^^^ k2)), (.ref b_1)])) rfl (by rw [hml]; rfl) (Steps.refl _) (argsL := [(.long (k1 ^^^ k2)), (.int (nd ^^^ (-1 : Int32)))]) (rest := []) (lenOf pd_2 rfl) rfl (by show 2 * 0 + _ ≤ _; exact Nat.le_of_eq rfl) (hb hby at_93) (fun _ _ => ⟨rfl, rfl, (by decide : 3 + 0 ≤ _), (by decide : 35 + 0 ≤ _)⟩)
  dsimp only [Pt.U, Pt.locs, Pt.cells, Pt.slots] at X_6 l_6 y_6 z_6 st_6 hQ_6
  subst l_6 y_6 z_6
  obtain ⟨u0__6, ⟨u1__6, ⟨u2__6, ⟨u3__6, ⟨v0__6, ⟨v1__6, ⟨v2__6, ⟨v3__6, ⟨rfl, N_6q, Kc_6, pfF_size_a_6, pfF_keys_a_6, pfF_nodes_a_6, pfE_a_6, pfV_d_6, pfV_g_6⟩⟩⟩⟩⟩⟩⟩⟩⟩ := hQ_6
  have Z_6 : n0 ≤ T_6.heap.size := (Nat.le_trans Z_5 Kc_6.1)
  have K_6 : Keep h0 T_6.heap [] := K_5.trans Kc_6 (allS (Or.inr sz_b_1) (allS (Or.inr sz_d__2) (allS (Or.inr sz_g__2) all0)))
  have N_6 := Fr.app N_5 N_6q
  obtain ⟨T_7, h_7, L_7, X_7, e_7, N_7, Kc_7, st_7⟩ := pc_tail3 p1 p2 k1 k2 nd fl (3 : Int32) (0 : Int32) (0 : Int32) b_1 d__2 g__2 kd__2 kg__2 u0__6 u1__6 u2__6 u3__6 v0__6 v1__6 v2__6 v3__6 X_6 hx hZ hw hby hml hown rfl N_6 Z_6 pfF_size_a_6 pfF_keys_a_6 pfF_nodes_a_6 pfE_a_6 g_b_1 g_d__2 g_g__2 pfV_d_6 pfV_g_6 pfndg_2 (Nat.ne_of_lt (Nat.lt_of_lt_of_le A_1.lt pfsz_d_2)) (Nat.ne_of_lt (Nat.lt_of_lt_of_le A_1.lt pfsz_g_2))
  have Z_7 : n0 ≤ h_7.size := (Nat.le_trans Z_6 Kc_7.1)
  have K_7 : Keep h0 h_7 [] := K_6.trans Kc_7 (allS (Or.inr sz_b_1) (allS (Or.inr sz_d__2) (allS (Or.inr sz_g__2) all0)))
  obtain ⟨fs, hr, hrun, hended, hW, hsame⟩ := X_7.leave (v := some (.int (1 : Int32))) (fun h => by rw [Bd.returns] at h; cases h)
  refine ⟨_, _, pre0 _ ?_, hrun, hended, _, _, rfl, ?_, ⟨_, rfl⟩, hW, hsame.mono (by decide) (by decide)⟩
  · show oS pP eE below s₁ (mkF mM 0 (lc6 p1 p2 k1 k2 nd fl) []) _
    refine XS.iloadN X0.here hx rfl (hb hby at_0) rfl ?_
    refine XS.iconst X0.here hx rfl (hb hby at_1) ?_
    show oS pP eE below s₁ (mkF mM 2 (lc6 p1 p2 k1 k2 nd fl) [(.int (3 : Int32)), (.int p1)]) _
    refine XS.iand X0.here hx rfl (hb hby at_2) rfl ?_
    show oS pP eE below s₁ (mkF mM 3 (lc6 p1 p2 k1 k2 nd fl) [(.int (p1 &&& (3 : Int32)))]) _
    rw [hn]
    refine XS.istore X0.here hx rfl (hb hby at_3) rfl (l' := (lc76 p1 p2 k1 k2 nd fl)) rfl ?_
    refine XS.iloadN X0.here hx rfl (hb hby at_5) rfl ?_
    show oS pP eE below s₁ (mkF mM 6 (lc76 p1 p2 k1 k2 nd fl) [(.int p2)]) _
    refine X0.ldcI hx hown (mvT hZ (ow hw 0 rfl)) (g := (mkF mM 6 (lc76 p1 p2 k1 k2 nd fl) [(.int p2)])) rfl (hb hby at_6) ?_
    show oS pP eE below s₁ (mkF mM 8 (lc76 p1 p2 k1 k2 nd fl) [(.int (2147483647 : Int32)), (.int p2)]) _
    refine XS.iand X0.here hx rfl (hb hby at_8) rfl ?_
    refine XS.iload X0.here hx rfl (hb hby at_9) rfl ?_
    refine XS.iconst X0.here hx rfl (hb hby at_11) ?_
    show oS pP eE below s₁ (mkF mM 12 (lc76 p1 p2 k1 k2 nd fl) [(.int (1 : Int32)), (.int (3 : Int32)), (.int (p2 &&& (2147483647 : Int32)))]) _
    refine XS.iadd X0.here hx rfl (hb hby at_12) rfl ?_
    show oS pP eE below s₁ (mkF mM 13 (lc76 p1 p2 k1 k2 nd fl) [(.int ((3 : Int32) + (1 : Int32))), (.int (p2 &&& (2147483647 : Int32)))]) _
    rw [(by decide : ((3 : Int32) + (1 : Int32)) = (4 : Int32))]
    show oS pP eE below s₁ (mkF mM 13 (lc76 p1 p2 k1 k2 nd fl) [(.int (4 : Int32)), (.int (p2 &&& (2147483647 : Int32)))]) _
    refine iremM X0 hx rfl (hb hby at_13) rfl (by decide) ?_
    show oS pP eE below s₁ (mkF mM 14 (lc76 p1 p2 k1 k2 nd fl) [(.int ((p2 &&& (2147483647 : Int32)) % (4 : Int32)))]) _
    rw [ht]
    refine XS.istore X0.here hx rfl (hb hby at_14) rfl (l' := (lc77 p1 p2 k1 k2 nd fl)) rfl ?_
    refine XS.iload X0.here hx rfl (hb hby at_16) rfl ?_
    refine XS.iconst X0.here hx rfl (hb hby at_18) ?_
    show oS pP eE below s₁ (mkF mM 19 (lc77 p1 p2 k1 k2 nd fl) [(.int (1 : Int32)), (.int fl)]) _
    refine XS.iand X0.here hx rfl (hb hby at_19) rfl ?_
    refine XS.ifYes X0.here hx rfl (pc0 := 20) (pc' := 27) rfl (hb hby at_20) rfl (XT.i0_eq_t hc) (by decide) (by decide) ?_
    refine XS.iconst X0.here hx rfl (hb hby at_27) ?_
    refine XS.istore X0.here hx rfl (hb hby at_28) rfl (l' := (lc78 p1 p2 k1 k2 nd fl)) rfl ?_
    show oS pP eE below s₁ (mkF mM 30 (lc78 p1 p2 k1 k2 nd fl) []) _
    refine st_1 _ ?_
    show oS pP eE below T_1 (mkF mM 33 (lc78 p1 p2 k1 k2 nd fl) [(.ref b_1)]) _
    refine XS.dup X_1.here hx rfl (hb hby at_33) rfl rfl ?_
    show oS pP eE below T_1 (mkF mM 34 (lc78 p1 p2 k1 k2 nd fl) [(.ref b_1), (.ref b_1)]) _
    refine st_2.trans ?_
    show oS pP eE below T_2 (mkF mM 37 (lc78 p1 p2 k1 k2 nd fl) [(.ref b_1)]) _
    refine XS.astore X_2.here hx rfl (hb hby at_37) rfl rfl (l' := (lc79 p1 p2 k1 k2 nd fl b_1)) rfl ?_
    refine XS.aload X_2.here hx rfl (hb hby at_39) rfl rfl ?_
    show oS pP eE below T_2 (mkF mM 41 (lc79 p1 p2 k1 k2 nd fl b_1) [(.ref b_1)]) _
    refine st_3.trans ?_
    show oS pP eE below T_3 (mkF mM 44 (lc79 p1 p2 k1 k2 nd fl b_1) [(.int (1 : Int32))]) _
    refine XS.istore X_3.here hx rfl (hb hby at_44) rfl (l' := (lc80 p1 p2 k1 k2 nd fl b_1)) rfl ?_
    refine XS.iload X_3.here hx rfl (hb hby at_46) rfl ?_
    refine XS.iconst X_3.here hx rfl (hb hby at_48) ?_
    refine XS.icmpNo X_3.here hx rfl (hb hby at_49) rfl (by decide) ?_
    refine XS.aload X_3.here hx rfl (hb hby at_52) rfl rfl ?_
    refine XT.lloadN X_3.here hx rfl (hb hby at_54) rfl ?_
    refine XS.iload X_3.here hx rfl (hb hby at_55) rfl ?_
    show oS pP eE below T_3 (mkF mM 57 (lc80 p1 p2 k1 k2 nd fl b_1) [(.int nd), (.long k1), (.ref b_1)]) _
    refine st_4.trans ?_
    show oS pP eE below T_4 (mkF mM 60 (lc80 p1 p2 k1 k2 nd fl b_1) []) _
    refine XS.iload X_4.here hx rfl (hb hby at_60) rfl ?_
    refine XS.iconst X_4.here hx rfl (hb hby at_62) ?_
    refine XS.icmpNo X_4.here hx rfl (hb hby at_63) rfl (by decide) ?_
    refine XS.aload X_4.here hx rfl (hb hby at_66) rfl rfl ?_
    refine XT.lload X_4.here hx rfl (hb hby at_68) rfl ?_
    refine XS.iload X_4.here hx rfl (hb hby at_70) rfl ?_
    refine XS.iconst X_4.here hx rfl (hb hby at_72) ?_
    show oS pP eE below T_4 (mkF mM 73 (lc80 p1 p2 k1 k2 nd fl b_1) [(.int (1 : Int32)), (.int nd), (.long k2), (.ref b_1)]) _
    refine XS.iadd X_4.here hx rfl (hb hby at_73) rfl ?_
    show oS pP eE below T_4 (mkF mM 74 (lc80 p1 p2 k1 k2 nd fl b_1) [(.int (nd + (1 : Int32))), (.long k2), (.ref b_1)]) _
    refine st_5.trans ?_
    show oS pP eE below T_5 (mkF mM 77 (lc80 p1 p2 k1 k2 nd fl b_1) []) _
    refine XS.iload X_5.here hx rfl (hb hby at_77) rfl ?_
    refine XS.iconst X_5.here hx rfl (hb hby at_79) ?_
    refine XS.icmpNo X_5.here hx rfl (hb hby at_80) rfl (by decide) ?_
    refine XS.aload X_5.here hx rfl (hb hby at_83) rfl rfl ?_
    refine XT.lloadN X_5.here hx rfl (hb hby at_85) rfl ?_
    refine XT.lload X_5.here hx rfl (hb hby at_86) rfl ?_
    show oS pP eE below T_5 (mkF mM 88 (lc80 p1 p2 k1 k2 nd fl b_1) [(.long k2), (.long k1), (.ref b_1)]) _
    refine XT.lxor X_5.here hx rfl (hb hby at_88) rfl ?_
    refine XS.iload X_5.here hx rfl (hb hby at_89) rfl ?_
    refine XS.iconst X_5.here hx rfl (hb hby at_91) ?_
    show oS pP eE below T_5 (mkF mM 92 (lc80 p1 p2 k1 k2 nd fl b_1) [(.int (-1 : Int32)), (.int nd), (.long (k1 ^^^ k2)), (.ref b_1)]) _
    refine XT.ixor X_5.here hx rfl (hb hby at_92) rfl ?_
    show oS pP eE below T_5 (mkF mM 93 (lc80 p1 p2 k1 k2 nd fl b_1) [(.int (nd ^^^ (-1 : Int32))), (.long (k1 ^^^ k2)), (.ref b_1)]) _
    refine st_6.trans ?_
    show oS pP eE below T_6 (mkF mM 96 (lc80 p1 p2 k1 k2 nd fl b_1) []) _
    refine XS.iload X_6.here hx rfl (hb hby at_96) rfl ?_
    refine XS.iconst X_6.here hx rfl (hb hby at_98) ?_
    refine XS.icmpYes X_6.here hx rfl (pc0 := 99) (pc' := 108) rfl (hb hby at_99) rfl (by decide) (by decide) (by decide) ?_
    refine XS.iload X_6.here hx rfl (hb hby at_108) rfl ?_
    refine XS.iconst X_6.here hx rfl (hb hby at_110) ?_
    refine XS.icmpYes X_6.here hx rfl (pc0 := 111) (pc' := 120) rfl (hb hby at_111) rfl (by decide) (by decide) (by decide) ?_
    refine XS.iload X_6.here hx rfl (hb hby at_120) rfl ?_
    refine XS.iconst X_6.here hx rfl (hb hby at_122) ?_
    show oS pP eE below T_6 (mkF mM 123 (lc80 p1 p2 k1 k2 nd fl b_1) [(.int (3 : Int32)), (.int (0 : Int32))]) _
    refine XS.icmpYes X_6.here hx rfl (pc0 := 123) (pc' := 132) rfl (hb hby at_123) rfl (by decide) (by decide) (by decide) ?_
    refine XS.iload X_6.here hx rfl (hb hby at_132) rfl ?_
    refine XS.ifYes X_6.here hx rfl (pc0 := 134) (pc' := 142) rfl (hb hby at_134) rfl (by decide) (by decide) (by decide) ?_
    refine XS.iload X_6.here hx rfl (hb hby at_142) rfl ?_
    refine XS.ifNo X_6.here hx rfl (hb hby at_144) rfl (by decide) ?_
    refine XS.iload X_6.here hx rfl (hb hby at_147) rfl ?_
    refine XS.iload X_6.here hx rfl (hb hby at_149) rfl ?_
    show oS pP eE below T_6 (mkF mM 151 (lc80 p1 p2 k1 k2 nd fl b_1) [(.int (0 : Int32)), (.int (3 : Int32))]) _
    refine XS.isub X_6.here hx rfl (hb hby at_151) rfl ?_
    show oS pP eE below T_6 (mkF mM 152 (lc80 p1 p2 k1 k2 nd fl b_1) [(.int ((3 : Int32) - (0 : Int32)))]) _
    rw [(by decide : ((3 : Int32) - (0 : Int32)) = (3 : Int32))]
    refine XS.ifYes X_6.here hx rfl (pc0 := 152) (pc' := 159) rfl (hb hby at_152) rfl (by decide) (by decide) (by decide) ?_
    refine XS.iconst X_6.here hx rfl (hb hby at_159) ?_
    refine XS.istore X_6.here hx rfl (hb hby at_160) rfl (l' := (lc81 p1 p2 k1 k2 nd fl b_1)) rfl ?_
    show oS pP eE below T_6 (mkF mM 162 (lc81 p1 p2 k1 k2 nd fl b_1) []) _
    refine st_7 _ ?_
    show oS pP eE below T_7 (mkF mM 207 (lc82 p1 p2 k1 k2 nd fl b_1) [(.int (1 : Int32))]) _
    exact retN X_7 hx (t := .boolean) Bd.returns (by simp) (hb hby at_207) hr
  · show Q_law300 Z p1 p2 k1 k2 nd fl h0 n0 _ T_7.heap _
    exact ⟨rfl, N_7⟩
abbrev lc83 (p1 : Int32) (p2 : Int32) (k1 : Int64) (k2 : Int64) (nd : Int32) (fl : Int32) : Array Slot := #[.val (.int p1), .val (.int p2), .val (.long k1), .second, .val (.long k2), .second, .val (.int nd), .val (.int fl), .val (.int (3 : Int32)), .val (.int (0 : Int32)), .val (.int (1 : Int32)), .unset, .unset, .unset, .unset, .unset]
abbrev lc84 (p1 : Int32) (p2 : Int32) (k1 : Int64) (k2 : Int64) (nd : Int32) (fl : Int32) (b_1 : Addr) : Array Slot := #[.val (.int p1), .val (.int p2), .val (.long k1), .second, .val (.long k2), .second, .val (.int nd), .val (.int fl), .val (.int (3 : Int32)), .val (.int (0 : Int32)), .val (.int (1 : Int32)), .val (.ref b_1), .unset, .unset, .unset, .unset]
abbrev lc85 (p1 : Int32) (p2 : Int32) (k1 : Int64) (k2 : Int64) (nd : Int32) (fl : Int32) (b_1 : Addr) : Array Slot := #[.val (.int p1), .val (.int p2), .val (.long k1), .second, .val (.long k2), .second, .val (.int nd), .val (.int fl), .val (.int (3 : Int32)), .val (.int (0 : Int32)), .val (.int (1 : Int32)), .val (.ref b_1), .val (.int (1 : Int32)), .unset, .unset, .unset]
abbrev lc86 (p1 : Int32) (p2 : Int32) (k1 : Int64) (k2 : Int64) (nd : Int32) (fl : Int32) (b_1 : Addr) : Array Slot := #[.val (.int p1), .val (.int p2), .val (.long k1), .second, .val (.long k2), .second, .val (.int nd), .val (.int fl), .val (.int (3 : Int32)), .val (.int (0 : Int32)), .val (.int (1 : Int32)), .val (.ref b_1), .val (.int (1 : Int32)), .val (.int (1 : Int32)), .unset, .unset]
abbrev lc87 (p1 : Int32) (p2 : Int32) (k1 : Int64) (k2 : Int64) (nd : Int32) (fl : Int32) (b_1 : Addr) : Array Slot := #[.val (.int p1), .val (.int p2), .val (.long k1), .second, .val (.long k2), .second, .val (.int nd), .val (.int fl), .val (.int (3 : Int32)), .val (.int (0 : Int32)), .val (.int (1 : Int32)), .val (.ref b_1), .val (.int (1 : Int32)), .val (.int (1 : Int32)), .val (.int (1 : Int32)), .val (.int (0 : Int32))]
theorem ef_law301 (mM : MethodId) (x0 : Int32) (x1 : Int32) (x2 : Int64) (x3 : Int64) (x4 : Int32) (x5 : Int32) : entryFrame mM #[(.int x0), (.int x1), (.long x2), (.long x3), (.int x4), (.int x5)] maxLocals = mkF mM 0 #[.val (.int x0), .val (.int x1), .val (.long x2), .second, .val (.long x3), .second, .val (.int x4), .val (.int x5), .unset, .unset, .unset, .unset, .unset, .unset, .unset, .unset] [] := by first | (simp [entryFrame, mkF, argsToLocals, Value.category, maxLocals]; done) | rfl
def Q_law301 (Z : State) (p1 : Int32) (p2 : Int32) (k1 : Int64) (k2 : Int64) (nd : Int32) (fl : Int32) (h0 : Heap) (n0 : Nat) (v_ : Option Value) (h_ : Heap) (L_ : List Loc) : Prop := v_ = some (.int (1 : Int32)) ∧ Fr n0 L_
set_option maxRecDepth 65536 in
set_option maxHeartbeats 40000000 in
theorem rm_law301 (l : Launch) (Z : State) (a0 : Array Value) (hw : ∀ d ∈ tables_1, d.before a0 Z = true) (ws : List Jvm.Cond) (p1 : Int32) (p2 : Int32) (k1 : Int64) (k2 : Int64) (nd : Int32) (fl : Int32) (h0 : Heap) (n0 : Nat) (Z0 : n0 ≤ h0.size) (hn : (p1 &&& (3 : Int32)) = (3 : Int32)) (ht : ((p2 &&& (2147483647 : Int32)) % (4 : Int32)) = (0 : Int32)) (hc : ¬ (fl &&& (1 : Int32)) = 0) :
    MetFree l x (head1 (Jvm.Cond.code x code maxLocals ret :: ws) room_1) (fun aa_ U_ => aa_ = #[(.int p1), (.int p2), (.long k1), (.long k2), (.int nd), (.int fl)] ∧ Z.Warmed39 U_.vm ∧ U_.heap = h0) (fun _ _ _ _ _ => True) (fun _ U_ o_ U'_ => ∃ v_ L_, o_ = .returned v_ ∧ Q_law301 Z p1 p2 k1 k2 nd fl h0 n0 v_ U'_.heap L_ ∧ FrameEnd U_ o_ U'_ L_ 3 35) := by
  refine MetFree.of_bodySF (plainFor_of_name pn_1) hisR ?_
  intro pP eE sS mM argsA below meth cC s₁ Bd hml0 hP hK
  obtain ⟨rfl, hZ, hh⟩ := hP
  have hx := Bd.exec
  have hby := Bd.bytes
  have hml : cC.maxLocals = 16 := hml0
  have hown : sS.vm.findClass "com/example/greenweft/greenweft/steiner/NodeHeapIsEmptyPinLaw" = some mM.cls := findClass_of_methodNamed Bd.named
  have hnm := (name_of_methodNamed Bd.named Bd.method).1
  have X0 : Stand pP l eE room_1 sS mM #[(.int p1), (.int p2), (.long k1), (.long k2), (.int nd), (.int fl)] below meth cC s₁ [] 0 0 := Stand.of_body Bd
  have e0 : s₁.heap = h0 := by rw [← hh, Bd.state]; rfl
  have N0 := Fr.nil n0
  have pre0 : ∀ t_, Steps pP.tables eE below (s₁.setTop (mkF mM 0 #[.val (.int p1), .val (.int p2), .val (.long k1), .second, .val (.long k2), .second, .val (.int nd), .val (.int fl), .unset, .unset, .unset, .unset, .unset, .unset, .unset, .unset] [])) t_ → Steps pP.tables eE below (s₁.setTop (entryFrame mM #[(.int p1), (.int p2), (.long k1), (.long k2), (.int nd), (.int fl)] maxLocals)) t_ := fun t_ k_ => castTop (ef_law301 mM p1 p2 k1 k2 nd fl) k_
  obtain ⟨T_1, h_1, X_1, e_1, E_1, A_1, D_1, -, st_1⟩ := newO X0 hx hZ hown (ow hw 1 rfl) (ow hw 2 rfl) (ow hw 3 rfl) e0 (g := (mkF mM 30 (lc83 p1 p2 k1 k2 nd fl) [])) rfl (hb hby at_30) (by decide) (by decide)
  obtain ⟨b_1, g_1⟩ : ∃ z, z = h0.size := ⟨_, rfl⟩
  rw [← g_1] at A_1 D_1 st_1
  have g_b_1 : n0 ≤ b_1 := Nat.le_trans Z0 (Nat.le_of_eq g_1.symm)
  have sz_b_1 : h0.size ≤ b_1 := Nat.le_trans (Keep.refl h0 []).1 (Nat.le_of_eq g_1.symm)
  have Z_1 : n0 ≤ h_1.size := (Nat.le_trans Z0 E_1.1)
  have K_1 : Keep h0 h_1 [] := (Keep.refl h0 []).ext E_1
  have F_keys_b_1__1 : Fld Z h_1 b_1 "com/example/greenweft/greenweft/steiner/NodeHeap" "keys" "[J" .null := D_1 (Or.inl (ow hw 12 rfl)) (ty := (.array .long)) (by decide)
  have F_nodes_b_1__1 : Fld Z h_1 b_1 "com/example/greenweft/greenweft/steiner/NodeHeap" "nodes" "[I" .null := D_1 (Or.inl (ow hw 15 rfl)) (ty := (.array .int)) (by decide)
  have F_size_b_1__1 : Fld Z h_1 b_1 "com/example/greenweft/greenweft/steiner/NodeHeap" "size" "I" (.int (0 : Int32)) := D_1 (Or.inl (ow hw 22 rfl)) (ty := .int) (by decide)
  obtain ⟨_, _, ⟨T_2, L_2, k_2, n_2⟩, -, X_2, ⟨Lc_2, hQ_2, l_2, y_2, z_2⟩, st_2⟩ := X_1.specialBack hx (y := MN3) rfl hown (mvT hZ (ow hw 4 rfl)) (mvT hZ (ow hw 5 rfl)) (mvT hZ (ow hw 6 rfl)) (by decide) (backOf (W := 1) (rm_init l Z a0 hw [] b_1 h_1 n0 Z_1 F_keys_b_1__1 F_nodes_b_1__1 F_size_b_1__1 A_1 g_b_1) hZ (ow hw 6 rfl) (ow hw 3 rfl) (by decide) (by decide)) (g := (mkF mM 34 (lc83 p1 p2 k1 k2 nd fl) [(.ref b_1), (.ref b_1)])) rfl (by rw [hml]; rfl) (Steps.refl _) (a := b_1) (argsL := []) (rest := [(.ref b_1)]) (lenOf pd_3 rfl) rfl (by show 2 * 0 + _ ≤ _; exact Nat.le_of_eq rfl) (hb hby at_34) (fun _ _ => ⟨rfl, e_1, (by decide : 1 + 2 ≤ _), (by decide : 3 + 32 ≤ _)⟩)
  dsimp only [Pt.U, Pt.locs, Pt.cells, Pt.slots] at X_2 l_2 y_2 z_2 st_2 hQ_2
  subst l_2 y_2 z_2
  obtain ⟨d__2, ⟨g__2, ⟨kd__2, ⟨kg__2, ⟨rfl, N_2q, Kc_2, pfsz_d_2, pfsz_g_2, pfndg_2, pfE_a_2, pfF_keys_a_2, pfF_nodes_a_2, pfF_size_a_2, pfV_d_2, pfV_g_2⟩⟩⟩⟩⟩ := hQ_2
  have Z_2 : n0 ≤ T_2.heap.size := (Nat.le_trans Z_1 Kc_2.1)
  have K_2 : Keep h0 T_2.heap [] := K_1.trans Kc_2 (allS (Or.inr sz_b_1) all0)
  have sz_d__2 : h0.size ≤ d__2 := Nat.le_trans K_1.1 pfsz_d_2
  have g_d__2 : n0 ≤ d__2 := Nat.le_trans Z_1 pfsz_d_2
  have sz_g__2 : h0.size ≤ g__2 := Nat.le_trans K_1.1 pfsz_g_2
  have g_g__2 : n0 ≤ g__2 := Nat.le_trans Z_1 pfsz_g_2
  have N_2 := Fr.app N0 N_2q
  obtain ⟨cq_3, kq_3, q_3a, q_3b, q_3c⟩ := isOf hZ rfl pfE_a_2
  obtain ⟨_, _, ⟨T_3, L_3, k_3, n_3⟩, -, X_3, ⟨Lc_3, hQ_3, l_3, y_3, z_3⟩, st_3⟩ := X_2.virtualBack hx (y := MN1) (z := MN1) hown (mvT hZ (ow hw 16 rfl)) (mvT hZ (ow hw 17 rfl)) (notFace_of_selects (args := #[]) (mvT hZ (ow hw 19 rfl))) (mvT hZ (ow hw 19 rfl)) (mvT hZ (ow hw 18 rfl)) (by decide) (backOf (W := 0) (rm_ie0 l Z a0 hw [] b_1 T_2.heap n0 Z_2 pfF_size_a_2) hZ (ow hw 20 rfl) (ow hw 3 rfl) (by decide) (by decide)) q_3a q_3c (g := (mkF mM 41 (lc84 p1 p2 k1 k2 nd fl b_1) [(.ref b_1)])) rfl (by rw [hml]; rfl) (Steps.refl _) (argsL := []) (rest := []) (lenOf pd_1 rfl) rfl (by show 2 * 0 + _ ≤ _; exact Nat.le_of_eq rfl) (hb hby at_41) (fun _ _ => ⟨rfl, rfl, (by decide : 3 + 0 ≤ _), (by decide : 35 + 0 ≤ _)⟩)
  dsimp only [Pt.U, Pt.locs, Pt.cells, Pt.slots] at X_3 l_3 y_3 z_3 st_3 hQ_3
  subst l_3 y_3 z_3
  obtain ⟨rfl, N_3q, eh_3⟩ := hQ_3
  have N_3 := Fr.app N_2 N_3q
  obtain ⟨cq_4, kq_4, q_4a, q_4b, q_4c⟩ := isOf hZ eh_3 pfE_a_2
  obtain ⟨_, _, ⟨T_4, L_4, k_4, n_4⟩, -, X_4, ⟨Lc_4, hQ_4, l_4, y_4, z_4⟩, st_4⟩ := X_3.virtualBack hx (y := MN2) (z := MN2) hown (mvT hZ (ow hw 28 rfl)) (mvT hZ (ow hw 29 rfl)) (notFace_of_selects (args := #[]) (mvT hZ (ow hw 31 rfl))) (mvT hZ (ow hw 31 rfl)) (mvT hZ (ow hw 30 rfl)) (by decide) (backOf (W := 0) (rm_add0 l Z a0 hw [] b_1 d__2 g__2 kd__2 kg__2 k1 nd (0 : Int64) (0 : Int64) (0 : Int64) (0 : Int64) (0 : Int32) (0 : Int32) (0 : Int32) (0 : Int32) T_2.heap n0 Z_2 pfF_size_a_2 pfF_keys_a_2 pfF_nodes_a_2 pfE_a_2 g_b_1 g_d__2 g_g__2 pfV_d_2 pfV_g_2 pfndg_2 (Nat.ne_of_lt (Nat.lt_of_lt_of_le A_1.lt pfsz_d_2)) (Nat.ne_of_lt (Nat.lt_of_lt_of_le A_1.lt pfsz_g_2))) hZ (ow hw 32 rfl) (ow hw 3 rfl) (by decide) (by decide)) q_4a q_4c (g := (mkF mM 57 (lc85 p1 p2 k1 k2 nd fl b_1) [(.int nd), (.long k1), (.ref b_1)])) rfl (by rw [hml]; rfl) (Steps.refl _) (argsL := [(.long k1), (.int nd)]) (rest := []) (lenOf pd_2 rfl) rfl (by show 2 * 0 + _ ≤ _; exact Nat.le_of_eq rfl) (hb hby at_57) (fun _ _ => ⟨rfl, eh_3, (by decide : 3 + 0 ≤ _), (by decide : 35 + 0 ≤ _)⟩)
  dsimp only [Pt.U, Pt.locs, Pt.cells, Pt.slots] at X_4 l_4 y_4 z_4 st_4 hQ_4
  subst l_4 y_4 z_4
  obtain ⟨u0__4, ⟨u1__4, ⟨u2__4, ⟨u3__4, ⟨v0__4, ⟨v1__4, ⟨v2__4, ⟨v3__4, ⟨rfl, N_4q, Kc_4, pfF_size_a_4, pfF_keys_a_4, pfF_nodes_a_4, pfE_a_4, pfV_d_4, pfV_g_4⟩⟩⟩⟩⟩⟩⟩⟩⟩ := hQ_4
  have Z_4 : n0 ≤ T_4.heap.size := (Nat.le_trans Z_2 Kc_4.1)
  have K_4 : Keep h0 T_4.heap [] := K_2.trans Kc_4 (allS (Or.inr sz_b_1) (allS (Or.inr sz_d__2) (allS (Or.inr sz_g__2) all0)))
  have N_4 := Fr.app N_3 N_4q
  obtain ⟨cq_5, kq_5, q_5a, q_5b, q_5c⟩ := isOf hZ rfl pfE_a_4
  obtain ⟨_, _, ⟨T_5, L_5, k_5, n_5⟩, -, X_5, ⟨Lc_5, hQ_5, l_5, y_5, z_5⟩, st_5⟩ := X_4.virtualBack hx (y := MN2) (z := MN2) hown (mvT hZ (ow hw 28 rfl)) (mvT hZ (ow hw 29 rfl)) (notFace_of_selects (args := #[]) (mvT hZ (ow hw 31 rfl))) (mvT hZ (ow hw 31 rfl)) (mvT hZ (ow hw 30 rfl)) (by decide) (backOf (W := 0) (rm_add1 l Z a0 hw [] b_1 d__2 g__2 kd__2 kg__2 k2 (nd + (1 : Int32)) u0__4 u1__4 u2__4 u3__4 v0__4 v1__4 v2__4 v3__4 T_4.heap n0 Z_4 pfF_size_a_4 pfF_keys_a_4 pfF_nodes_a_4 pfE_a_4 g_b_1 g_d__2 g_g__2 pfV_d_4 pfV_g_4 pfndg_2 (Nat.ne_of_lt (Nat.lt_of_lt_of_le A_1.lt pfsz_d_2)) (Nat.ne_of_lt (Nat.lt_of_lt_of_le A_1.lt pfsz_g_2))) hZ (ow hw 32 rfl) (ow hw 3 rfl) (by decide) (by decide)) q_5a q_5c (g := (mkF mM 74 (lc85 p1 p2 k1 k2 nd fl b_1) [(.int (nd + (1 : Int32))), (.long k2), (.ref b_1)])) rfl (by rw [hml]; rfl) (Steps.refl _) (argsL := [(.long k2), (.int (nd + (1 : Int32)))]) (rest := []) (lenOf pd_2 rfl) rfl (by show 2 * 0 + _ ≤ _; exact Nat.le_of_eq rfl) (hb hby at_74) (fun _ _ => ⟨rfl, rfl, (by decide : 3 + 0 ≤ _), (by decide : 35 + 0 ≤ _)⟩)
  dsimp only [Pt.U, Pt.locs, Pt.cells, Pt.slots] at X_5 l_5 y_5 z_5 st_5 hQ_5
  subst l_5 y_5 z_5
  obtain ⟨u0__5, ⟨u1__5, ⟨u2__5, ⟨u3__5, ⟨v0__5, ⟨v1__5, ⟨v2__5, ⟨v3__5, ⟨rfl, N_5q, Kc_5, pfF_size_a_5, pfF_keys_a_5, pfF_nodes_a_5, pfE_a_5, pfV_d_5, pfV_g_5⟩⟩⟩⟩⟩⟩⟩⟩⟩ := hQ_5
  have Z_5 : n0 ≤ T_5.heap.size := (Nat.le_trans Z_4 Kc_5.1)
  have K_5 : Keep h0 T_5.heap [] := K_4.trans Kc_5 (allS (Or.inr sz_b_1) (allS (Or.inr sz_d__2) (allS (Or.inr sz_g__2) all0)))
  have N_5 := Fr.app N_4 N_5q
  obtain ⟨cq_6, kq_6, q_6a, q_6b, q_6c⟩ := isOf hZ rfl pfE_a_5
  obtain ⟨_, _, ⟨T_6, L_6, k_6, n_6⟩, -, X_6, ⟨Lc_6, hQ_6, l_6, y_6, z_6⟩, st_6⟩ := X_5.virtualBack hx (y := MN2) (z := MN2) hown (mvT hZ (ow hw 28 rfl)) (mvT hZ (ow hw 29 rfl)) (notFace_of_selects (args := #[]) (mvT hZ (ow hw 31 rfl))) (mvT hZ (ow hw 31 rfl)) (mvT hZ (ow hw 30 rfl)) (by decide) (backOf (W := 0) (rm_add2 l Z a0 hw [] b_1 d__2 g__2 kd__2 kg__2 (k1 ^^^ k2) (nd ^^^ (-1 : Int32)) u0__5 u1__5 u2__5 u3__5 v0__5 v1__5 v2__5 v3__5 T_5.heap n0 Z_5 pfF_size_a_5 pfF_keys_a_5 pfF_nodes_a_5 pfE_a_5 g_b_1 g_d__2 g_g__2 pfV_d_5 pfV_g_5 pfndg_2 (Nat.ne_of_lt (Nat.lt_of_lt_of_le A_1.lt pfsz_d_2)) (Nat.ne_of_lt (Nat.lt_of_lt_of_le A_1.lt pfsz_g_2))) hZ (ow hw 32 rfl) (ow hw 3 rfl) (by decide) (by decide)) q_6a q_6c (g := (mkF mM 93 (lc85 p1 p2 k1 k2 nd fl b_1) [(.int (nd ^^^ (-1 : Int32))), (.long (k1 ^^^ k2)), (.ref b_1)])) rfl (by rw [hml]; rfl) (Steps.refl _) (argsL := [(.long (k1 ^^^ k2)), (.int (nd ^^^ (-1 : Int32)))]) (rest := []) (lenOf pd_2 rfl) rfl (by show 2 * 0 + _ ≤ _; exact Nat.le_of_eq rfl) (hb hby at_93) (fun _ _ => ⟨rfl, rfl, (by decide : 3 + 0 ≤ _), (by decide : 35 + 0 ≤ _)⟩)
  dsimp only [Pt.U, Pt.locs, Pt.cells, Pt.slots] at X_6 l_6 y_6 z_6 st_6 hQ_6
  subst l_6 y_6 z_6
  obtain ⟨u0__6, ⟨u1__6, ⟨u2__6, ⟨u3__6, ⟨v0__6, ⟨v1__6, ⟨v2__6, ⟨v3__6, ⟨rfl, N_6q, Kc_6, pfF_size_a_6, pfF_keys_a_6, pfF_nodes_a_6, pfE_a_6, pfV_d_6, pfV_g_6⟩⟩⟩⟩⟩⟩⟩⟩⟩ := hQ_6
  have Z_6 : n0 ≤ T_6.heap.size := (Nat.le_trans Z_5 Kc_6.1)
  have K_6 : Keep h0 T_6.heap [] := K_5.trans Kc_6 (allS (Or.inr sz_b_1) (allS (Or.inr sz_d__2) (allS (Or.inr sz_g__2) all0)))
  have N_6 := Fr.app N_5 N_6q
  obtain ⟨cq_7, kq_7, q_7a, q_7b, q_7c⟩ := isOf hZ rfl pfE_a_6
  obtain ⟨_, _, ⟨T_7, L_7, k_7, n_7⟩, -, X_7, ⟨Lc_7, hQ_7, l_7, y_7, z_7⟩, st_7⟩ := X_6.virtualBack hx (y := MN4) (z := MN4) hown (mvT hZ (ow hw 23 rfl)) (mvT hZ (ow hw 24 rfl)) (notFace_of_selects (args := #[]) (mvT hZ (ow hw 26 rfl))) (mvT hZ (ow hw 26 rfl)) (mvT hZ (ow hw 25 rfl)) (by decide) (backOf (W := 0) (rm_clear l Z a0 hw [] b_1 d__2 g__2 (3 : Int32) T_6.heap n0 Z_6 pfF_size_a_6 pfF_keys_a_6 pfF_nodes_a_6 pfE_a_6 g_b_1) hZ (ow hw 27 rfl) (ow hw 3 rfl) (by decide) (by decide)) q_7a q_7c (g := (mkF mM 139 (lc85 p1 p2 k1 k2 nd fl b_1) [(.ref b_1)])) rfl (by rw [hml]; rfl) (Steps.refl _) (argsL := []) (rest := []) (lenOf pd_3 rfl) rfl (by show 2 * 0 + _ ≤ _; exact Nat.le_of_eq rfl) (hb hby at_139) (fun _ _ => ⟨rfl, rfl, (by decide : 3 + 0 ≤ _), (by decide : 35 + 0 ≤ _)⟩)
  dsimp only [Pt.U, Pt.locs, Pt.cells, Pt.slots] at X_7 l_7 y_7 z_7 st_7 hQ_7
  subst l_7 y_7 z_7
  obtain ⟨rfl, N_7q, Kc_7, pfF_size_a_7, pfF_keys_a_7, pfF_nodes_a_7, pfE_a_7⟩ := hQ_7
  have Z_7 : n0 ≤ T_7.heap.size := (Nat.le_trans Z_6 Kc_7.1)
  have K_7 : Keep h0 T_7.heap [] := K_6.trans Kc_7 (allS (Or.inr sz_b_1) all0)
  have N_7 := Fr.app N_6 N_7q
  obtain ⟨T_8, h_8, L_8, X_8, e_8, N_8, Kc_8, st_8⟩ := pc_tail0 p1 p2 k1 k2 nd fl (3 : Int32) (0 : Int32) (1 : Int32) b_1 d__2 g__2 kd__2 kg__2 u0__6 u1__6 u2__6 u3__6 v0__6 v1__6 v2__6 v3__6 X_7 hx hZ hw hby hml hown rfl N_7 Z_7 pfF_size_a_7 pfF_keys_a_7 pfF_nodes_a_7 pfE_a_7 g_b_1 g_d__2 g_g__2 (pfV_d_6.keep Kc_7 (ninS (Ne.symm (Nat.ne_of_lt (Nat.lt_of_lt_of_le A_1.lt pfsz_d_2))) nin0)) (pfV_g_6.keep Kc_7 (ninS (Ne.symm (Nat.ne_of_lt (Nat.lt_of_lt_of_le A_1.lt pfsz_g_2))) nin0)) pfndg_2 (Nat.ne_of_lt (Nat.lt_of_lt_of_le A_1.lt pfsz_d_2)) (Nat.ne_of_lt (Nat.lt_of_lt_of_le A_1.lt pfsz_g_2))
  have Z_8 : n0 ≤ h_8.size := (Nat.le_trans Z_7 Kc_8.1)
  have K_8 : Keep h0 h_8 [] := K_7.trans Kc_8 (allS (Or.inr sz_b_1) (allS (Or.inr sz_d__2) (allS (Or.inr sz_g__2) all0)))
  obtain ⟨fs, hr, hrun, hended, hW, hsame⟩ := X_8.leave (v := some (.int (1 : Int32))) (fun h => by rw [Bd.returns] at h; cases h)
  refine ⟨_, _, pre0 _ ?_, hrun, hended, _, _, rfl, ?_, ⟨_, rfl⟩, hW, hsame.mono (by decide) (by decide)⟩
  · show oS pP eE below s₁ (mkF mM 0 (lc6 p1 p2 k1 k2 nd fl) []) _
    refine XS.iloadN X0.here hx rfl (hb hby at_0) rfl ?_
    refine XS.iconst X0.here hx rfl (hb hby at_1) ?_
    show oS pP eE below s₁ (mkF mM 2 (lc6 p1 p2 k1 k2 nd fl) [(.int (3 : Int32)), (.int p1)]) _
    refine XS.iand X0.here hx rfl (hb hby at_2) rfl ?_
    show oS pP eE below s₁ (mkF mM 3 (lc6 p1 p2 k1 k2 nd fl) [(.int (p1 &&& (3 : Int32)))]) _
    rw [hn]
    refine XS.istore X0.here hx rfl (hb hby at_3) rfl (l' := (lc76 p1 p2 k1 k2 nd fl)) rfl ?_
    refine XS.iloadN X0.here hx rfl (hb hby at_5) rfl ?_
    show oS pP eE below s₁ (mkF mM 6 (lc76 p1 p2 k1 k2 nd fl) [(.int p2)]) _
    refine X0.ldcI hx hown (mvT hZ (ow hw 0 rfl)) (g := (mkF mM 6 (lc76 p1 p2 k1 k2 nd fl) [(.int p2)])) rfl (hb hby at_6) ?_
    show oS pP eE below s₁ (mkF mM 8 (lc76 p1 p2 k1 k2 nd fl) [(.int (2147483647 : Int32)), (.int p2)]) _
    refine XS.iand X0.here hx rfl (hb hby at_8) rfl ?_
    refine XS.iload X0.here hx rfl (hb hby at_9) rfl ?_
    refine XS.iconst X0.here hx rfl (hb hby at_11) ?_
    show oS pP eE below s₁ (mkF mM 12 (lc76 p1 p2 k1 k2 nd fl) [(.int (1 : Int32)), (.int (3 : Int32)), (.int (p2 &&& (2147483647 : Int32)))]) _
    refine XS.iadd X0.here hx rfl (hb hby at_12) rfl ?_
    show oS pP eE below s₁ (mkF mM 13 (lc76 p1 p2 k1 k2 nd fl) [(.int ((3 : Int32) + (1 : Int32))), (.int (p2 &&& (2147483647 : Int32)))]) _
    rw [(by decide : ((3 : Int32) + (1 : Int32)) = (4 : Int32))]
    show oS pP eE below s₁ (mkF mM 13 (lc76 p1 p2 k1 k2 nd fl) [(.int (4 : Int32)), (.int (p2 &&& (2147483647 : Int32)))]) _
    refine iremM X0 hx rfl (hb hby at_13) rfl (by decide) ?_
    show oS pP eE below s₁ (mkF mM 14 (lc76 p1 p2 k1 k2 nd fl) [(.int ((p2 &&& (2147483647 : Int32)) % (4 : Int32)))]) _
    rw [ht]
    refine XS.istore X0.here hx rfl (hb hby at_14) rfl (l' := (lc77 p1 p2 k1 k2 nd fl)) rfl ?_
    refine XS.iload X0.here hx rfl (hb hby at_16) rfl ?_
    refine XS.iconst X0.here hx rfl (hb hby at_18) ?_
    show oS pP eE below s₁ (mkF mM 19 (lc77 p1 p2 k1 k2 nd fl) [(.int (1 : Int32)), (.int fl)]) _
    refine XS.iand X0.here hx rfl (hb hby at_19) rfl ?_
    refine XS.ifNo X0.here hx rfl (hb hby at_20) rfl (XT.i0_eq_f hc) ?_
    refine XS.iconst X0.here hx rfl (hb hby at_23) ?_
    refine XS.goto X0.here hx rfl (pc0 := 24) (pc' := 28) rfl (hb hby at_24) (by decide) (by decide) ?_
    refine XS.istore X0.here hx rfl (hb hby at_28) rfl (l' := (lc83 p1 p2 k1 k2 nd fl)) rfl ?_
    show oS pP eE below s₁ (mkF mM 30 (lc83 p1 p2 k1 k2 nd fl) []) _
    refine st_1 _ ?_
    show oS pP eE below T_1 (mkF mM 33 (lc83 p1 p2 k1 k2 nd fl) [(.ref b_1)]) _
    refine XS.dup X_1.here hx rfl (hb hby at_33) rfl rfl ?_
    show oS pP eE below T_1 (mkF mM 34 (lc83 p1 p2 k1 k2 nd fl) [(.ref b_1), (.ref b_1)]) _
    refine st_2.trans ?_
    show oS pP eE below T_2 (mkF mM 37 (lc83 p1 p2 k1 k2 nd fl) [(.ref b_1)]) _
    refine XS.astore X_2.here hx rfl (hb hby at_37) rfl rfl (l' := (lc84 p1 p2 k1 k2 nd fl b_1)) rfl ?_
    refine XS.aload X_2.here hx rfl (hb hby at_39) rfl rfl ?_
    show oS pP eE below T_2 (mkF mM 41 (lc84 p1 p2 k1 k2 nd fl b_1) [(.ref b_1)]) _
    refine st_3.trans ?_
    show oS pP eE below T_3 (mkF mM 44 (lc84 p1 p2 k1 k2 nd fl b_1) [(.int (1 : Int32))]) _
    refine XS.istore X_3.here hx rfl (hb hby at_44) rfl (l' := (lc85 p1 p2 k1 k2 nd fl b_1)) rfl ?_
    refine XS.iload X_3.here hx rfl (hb hby at_46) rfl ?_
    refine XS.iconst X_3.here hx rfl (hb hby at_48) ?_
    refine XS.icmpNo X_3.here hx rfl (hb hby at_49) rfl (by decide) ?_
    refine XS.aload X_3.here hx rfl (hb hby at_52) rfl rfl ?_
    refine XT.lloadN X_3.here hx rfl (hb hby at_54) rfl ?_
    refine XS.iload X_3.here hx rfl (hb hby at_55) rfl ?_
    show oS pP eE below T_3 (mkF mM 57 (lc85 p1 p2 k1 k2 nd fl b_1) [(.int nd), (.long k1), (.ref b_1)]) _
    refine st_4.trans ?_
    show oS pP eE below T_4 (mkF mM 60 (lc85 p1 p2 k1 k2 nd fl b_1) []) _
    refine XS.iload X_4.here hx rfl (hb hby at_60) rfl ?_
    refine XS.iconst X_4.here hx rfl (hb hby at_62) ?_
    refine XS.icmpNo X_4.here hx rfl (hb hby at_63) rfl (by decide) ?_
    refine XS.aload X_4.here hx rfl (hb hby at_66) rfl rfl ?_
    refine XT.lload X_4.here hx rfl (hb hby at_68) rfl ?_
    refine XS.iload X_4.here hx rfl (hb hby at_70) rfl ?_
    refine XS.iconst X_4.here hx rfl (hb hby at_72) ?_
    show oS pP eE below T_4 (mkF mM 73 (lc85 p1 p2 k1 k2 nd fl b_1) [(.int (1 : Int32)), (.int nd), (.long k2), (.ref b_1)]) _
    refine XS.iadd X_4.here hx rfl (hb hby at_73) rfl ?_
    show oS pP eE below T_4 (mkF mM 74 (lc85 p1 p2 k1 k2 nd fl b_1) [(.int (nd + (1 : Int32))), (.long k2), (.ref b_1)]) _
    refine st_5.trans ?_
    show oS pP eE below T_5 (mkF mM 77 (lc85 p1 p2 k1 k2 nd fl b_1) []) _
    refine XS.iload X_5.here hx rfl (hb hby at_77) rfl ?_
    refine XS.iconst X_5.here hx rfl (hb hby at_79) ?_
    refine XS.icmpNo X_5.here hx rfl (hb hby at_80) rfl (by decide) ?_
    refine XS.aload X_5.here hx rfl (hb hby at_83) rfl rfl ?_
    refine XT.lloadN X_5.here hx rfl (hb hby at_85) rfl ?_
    refine XT.lload X_5.here hx rfl (hb hby at_86) rfl ?_
    show oS pP eE below T_5 (mkF mM 88 (lc85 p1 p2 k1 k2 nd fl b_1) [(.long k2), (.long k1), (.ref b_1)]) _
    refine XT.lxor X_5.here hx rfl (hb hby at_88) rfl ?_
    refine XS.iload X_5.here hx rfl (hb hby at_89) rfl ?_
    refine XS.iconst X_5.here hx rfl (hb hby at_91) ?_
    show oS pP eE below T_5 (mkF mM 92 (lc85 p1 p2 k1 k2 nd fl b_1) [(.int (-1 : Int32)), (.int nd), (.long (k1 ^^^ k2)), (.ref b_1)]) _
    refine XT.ixor X_5.here hx rfl (hb hby at_92) rfl ?_
    show oS pP eE below T_5 (mkF mM 93 (lc85 p1 p2 k1 k2 nd fl b_1) [(.int (nd ^^^ (-1 : Int32))), (.long (k1 ^^^ k2)), (.ref b_1)]) _
    refine st_6.trans ?_
    show oS pP eE below T_6 (mkF mM 96 (lc85 p1 p2 k1 k2 nd fl b_1) []) _
    refine XS.iload X_6.here hx rfl (hb hby at_96) rfl ?_
    refine XS.iconst X_6.here hx rfl (hb hby at_98) ?_
    refine XS.icmpYes X_6.here hx rfl (pc0 := 99) (pc' := 108) rfl (hb hby at_99) rfl (by decide) (by decide) (by decide) ?_
    refine XS.iload X_6.here hx rfl (hb hby at_108) rfl ?_
    refine XS.iconst X_6.here hx rfl (hb hby at_110) ?_
    refine XS.icmpYes X_6.here hx rfl (pc0 := 111) (pc' := 120) rfl (hb hby at_111) rfl (by decide) (by decide) (by decide) ?_
    refine XS.iload X_6.here hx rfl (hb hby at_120) rfl ?_
    refine XS.iconst X_6.here hx rfl (hb hby at_122) ?_
    show oS pP eE below T_6 (mkF mM 123 (lc85 p1 p2 k1 k2 nd fl b_1) [(.int (3 : Int32)), (.int (0 : Int32))]) _
    refine XS.icmpYes X_6.here hx rfl (pc0 := 123) (pc' := 132) rfl (hb hby at_123) rfl (by decide) (by decide) (by decide) ?_
    refine XS.iload X_6.here hx rfl (hb hby at_132) rfl ?_
    refine XS.ifNo X_6.here hx rfl (hb hby at_134) rfl (by decide) ?_
    refine XS.aload X_6.here hx rfl (hb hby at_137) rfl rfl ?_
    show oS pP eE below T_6 (mkF mM 139 (lc85 p1 p2 k1 k2 nd fl b_1) [(.ref b_1)]) _
    refine st_7.trans ?_
    show oS pP eE below T_7 (mkF mM 142 (lc85 p1 p2 k1 k2 nd fl b_1) []) _
    refine XS.iload X_7.here hx rfl (hb hby at_142) rfl ?_
    refine XS.ifYes X_7.here hx rfl (pc0 := 144) (pc' := 155) rfl (hb hby at_144) rfl (by decide) (by decide) (by decide) ?_
    refine XS.iconst X_7.here hx rfl (hb hby at_155) ?_
    refine XS.goto X_7.here hx rfl (pc0 := 156) (pc' := 160) rfl (hb hby at_156) (by decide) (by decide) ?_
    refine XS.istore X_7.here hx rfl (hb hby at_160) rfl (l' := (lc86 p1 p2 k1 k2 nd fl b_1)) rfl ?_
    show oS pP eE below T_7 (mkF mM 162 (lc86 p1 p2 k1 k2 nd fl b_1) []) _
    refine st_8 _ ?_
    show oS pP eE below T_8 (mkF mM 207 (lc87 p1 p2 k1 k2 nd fl b_1) [(.int (1 : Int32))]) _
    exact retN X_8 hx (t := .boolean) Bd.returns (by simp) (hb hby at_207) hr
  · show Q_law301 Z p1 p2 k1 k2 nd fl h0 n0 _ T_8.heap _
    exact ⟨rfl, N_8⟩
abbrev lc88 (p1 : Int32) (p2 : Int32) (k1 : Int64) (k2 : Int64) (nd : Int32) (fl : Int32) : Array Slot := #[.val (.int p1), .val (.int p2), .val (.long k1), .second, .val (.long k2), .second, .val (.int nd), .val (.int fl), .val (.int (3 : Int32)), .val (.int (1 : Int32)), .unset, .unset, .unset, .unset, .unset, .unset]
abbrev lc89 (p1 : Int32) (p2 : Int32) (k1 : Int64) (k2 : Int64) (nd : Int32) (fl : Int32) : Array Slot := #[.val (.int p1), .val (.int p2), .val (.long k1), .second, .val (.long k2), .second, .val (.int nd), .val (.int fl), .val (.int (3 : Int32)), .val (.int (1 : Int32)), .val (.int (0 : Int32)), .unset, .unset, .unset, .unset, .unset]
abbrev lc90 (p1 : Int32) (p2 : Int32) (k1 : Int64) (k2 : Int64) (nd : Int32) (fl : Int32) (b_1 : Addr) : Array Slot := #[.val (.int p1), .val (.int p2), .val (.long k1), .second, .val (.long k2), .second, .val (.int nd), .val (.int fl), .val (.int (3 : Int32)), .val (.int (1 : Int32)), .val (.int (0 : Int32)), .val (.ref b_1), .unset, .unset, .unset, .unset]
abbrev lc91 (p1 : Int32) (p2 : Int32) (k1 : Int64) (k2 : Int64) (nd : Int32) (fl : Int32) (b_1 : Addr) : Array Slot := #[.val (.int p1), .val (.int p2), .val (.long k1), .second, .val (.long k2), .second, .val (.int nd), .val (.int fl), .val (.int (3 : Int32)), .val (.int (1 : Int32)), .val (.int (0 : Int32)), .val (.ref b_1), .val (.int (1 : Int32)), .unset, .unset, .unset]
abbrev lc92 (p1 : Int32) (p2 : Int32) (k1 : Int64) (k2 : Int64) (nd : Int32) (fl : Int32) (b_1 : Addr) : Array Slot := #[.val (.int p1), .val (.int p2), .val (.long k1), .second, .val (.long k2), .second, .val (.int nd), .val (.int fl), .val (.int (3 : Int32)), .val (.int (1 : Int32)), .val (.int (0 : Int32)), .val (.ref b_1), .val (.int (1 : Int32)), .val (.int (0 : Int32)), .unset, .unset]
abbrev lc93 (p1 : Int32) (p2 : Int32) (k1 : Int64) (k2 : Int64) (nd : Int32) (fl : Int32) (b_1 : Addr) : Array Slot := #[.val (.int p1), .val (.int p2), .val (.long k1), .second, .val (.long k2), .second, .val (.int nd), .val (.int fl), .val (.int (3 : Int32)), .val (.int (1 : Int32)), .val (.int (0 : Int32)), .val (.ref b_1), .val (.int (1 : Int32)), .val (.int (0 : Int32)), .val (.int (0 : Int32)), .val (.int (0 : Int32))]
theorem ef_law310 (mM : MethodId) (x0 : Int32) (x1 : Int32) (x2 : Int64) (x3 : Int64) (x4 : Int32) (x5 : Int32) : entryFrame mM #[(.int x0), (.int x1), (.long x2), (.long x3), (.int x4), (.int x5)] maxLocals = mkF mM 0 #[.val (.int x0), .val (.int x1), .val (.long x2), .second, .val (.long x3), .second, .val (.int x4), .val (.int x5), .unset, .unset, .unset, .unset, .unset, .unset, .unset, .unset] [] := by first | (simp [entryFrame, mkF, argsToLocals, Value.category, maxLocals]; done) | rfl
def Q_law310 (Z : State) (p1 : Int32) (p2 : Int32) (k1 : Int64) (k2 : Int64) (nd : Int32) (fl : Int32) (h0 : Heap) (n0 : Nat) (v_ : Option Value) (h_ : Heap) (L_ : List Loc) : Prop := v_ = some (.int (1 : Int32)) ∧ Fr n0 L_
set_option maxRecDepth 65536 in
set_option maxHeartbeats 40000000 in
theorem rm_law310 (l : Launch) (Z : State) (a0 : Array Value) (hw : ∀ d ∈ tables_1, d.before a0 Z = true) (ws : List Jvm.Cond) (p1 : Int32) (p2 : Int32) (k1 : Int64) (k2 : Int64) (nd : Int32) (fl : Int32) (h0 : Heap) (n0 : Nat) (Z0 : n0 ≤ h0.size) (hn : (p1 &&& (3 : Int32)) = (3 : Int32)) (ht : ((p2 &&& (2147483647 : Int32)) % (4 : Int32)) = (1 : Int32)) (hc : (fl &&& (1 : Int32)) = 0) :
    MetFree l x (head1 (Jvm.Cond.code x code maxLocals ret :: ws) room_1) (fun aa_ U_ => aa_ = #[(.int p1), (.int p2), (.long k1), (.long k2), (.int nd), (.int fl)] ∧ Z.Warmed39 U_.vm ∧ U_.heap = h0) (fun _ _ _ _ _ => True) (fun _ U_ o_ U'_ => ∃ v_ L_, o_ = .returned v_ ∧ Q_law310 Z p1 p2 k1 k2 nd fl h0 n0 v_ U'_.heap L_ ∧ FrameEnd U_ o_ U'_ L_ 3 35) := by
  refine MetFree.of_bodySF (plainFor_of_name pn_1) hisR ?_
  intro pP eE sS mM argsA below meth cC s₁ Bd hml0 hP hK
  obtain ⟨rfl, hZ, hh⟩ := hP
  have hx := Bd.exec
  have hby := Bd.bytes
  have hml : cC.maxLocals = 16 := hml0
  have hown : sS.vm.findClass "com/example/greenweft/greenweft/steiner/NodeHeapIsEmptyPinLaw" = some mM.cls := findClass_of_methodNamed Bd.named
  have hnm := (name_of_methodNamed Bd.named Bd.method).1
  have X0 : Stand pP l eE room_1 sS mM #[(.int p1), (.int p2), (.long k1), (.long k2), (.int nd), (.int fl)] below meth cC s₁ [] 0 0 := Stand.of_body Bd
  have e0 : s₁.heap = h0 := by rw [← hh, Bd.state]; rfl
  have N0 := Fr.nil n0
  have pre0 : ∀ t_, Steps pP.tables eE below (s₁.setTop (mkF mM 0 #[.val (.int p1), .val (.int p2), .val (.long k1), .second, .val (.long k2), .second, .val (.int nd), .val (.int fl), .unset, .unset, .unset, .unset, .unset, .unset, .unset, .unset] [])) t_ → Steps pP.tables eE below (s₁.setTop (entryFrame mM #[(.int p1), (.int p2), (.long k1), (.long k2), (.int nd), (.int fl)] maxLocals)) t_ := fun t_ k_ => castTop (ef_law310 mM p1 p2 k1 k2 nd fl) k_
  obtain ⟨T_1, h_1, X_1, e_1, E_1, A_1, D_1, -, st_1⟩ := newO X0 hx hZ hown (ow hw 1 rfl) (ow hw 2 rfl) (ow hw 3 rfl) e0 (g := (mkF mM 30 (lc89 p1 p2 k1 k2 nd fl) [])) rfl (hb hby at_30) (by decide) (by decide)
  obtain ⟨b_1, g_1⟩ : ∃ z, z = h0.size := ⟨_, rfl⟩
  rw [← g_1] at A_1 D_1 st_1
  have g_b_1 : n0 ≤ b_1 := Nat.le_trans Z0 (Nat.le_of_eq g_1.symm)
  have sz_b_1 : h0.size ≤ b_1 := Nat.le_trans (Keep.refl h0 []).1 (Nat.le_of_eq g_1.symm)
  have Z_1 : n0 ≤ h_1.size := (Nat.le_trans Z0 E_1.1)
  have K_1 : Keep h0 h_1 [] := (Keep.refl h0 []).ext E_1
  have F_keys_b_1__1 : Fld Z h_1 b_1 "com/example/greenweft/greenweft/steiner/NodeHeap" "keys" "[J" .null := D_1 (Or.inl (ow hw 12 rfl)) (ty := (.array .long)) (by decide)
  have F_nodes_b_1__1 : Fld Z h_1 b_1 "com/example/greenweft/greenweft/steiner/NodeHeap" "nodes" "[I" .null := D_1 (Or.inl (ow hw 15 rfl)) (ty := (.array .int)) (by decide)
  have F_size_b_1__1 : Fld Z h_1 b_1 "com/example/greenweft/greenweft/steiner/NodeHeap" "size" "I" (.int (0 : Int32)) := D_1 (Or.inl (ow hw 22 rfl)) (ty := .int) (by decide)
  obtain ⟨_, _, ⟨T_2, L_2, k_2, n_2⟩, -, X_2, ⟨Lc_2, hQ_2, l_2, y_2, z_2⟩, st_2⟩ := X_1.specialBack hx (y := MN3) rfl hown (mvT hZ (ow hw 4 rfl)) (mvT hZ (ow hw 5 rfl)) (mvT hZ (ow hw 6 rfl)) (by decide) (backOf (W := 1) (rm_init l Z a0 hw [] b_1 h_1 n0 Z_1 F_keys_b_1__1 F_nodes_b_1__1 F_size_b_1__1 A_1 g_b_1) hZ (ow hw 6 rfl) (ow hw 3 rfl) (by decide) (by decide)) (g := (mkF mM 34 (lc89 p1 p2 k1 k2 nd fl) [(.ref b_1), (.ref b_1)])) rfl (by rw [hml]; rfl) (Steps.refl _) (a := b_1) (argsL := []) (rest := [(.ref b_1)]) (lenOf pd_3 rfl) rfl (by show 2 * 0 + _ ≤ _; exact Nat.le_of_eq rfl) (hb hby at_34) (fun _ _ => ⟨rfl, e_1, (by decide : 1 + 2 ≤ _), (by decide : 3 + 32 ≤ _)⟩)
  dsimp only [Pt.U, Pt.locs, Pt.cells, Pt.slots] at X_2 l_2 y_2 z_2 st_2 hQ_2
  subst l_2 y_2 z_2
  obtain ⟨d__2, ⟨g__2, ⟨kd__2, ⟨kg__2, ⟨rfl, N_2q, Kc_2, pfsz_d_2, pfsz_g_2, pfndg_2, pfE_a_2, pfF_keys_a_2, pfF_nodes_a_2, pfF_size_a_2, pfV_d_2, pfV_g_2⟩⟩⟩⟩⟩ := hQ_2
  have Z_2 : n0 ≤ T_2.heap.size := (Nat.le_trans Z_1 Kc_2.1)
  have K_2 : Keep h0 T_2.heap [] := K_1.trans Kc_2 (allS (Or.inr sz_b_1) all0)
  have sz_d__2 : h0.size ≤ d__2 := Nat.le_trans K_1.1 pfsz_d_2
  have g_d__2 : n0 ≤ d__2 := Nat.le_trans Z_1 pfsz_d_2
  have sz_g__2 : h0.size ≤ g__2 := Nat.le_trans K_1.1 pfsz_g_2
  have g_g__2 : n0 ≤ g__2 := Nat.le_trans Z_1 pfsz_g_2
  have N_2 := Fr.app N0 N_2q
  obtain ⟨cq_3, kq_3, q_3a, q_3b, q_3c⟩ := isOf hZ rfl pfE_a_2
  obtain ⟨_, _, ⟨T_3, L_3, k_3, n_3⟩, -, X_3, ⟨Lc_3, hQ_3, l_3, y_3, z_3⟩, st_3⟩ := X_2.virtualBack hx (y := MN1) (z := MN1) hown (mvT hZ (ow hw 16 rfl)) (mvT hZ (ow hw 17 rfl)) (notFace_of_selects (args := #[]) (mvT hZ (ow hw 19 rfl))) (mvT hZ (ow hw 19 rfl)) (mvT hZ (ow hw 18 rfl)) (by decide) (backOf (W := 0) (rm_ie0 l Z a0 hw [] b_1 T_2.heap n0 Z_2 pfF_size_a_2) hZ (ow hw 20 rfl) (ow hw 3 rfl) (by decide) (by decide)) q_3a q_3c (g := (mkF mM 41 (lc90 p1 p2 k1 k2 nd fl b_1) [(.ref b_1)])) rfl (by rw [hml]; rfl) (Steps.refl _) (argsL := []) (rest := []) (lenOf pd_1 rfl) rfl (by show 2 * 0 + _ ≤ _; exact Nat.le_of_eq rfl) (hb hby at_41) (fun _ _ => ⟨rfl, rfl, (by decide : 3 + 0 ≤ _), (by decide : 35 + 0 ≤ _)⟩)
  dsimp only [Pt.U, Pt.locs, Pt.cells, Pt.slots] at X_3 l_3 y_3 z_3 st_3 hQ_3
  subst l_3 y_3 z_3
  obtain ⟨rfl, N_3q, eh_3⟩ := hQ_3
  have N_3 := Fr.app N_2 N_3q
  obtain ⟨cq_4, kq_4, q_4a, q_4b, q_4c⟩ := isOf hZ eh_3 pfE_a_2
  obtain ⟨_, _, ⟨T_4, L_4, k_4, n_4⟩, -, X_4, ⟨Lc_4, hQ_4, l_4, y_4, z_4⟩, st_4⟩ := X_3.virtualBack hx (y := MN2) (z := MN2) hown (mvT hZ (ow hw 28 rfl)) (mvT hZ (ow hw 29 rfl)) (notFace_of_selects (args := #[]) (mvT hZ (ow hw 31 rfl))) (mvT hZ (ow hw 31 rfl)) (mvT hZ (ow hw 30 rfl)) (by decide) (backOf (W := 0) (rm_add0 l Z a0 hw [] b_1 d__2 g__2 kd__2 kg__2 k1 nd (0 : Int64) (0 : Int64) (0 : Int64) (0 : Int64) (0 : Int32) (0 : Int32) (0 : Int32) (0 : Int32) T_2.heap n0 Z_2 pfF_size_a_2 pfF_keys_a_2 pfF_nodes_a_2 pfE_a_2 g_b_1 g_d__2 g_g__2 pfV_d_2 pfV_g_2 pfndg_2 (Nat.ne_of_lt (Nat.lt_of_lt_of_le A_1.lt pfsz_d_2)) (Nat.ne_of_lt (Nat.lt_of_lt_of_le A_1.lt pfsz_g_2))) hZ (ow hw 32 rfl) (ow hw 3 rfl) (by decide) (by decide)) q_4a q_4c (g := (mkF mM 57 (lc91 p1 p2 k1 k2 nd fl b_1) [(.int nd), (.long k1), (.ref b_1)])) rfl (by rw [hml]; rfl) (Steps.refl _) (argsL := [(.long k1), (.int nd)]) (rest := []) (lenOf pd_2 rfl) rfl (by show 2 * 0 + _ ≤ _; exact Nat.le_of_eq rfl) (hb hby at_57) (fun _ _ => ⟨rfl, eh_3, (by decide : 3 + 0 ≤ _), (by decide : 35 + 0 ≤ _)⟩)
  dsimp only [Pt.U, Pt.locs, Pt.cells, Pt.slots] at X_4 l_4 y_4 z_4 st_4 hQ_4
  subst l_4 y_4 z_4
  obtain ⟨u0__4, ⟨u1__4, ⟨u2__4, ⟨u3__4, ⟨v0__4, ⟨v1__4, ⟨v2__4, ⟨v3__4, ⟨rfl, N_4q, Kc_4, pfF_size_a_4, pfF_keys_a_4, pfF_nodes_a_4, pfE_a_4, pfV_d_4, pfV_g_4⟩⟩⟩⟩⟩⟩⟩⟩⟩ := hQ_4
  have Z_4 : n0 ≤ T_4.heap.size := (Nat.le_trans Z_2 Kc_4.1)
  have K_4 : Keep h0 T_4.heap [] := K_2.trans Kc_4 (allS (Or.inr sz_b_1) (allS (Or.inr sz_d__2) (allS (Or.inr sz_g__2) all0)))
  have N_4 := Fr.app N_3 N_4q
  obtain ⟨cq_5, kq_5, q_5a, q_5b, q_5c⟩ := isOf hZ rfl pfE_a_4
  obtain ⟨_, _, ⟨T_5, L_5, k_5, n_5⟩, -, X_5, ⟨Lc_5, hQ_5, l_5, y_5, z_5⟩, st_5⟩ := X_4.virtualBack hx (y := MN2) (z := MN2) hown (mvT hZ (ow hw 28 rfl)) (mvT hZ (ow hw 29 rfl)) (notFace_of_selects (args := #[]) (mvT hZ (ow hw 31 rfl))) (mvT hZ (ow hw 31 rfl)) (mvT hZ (ow hw 30 rfl)) (by decide) (backOf (W := 0) (rm_add1 l Z a0 hw [] b_1 d__2 g__2 kd__2 kg__2 k2 (nd + (1 : Int32)) u0__4 u1__4 u2__4 u3__4 v0__4 v1__4 v2__4 v3__4 T_4.heap n0 Z_4 pfF_size_a_4 pfF_keys_a_4 pfF_nodes_a_4 pfE_a_4 g_b_1 g_d__2 g_g__2 pfV_d_4 pfV_g_4 pfndg_2 (Nat.ne_of_lt (Nat.lt_of_lt_of_le A_1.lt pfsz_d_2)) (Nat.ne_of_lt (Nat.lt_of_lt_of_le A_1.lt pfsz_g_2))) hZ (ow hw 32 rfl) (ow hw 3 rfl) (by decide) (by decide)) q_5a q_5c (g := (mkF mM 74 (lc91 p1 p2 k1 k2 nd fl b_1) [(.int (nd + (1 : Int32))), (.long k2), (.ref b_1)])) rfl (by rw [hml]; rfl) (Steps.refl _) (argsL := [(.long k2), (.int (nd + (1 : Int32)))]) (rest := []) (lenOf pd_2 rfl) rfl (by show 2 * 0 + _ ≤ _; exact Nat.le_of_eq rfl) (hb hby at_74) (fun _ _ => ⟨rfl, rfl, (by decide : 3 + 0 ≤ _), (by decide : 35 + 0 ≤ _)⟩)
  dsimp only [Pt.U, Pt.locs, Pt.cells, Pt.slots] at X_5 l_5 y_5 z_5 st_5 hQ_5
  subst l_5 y_5 z_5
  obtain ⟨u0__5, ⟨u1__5, ⟨u2__5, ⟨u3__5, ⟨v0__5, ⟨v1__5, ⟨v2__5, ⟨v3__5, ⟨rfl, N_5q, Kc_5, pfF_size_a_5, pfF_keys_a_5, pfF_nodes_a_5, pfE_a_5, pfV_d_5, pfV_g_5⟩⟩⟩⟩⟩⟩⟩⟩⟩ := hQ_5
  have Z_5 : n0 ≤ T_5.heap.size := (Nat.le_trans Z_4 Kc_5.1)
  have K_5 : Keep h0 T_5.heap [] := K_4.trans Kc_5 (allS (Or.inr sz_b_1) (allS (Or.inr sz_d__2) (allS (Or.inr sz_g__2) all0)))
  have N_5 := Fr.app N_4 N_5q
  obtain ⟨cq_6, kq_6, q_6a, q_6b, q_6c⟩ := isOf hZ rfl pfE_a_5
  obtain ⟨_, _, ⟨T_6, L_6, k_6, n_6⟩, -, X_6, ⟨Lc_6, hQ_6, l_6, y_6, z_6⟩, st_6⟩ := X_5.virtualBack hx (y := MN2) (z := MN2) hown (mvT hZ (ow hw 28 rfl)) (mvT hZ (ow hw 29 rfl)) (notFace_of_selects (args := #[]) (mvT hZ (ow hw 31 rfl))) (mvT hZ (ow hw 31 rfl)) (mvT hZ (ow hw 30 rfl)) (by decide) (backOf (W := 0) (rm_add2 l Z a0 hw [] b_1 d__2 g__2 kd__2 kg__2 (k1 ^^^ k2) (nd ^^^ (-1 : Int32)) u0__5 u1__5 u2__5 u3__5 v0__5 v1__5 v2__5 v3__5 T_5.heap n0 Z_5 pfF_size_a_5 pfF_keys_a_5 pfF_nodes_a_5 pfE_a_5 g_b_1 g_d__2 g_g__2 pfV_d_5 pfV_g_5 pfndg_2 (Nat.ne_of_lt (Nat.lt_of_lt_of_le A_1.lt pfsz_d_2)) (Nat.ne_of_lt (Nat.lt_of_lt_of_le A_1.lt pfsz_g_2))) hZ (ow hw 32 rfl) (ow hw 3 rfl) (by decide) (by decide)) q_6a q_6c (g := (mkF mM 93 (lc91 p1 p2 k1 k2 nd fl b_1) [(.int (nd ^^^ (-1 : Int32))), (.long (k1 ^^^ k2)), (.ref b_1)])) rfl (by rw [hml]; rfl) (Steps.refl _) (argsL := [(.long (k1 ^^^ k2)), (.int (nd ^^^ (-1 : Int32)))]) (rest := []) (lenOf pd_2 rfl) rfl (by show 2 * 0 + _ ≤ _; exact Nat.le_of_eq rfl) (hb hby at_93) (fun _ _ => ⟨rfl, rfl, (by decide : 3 + 0 ≤ _), (by decide : 35 + 0 ≤ _)⟩)
  dsimp only [Pt.U, Pt.locs, Pt.cells, Pt.slots] at X_6 l_6 y_6 z_6 st_6 hQ_6
  subst l_6 y_6 z_6
  obtain ⟨u0__6, ⟨u1__6, ⟨u2__6, ⟨u3__6, ⟨v0__6, ⟨v1__6, ⟨v2__6, ⟨v3__6, ⟨rfl, N_6q, Kc_6, pfF_size_a_6, pfF_keys_a_6, pfF_nodes_a_6, pfE_a_6, pfV_d_6, pfV_g_6⟩⟩⟩⟩⟩⟩⟩⟩⟩ := hQ_6
  have Z_6 : n0 ≤ T_6.heap.size := (Nat.le_trans Z_5 Kc_6.1)
  have K_6 : Keep h0 T_6.heap [] := K_5.trans Kc_6 (allS (Or.inr sz_b_1) (allS (Or.inr sz_d__2) (allS (Or.inr sz_g__2) all0)))
  have N_6 := Fr.app N_5 N_6q
  obtain ⟨cq_7, kq_7, q_7a, q_7b, q_7c⟩ := isOf hZ rfl pfE_a_6
  obtain ⟨_, _, ⟨T_7, L_7, k_7, n_7⟩, -, X_7, ⟨Lc_7, hQ_7, l_7, y_7, z_7⟩, st_7⟩ := X_6.virtualBack hx (y := MN5) (z := MN5) hown (mvT hZ (ow hw 36 rfl)) (mvT hZ (ow hw 37 rfl)) (notFace_of_selects (args := #[]) (mvT hZ (ow hw 39 rfl))) (mvT hZ (ow hw 39 rfl)) (mvT hZ (ow hw 38 rfl)) (by decide) (backOf (W := 0) (rm_take3 l Z a0 hw [] b_1 d__2 g__2 kd__2 kg__2 u0__6 u1__6 u2__6 u3__6 v0__6 v1__6 v2__6 v3__6 T_6.heap n0 Z_6 pfF_size_a_6 pfF_keys_a_6 pfF_nodes_a_6 pfE_a_6 g_b_1 g_d__2 g_g__2 pfV_d_6 pfV_g_6 pfndg_2 (Nat.ne_of_lt (Nat.lt_of_lt_of_le A_1.lt pfsz_d_2)) (Nat.ne_of_lt (Nat.lt_of_lt_of_le A_1.lt pfsz_g_2))) hZ (ow hw 40 rfl) (ow hw 3 rfl) (by decide) (by decide)) q_7a q_7c (g := (mkF mM 104 (lc91 p1 p2 k1 k2 nd fl b_1) [(.ref b_1)])) rfl (by rw [hml]; rfl) (Steps.refl _) (argsL := []) (rest := []) (lenOf pd_4 rfl) rfl (by show 2 * 0 + _ ≤ _; exact Nat.le_of_eq rfl) (hb hby at_104) (fun _ _ => ⟨rfl, rfl, (by decide : 3 + 0 ≤ _), (by decide : 35 + 0 ≤ _)⟩)
  dsimp only [Pt.U, Pt.locs, Pt.cells, Pt.slots] at X_7 l_7 y_7 z_7 st_7 hQ_7
  subst l_7 y_7 z_7
  obtain ⟨u0__7, ⟨u1__7, ⟨u2__7, ⟨u3__7, ⟨v0__7, ⟨v1__7, ⟨v2__7, ⟨v3__7, ⟨rfl, N_7q, Kc_7, pfF_size_a_7, pfF_keys_a_7, pfF_nodes_a_7, pfE_a_7, pfV_d_7, pfV_g_7⟩⟩⟩⟩⟩⟩⟩⟩⟩ := hQ_7
  have Z_7 : n0 ≤ T_7.heap.size := (Nat.le_trans Z_6 Kc_7.1)
  have K_7 : Keep h0 T_7.heap [] := K_6.trans Kc_7 (allS (Or.inr sz_b_1) (allS (Or.inr sz_d__2) (allS (Or.inr sz_g__2) all0)))
  have N_7 := Fr.app N_6 N_7q
  obtain ⟨T_8, h_8, L_8, X_8, e_8, N_8, Kc_8, st_8⟩ := pc_tail2 p1 p2 k1 k2 nd fl (3 : Int32) (1 : Int32) (0 : Int32) b_1 d__2 g__2 kd__2 kg__2 u0__7 u1__7 u2__7 u3__7 v0__7 v1__7 v2__7 v3__7 X_7 hx hZ hw hby hml hown rfl N_7 Z_7 pfF_size_a_7 pfF_keys_a_7 pfF_nodes_a_7 pfE_a_7 g_b_1 g_d__2 g_g__2 pfV_d_7 pfV_g_7 pfndg_2 (Nat.ne_of_lt (Nat.lt_of_lt_of_le A_1.lt pfsz_d_2)) (Nat.ne_of_lt (Nat.lt_of_lt_of_le A_1.lt pfsz_g_2))
  have Z_8 : n0 ≤ h_8.size := (Nat.le_trans Z_7 Kc_8.1)
  have K_8 : Keep h0 h_8 [] := K_7.trans Kc_8 (allS (Or.inr sz_b_1) (allS (Or.inr sz_d__2) (allS (Or.inr sz_g__2) all0)))
  obtain ⟨fs, hr, hrun, hended, hW, hsame⟩ := X_8.leave (v := some (.int (1 : Int32))) (fun h => by rw [Bd.returns] at h; cases h)
  refine ⟨_, _, pre0 _ ?_, hrun, hended, _, _, rfl, ?_, ⟨_, rfl⟩, hW, hsame.mono (by decide) (by decide)⟩
  · show oS pP eE below s₁ (mkF mM 0 (lc6 p1 p2 k1 k2 nd fl) []) _
    refine XS.iloadN X0.here hx rfl (hb hby at_0) rfl ?_
    refine XS.iconst X0.here hx rfl (hb hby at_1) ?_
    show oS pP eE below s₁ (mkF mM 2 (lc6 p1 p2 k1 k2 nd fl) [(.int (3 : Int32)), (.int p1)]) _
    refine XS.iand X0.here hx rfl (hb hby at_2) rfl ?_
    show oS pP eE below s₁ (mkF mM 3 (lc6 p1 p2 k1 k2 nd fl) [(.int (p1 &&& (3 : Int32)))]) _
    rw [hn]
    refine XS.istore X0.here hx rfl (hb hby at_3) rfl (l' := (lc76 p1 p2 k1 k2 nd fl)) rfl ?_
    refine XS.iloadN X0.here hx rfl (hb hby at_5) rfl ?_
    show oS pP eE below s₁ (mkF mM 6 (lc76 p1 p2 k1 k2 nd fl) [(.int p2)]) _
    refine X0.ldcI hx hown (mvT hZ (ow hw 0 rfl)) (g := (mkF mM 6 (lc76 p1 p2 k1 k2 nd fl) [(.int p2)])) rfl (hb hby at_6) ?_
    show oS pP eE below s₁ (mkF mM 8 (lc76 p1 p2 k1 k2 nd fl) [(.int (2147483647 : Int32)), (.int p2)]) _
    refine XS.iand X0.here hx rfl (hb hby at_8) rfl ?_
    refine XS.iload X0.here hx rfl (hb hby at_9) rfl ?_
    refine XS.iconst X0.here hx rfl (hb hby at_11) ?_
    show oS pP eE below s₁ (mkF mM 12 (lc76 p1 p2 k1 k2 nd fl) [(.int (1 : Int32)), (.int (3 : Int32)), (.int (p2 &&& (2147483647 : Int32)))]) _
    refine XS.iadd X0.here hx rfl (hb hby at_12) rfl ?_
    show oS pP eE below s₁ (mkF mM 13 (lc76 p1 p2 k1 k2 nd fl) [(.int ((3 : Int32) + (1 : Int32))), (.int (p2 &&& (2147483647 : Int32)))]) _
    rw [(by decide : ((3 : Int32) + (1 : Int32)) = (4 : Int32))]
    show oS pP eE below s₁ (mkF mM 13 (lc76 p1 p2 k1 k2 nd fl) [(.int (4 : Int32)), (.int (p2 &&& (2147483647 : Int32)))]) _
    refine iremM X0 hx rfl (hb hby at_13) rfl (by decide) ?_
    show oS pP eE below s₁ (mkF mM 14 (lc76 p1 p2 k1 k2 nd fl) [(.int ((p2 &&& (2147483647 : Int32)) % (4 : Int32)))]) _
    rw [ht]
    refine XS.istore X0.here hx rfl (hb hby at_14) rfl (l' := (lc88 p1 p2 k1 k2 nd fl)) rfl ?_
    refine XS.iload X0.here hx rfl (hb hby at_16) rfl ?_
    refine XS.iconst X0.here hx rfl (hb hby at_18) ?_
    show oS pP eE below s₁ (mkF mM 19 (lc88 p1 p2 k1 k2 nd fl) [(.int (1 : Int32)), (.int fl)]) _
    refine XS.iand X0.here hx rfl (hb hby at_19) rfl ?_
    refine XS.ifYes X0.here hx rfl (pc0 := 20) (pc' := 27) rfl (hb hby at_20) rfl (XT.i0_eq_t hc) (by decide) (by decide) ?_
    refine XS.iconst X0.here hx rfl (hb hby at_27) ?_
    refine XS.istore X0.here hx rfl (hb hby at_28) rfl (l' := (lc89 p1 p2 k1 k2 nd fl)) rfl ?_
    show oS pP eE below s₁ (mkF mM 30 (lc89 p1 p2 k1 k2 nd fl) []) _
    refine st_1 _ ?_
    show oS pP eE below T_1 (mkF mM 33 (lc89 p1 p2 k1 k2 nd fl) [(.ref b_1)]) _
    refine XS.dup X_1.here hx rfl (hb hby at_33) rfl rfl ?_
    show oS pP eE below T_1 (mkF mM 34 (lc89 p1 p2 k1 k2 nd fl) [(.ref b_1), (.ref b_1)]) _
    refine st_2.trans ?_
    show oS pP eE below T_2 (mkF mM 37 (lc89 p1 p2 k1 k2 nd fl) [(.ref b_1)]) _
    refine XS.astore X_2.here hx rfl (hb hby at_37) rfl rfl (l' := (lc90 p1 p2 k1 k2 nd fl b_1)) rfl ?_
    refine XS.aload X_2.here hx rfl (hb hby at_39) rfl rfl ?_
    show oS pP eE below T_2 (mkF mM 41 (lc90 p1 p2 k1 k2 nd fl b_1) [(.ref b_1)]) _
    refine st_3.trans ?_
    show oS pP eE below T_3 (mkF mM 44 (lc90 p1 p2 k1 k2 nd fl b_1) [(.int (1 : Int32))]) _
    refine XS.istore X_3.here hx rfl (hb hby at_44) rfl (l' := (lc91 p1 p2 k1 k2 nd fl b_1)) rfl ?_
    refine XS.iload X_3.here hx rfl (hb hby at_46) rfl ?_
    refine XS.iconst X_3.here hx rfl (hb hby at_48) ?_
    refine XS.icmpNo X_3.here hx rfl (hb hby at_49) rfl (by decide) ?_
    refine XS.aload X_3.here hx rfl (hb hby at_52) rfl rfl ?_
    refine XT.lloadN X_3.here hx rfl (hb hby at_54) rfl ?_
    refine XS.iload X_3.here hx rfl (hb hby at_55) rfl ?_
    show oS pP eE below T_3 (mkF mM 57 (lc91 p1 p2 k1 k2 nd fl b_1) [(.int nd), (.long k1), (.ref b_1)]) _
    refine st_4.trans ?_
    show oS pP eE below T_4 (mkF mM 60 (lc91 p1 p2 k1 k2 nd fl b_1) []) _
    refine XS.iload X_4.here hx rfl (hb hby at_60) rfl ?_
    refine XS.iconst X_4.here hx rfl (hb hby at_62) ?_
    refine XS.icmpNo X_4.here hx rfl (hb hby at_63) rfl (by decide) ?_
    refine XS.aload X_4.here hx rfl (hb hby at_66) rfl rfl ?_
    refine XT.lload X_4.here hx rfl (hb hby at_68) rfl ?_
    refine XS.iload X_4.here hx rfl (hb hby at_70) rfl ?_
    refine XS.iconst X_4.here hx rfl (hb hby at_72) ?_
    show oS pP eE below T_4 (mkF mM 73 (lc91 p1 p2 k1 k2 nd fl b_1) [(.int (1 : Int32)), (.int nd), (.long k2), (.ref b_1)]) _
    refine XS.iadd X_4.here hx rfl (hb hby at_73) rfl ?_
    show oS pP eE below T_4 (mkF mM 74 (lc91 p1 p2 k1 k2 nd fl b_1) [(.int (nd + (1 : Int32))), (.long k2), (.ref b_1)]) _
    refine st_5.trans ?_
    show oS pP eE below T_5 (mkF mM 77 (lc91 p1 p2 k1 k2 nd fl b_1) []) _
    refine XS.iload X_5.here hx rfl (hb hby at_77) rfl ?_
    refine XS.iconst X_5.here hx rfl (hb hby at_79) ?_
    refine XS.icmpNo X_5.here hx rfl (hb hby at_80) rfl (by decide) ?_
    refine XS.aload X_5.here hx rfl (hb hby at_83) rfl rfl ?_
    refine XT.lloadN X_5.here hx rfl (hb hby at_85) rfl ?_
    refine XT.lload X_5.here hx rfl (hb hby at_86) rfl ?_
    show oS pP eE below T_5 (mkF mM 88 (lc91 p1 p2 k1 k2 nd fl b_1) [(.long k2), (.long k1), (.ref b_1)]) _
    refine XT.lxor X_5.here hx rfl (hb hby at_88) rfl ?_
    refine XS.iload X_5.here hx rfl (hb hby at_89) rfl ?_
    refine XS.iconst X_5.here hx rfl (hb hby at_91) ?_
    show oS pP eE below T_5 (mkF mM 92 (lc91 p1 p2 k1 k2 nd fl b_1) [(.int (-1 : Int32)), (.int nd), (.long (k1 ^^^ k2)), (.ref b_1)]) _
    refine XT.ixor X_5.here hx rfl (hb hby at_92) rfl ?_
    show oS pP eE below T_5 (mkF mM 93 (lc91 p1 p2 k1 k2 nd fl b_1) [(.int (nd ^^^ (-1 : Int32))), (.long (k1 ^^^ k2)), (.ref b_1)]) _
    refine st_6.trans ?_
    show oS pP eE below T_6 (mkF mM 96 (lc91 p1 p2 k1 k2 nd fl b_1) []) _
    refine XS.iload X_6.here hx rfl (hb hby at_96) rfl ?_
    refine XS.iconst X_6.here hx rfl (hb hby at_98) ?_
    refine XS.icmpNo X_6.here hx rfl (hb hby at_99) rfl (by decide) ?_
    refine XS.aload X_6.here hx rfl (hb hby at_102) rfl rfl ?_
    show oS pP eE below T_6 (mkF mM 104 (lc91 p1 p2 k1 k2 nd fl b_1) [(.ref b_1)]) _
    refine st_7.trans ?_
    show oS pP eE below T_7 (mkF mM 107 (lc91 p1 p2 k1 k2 nd fl b_1) [(.int v0__6)]) _
    refine XT.pop X_7.here hx rfl (hb hby at_107) rfl rfl ?_
    refine XS.iload X_7.here hx rfl (hb hby at_108) rfl ?_
    refine XS.iconst X_7.here hx rfl (hb hby at_110) ?_
    refine XS.icmpYes X_7.here hx rfl (pc0 := 111) (pc' := 120) rfl (hb hby at_111) rfl (by decide) (by decide) (by decide) ?_
    refine XS.iload X_7.here hx rfl (hb hby at_120) rfl ?_
    refine XS.iconst X_7.here hx rfl (hb hby at_122) ?_
    refine XS.icmpYes X_7.here hx rfl (pc0 := 123) (pc' := 132) rfl (hb hby at_123) rfl (by decide) (by decide) (by decide) ?_
    refine XS.iload X_7.here hx rfl (hb hby at_132) rfl ?_
    show oS pP eE below T_7 (mkF mM 134 (lc91 p1 p2 k1 k2 nd fl b_1) [(.int (0 : Int32))]) _
    refine XS.ifYes X_7.here hx rfl (pc0 := 134) (pc' := 142) rfl (hb hby at_134) rfl (by decide) (by decide) (by decide) ?_
    refine XS.iload X_7.here hx rfl (hb hby at_142) rfl ?_
    refine XS.ifNo X_7.here hx rfl (hb hby at_144) rfl (by decide) ?_
    refine XS.iload X_7.here hx rfl (hb hby at_147) rfl ?_
    refine XS.iload X_7.here hx rfl (hb hby at_149) rfl ?_
    show oS pP eE below T_7 (mkF mM 151 (lc91 p1 p2 k1 k2 nd fl b_1) [(.int (1 : Int32)), (.int (3 : Int32))]) _
    refine XS.isub X_7.here hx rfl (hb hby at_151) rfl ?_
    show oS pP eE below T_7 (mkF mM 152 (lc91 p1 p2 k1 k2 nd fl b_1) [(.int ((3 : Int32) - (1 : Int32)))]) _
    rw [(by decide : ((3 : Int32) - (1 : Int32)) = (2 : Int32))]
    refine XS.ifYes X_7.here hx rfl (pc0 := 152) (pc' := 159) rfl (hb hby at_152) rfl (by decide) (by decide) (by decide) ?_
    refine XS.iconst X_7.here hx rfl (hb hby at_159) ?_
    refine XS.istore X_7.here hx rfl (hb hby at_160) rfl (l' := (lc92 p1 p2 k1 k2 nd fl b_1)) rfl ?_
    show oS pP eE below T_7 (mkF mM 162 (lc92 p1 p2 k1 k2 nd fl b_1) []) _
    refine st_8 _ ?_
    show oS pP eE below T_8 (mkF mM 207 (lc93 p1 p2 k1 k2 nd fl b_1) [(.int (1 : Int32))]) _
    exact retN X_8 hx (t := .boolean) Bd.returns (by simp) (hb hby at_207) hr
  · show Q_law310 Z p1 p2 k1 k2 nd fl h0 n0 _ T_8.heap _
    exact ⟨rfl, N_8⟩
abbrev lc94 (p1 : Int32) (p2 : Int32) (k1 : Int64) (k2 : Int64) (nd : Int32) (fl : Int32) : Array Slot := #[.val (.int p1), .val (.int p2), .val (.long k1), .second, .val (.long k2), .second, .val (.int nd), .val (.int fl), .val (.int (3 : Int32)), .val (.int (1 : Int32)), .val (.int (1 : Int32)), .unset, .unset, .unset, .unset, .unset]
abbrev lc95 (p1 : Int32) (p2 : Int32) (k1 : Int64) (k2 : Int64) (nd : Int32) (fl : Int32) (b_1 : Addr) : Array Slot := #[.val (.int p1), .val (.int p2), .val (.long k1), .second, .val (.long k2), .second, .val (.int nd), .val (.int fl), .val (.int (3 : Int32)), .val (.int (1 : Int32)), .val (.int (1 : Int32)), .val (.ref b_1), .unset, .unset, .unset, .unset]
abbrev lc96 (p1 : Int32) (p2 : Int32) (k1 : Int64) (k2 : Int64) (nd : Int32) (fl : Int32) (b_1 : Addr) : Array Slot := #[.val (.int p1), .val (.int p2), .val (.long k1), .second, .val (.long k2), .second, .val (.int nd), .val (.int fl), .val (.int (3 : Int32)), .val (.int (1 : Int32)), .val (.int (1 : Int32)), .val (.ref b_1), .val (.int (1 : Int32)), .unset, .unset, .unset]
abbrev lc97 (p1 : Int32) (p2 : Int32) (k1 : Int64) (k2 : Int64) (nd : Int32) (fl : Int32) (b_1 : Addr) : Array Slot := #[.val (.int p1), .val (.int p2), .val (.long k1), .second, .val (.long k2), .second, .val (.int nd), .val (.int fl), .val (.int (3 : Int32)), .val (.int (1 : Int32)), .val (.int (1 : Int32)), .val (.ref b_1), .val (.int (1 : Int32)), .val (.int (1 : Int32)), .unset, .unset]
abbrev lc98 (p1 : Int32) (p2 : Int32) (k1 : Int64) (k2 : Int64) (nd : Int32) (fl : Int32) (b_1 : Addr) : Array Slot := #[.val (.int p1), .val (.int p2), .val (.long k1), .second, .val (.long k2), .second, .val (.int nd), .val (.int fl), .val (.int (3 : Int32)), .val (.int (1 : Int32)), .val (.int (1 : Int32)), .val (.ref b_1), .val (.int (1 : Int32)), .val (.int (1 : Int32)), .val (.int (1 : Int32)), .val (.int (0 : Int32))]
theorem ef_law311 (mM : MethodId) (x0 : Int32) (x1 : Int32) (x2 : Int64) (x3 : Int64) (x4 : Int32) (x5 : Int32) : entryFrame mM #[(.int x0), (.int x1), (.long x2), (.long x3), (.int x4), (.int x5)] maxLocals = mkF mM 0 #[.val (.int x0), .val (.int x1), .val (.long x2), .second, .val (.long x3), .second, .val (.int x4), .val (.int x5), .unset, .unset, .unset, .unset, .unset, .unset, .unset, .unset] [] := by first | (simp [entryFrame, mkF, argsToLocals, Value.category, maxLocals]; done) | rfl
def Q_law311 (Z : State) (p1 : Int32) (p2 : Int32) (k1 : Int64) (k2 : Int64) (nd : Int32) (fl : Int32) (h0 : Heap) (n0 : Nat) (v_ : Option Value) (h_ : Heap) (L_ : List Loc) : Prop := v_ = some (.int (1 : Int32)) ∧ Fr n0 L_
set_option maxRecDepth 65536 in
set_option maxHeartbeats 40000000 in
theorem rm_law311 (l : Launch) (Z : State) (a0 : Array Value) (hw : ∀ d ∈ tables_1, d.before a0 Z = true) (ws : List Jvm.Cond) (p1 : Int32) (p2 : Int32) (k1 : Int64) (k2 : Int64) (nd : Int32) (fl : Int32) (h0 : Heap) (n0 : Nat) (Z0 : n0 ≤ h0.size) (hn : (p1 &&& (3 : Int32)) = (3 : Int32)) (ht : ((p2 &&& (2147483647 : Int32)) % (4 : Int32)) = (1 : Int32)) (hc : ¬ (fl &&& (1 : Int32)) = 0) :
    MetFree l x (head1 (Jvm.Cond.code x code maxLocals ret :: ws) room_1) (fun aa_ U_ => aa_ = #[(.int p1), (.int p2), (.long k1), (.long k2), (.int nd), (.int fl)] ∧ Z.Warmed39 U_.vm ∧ U_.heap = h0) (fun _ _ _ _ _ => True) (fun _ U_ o_ U'_ => ∃ v_ L_, o_ = .returned v_ ∧ Q_law311 Z p1 p2 k1 k2 nd fl h0 n0 v_ U'_.heap L_ ∧ FrameEnd U_ o_ U'_ L_ 3 35) := by
  refine MetFree.of_bodySF (plainFor_of_name pn_1) hisR ?_
  intro pP eE sS mM argsA below meth cC s₁ Bd hml0 hP hK
  obtain ⟨rfl, hZ, hh⟩ := hP
  have hx := Bd.exec
  have hby := Bd.bytes
  have hml : cC.maxLocals = 16 := hml0
  have hown : sS.vm.findClass "com/example/greenweft/greenweft/steiner/NodeHeapIsEmptyPinLaw" = some mM.cls := findClass_of_methodNamed Bd.named
  have hnm := (name_of_methodNamed Bd.named Bd.method).1
  have X0 : Stand pP l eE room_1 sS mM #[(.int p1), (.int p2), (.long k1), (.long k2), (.int nd), (.int fl)] below meth cC s₁ [] 0 0 := Stand.of_body Bd
  have e0 : s₁.heap = h0 := by rw [← hh, Bd.state]; rfl
  have N0 := Fr.nil n0
  have pre0 : ∀ t_, Steps pP.tables eE below (s₁.setTop (mkF mM 0 #[.val (.int p1), .val (.int p2), .val (.long k1), .second, .val (.long k2), .second, .val (.int nd), .val (.int fl), .unset, .unset, .unset, .unset, .unset, .unset, .unset, .unset] [])) t_ → Steps pP.tables eE below (s₁.setTop (entryFrame mM #[(.int p1), (.int p2), (.long k1), (.long k2), (.int nd), (.int fl)] maxLocals)) t_ := fun t_ k_ => castTop (ef_law311 mM p1 p2 k1 k2 nd fl) k_
  obtain ⟨T_1, h_1, X_1, e_1, E_1, A_1, D_1, -, st_1⟩ := newO X0 hx hZ hown (ow hw 1 rfl) (ow hw 2 rfl) (ow hw 3 rfl) e0 (g := (mkF mM 30 (lc94 p1 p2 k1 k2 nd fl) [])) rfl (hb hby at_30) (by decide) (by decide)
  obtain ⟨b_1, g_1⟩ : ∃ z, z = h0.size := ⟨_, rfl⟩
  rw [← g_1] at A_1 D_1 st_1
  have g_b_1 : n0 ≤ b_1 := Nat.le_trans Z0 (Nat.le_of_eq g_1.symm)
  have sz_b_1 : h0.size ≤ b_1 := Nat.le_trans (Keep.refl h0 []).1 (Nat.le_of_eq g_1.symm)
  have Z_1 : n0 ≤ h_1.size := (Nat.le_trans Z0 E_1.1)
  have K_1 : Keep h0 h_1 [] := (Keep.refl h0 []).ext E_1
  have F_keys_b_1__1 : Fld Z h_1 b_1 "com/example/greenweft/greenweft/steiner/NodeHeap" "keys" "[J" .null := D_1 (Or.inl (ow hw 12 rfl)) (ty := (.array .long)) (by decide)
  have F_nodes_b_1__1 : Fld Z h_1 b_1 "com/example/greenweft/greenweft/steiner/NodeHeap" "nodes" "[I" .null := D_1 (Or.inl (ow hw 15 rfl)) (ty := (.array .int)) (by decide)
  have F_size_b_1__1 : Fld Z h_1 b_1 "com/example/greenweft/greenweft/steiner/NodeHeap" "size" "I" (.int (0 : Int32)) := D_1 (Or.inl (ow hw 22 rfl)) (ty := .int) (by decide)
  obtain ⟨_, _, ⟨T_2, L_2, k_2, n_2⟩, -, X_2, ⟨Lc_2, hQ_2, l_2, y_2, z_2⟩, st_2⟩ := X_1.specialBack hx (y := MN3) rfl hown (mvT hZ (ow hw 4 rfl)) (mvT hZ (ow hw 5 rfl)) (mvT hZ (ow hw 6 rfl)) (by decide) (backOf (W := 1) (rm_init l Z a0 hw [] b_1 h_1 n0 Z_1 F_keys_b_1__1 F_nodes_b_1__1 F_size_b_1__1 A_1 g_b_1) hZ (ow hw 6 rfl) (ow hw 3 rfl) (by decide) (by decide)) (g := (mkF mM 34 (lc94 p1 p2 k1 k2 nd fl) [(.ref b_1), (.ref b_1)])) rfl (by rw [hml]; rfl) (Steps.refl _) (a := b_1) (argsL := []) (rest := [(.ref b_1)]) (lenOf pd_3 rfl) rfl (by show 2 * 0 + _ ≤ _; exact Nat.le_of_eq rfl) (hb hby at_34) (fun _ _ => ⟨rfl, e_1, (by decide : 1 + 2 ≤ _), (by decide : 3 + 32 ≤ _)⟩)
  dsimp only [Pt.U, Pt.locs, Pt.cells, Pt.slots] at X_2 l_2 y_2 z_2 st_2 hQ_2
  subst l_2 y_2 z_2
  obtain ⟨d__2, ⟨g__2, ⟨kd__2, ⟨kg__2, ⟨rfl, N_2q, Kc_2, pfsz_d_2, pfsz_g_2, pfndg_2, pfE_a_2, pfF_keys_a_2, pfF_nodes_a_2, pfF_size_a_2, pfV_d_2, pfV_g_2⟩⟩⟩⟩⟩ := hQ_2
  have Z_2 : n0 ≤ T_2.heap.size := (Nat.le_trans Z_1 Kc_2.1)
  have K_2 : Keep h0 T_2.heap [] := K_1.trans Kc_2 (allS (Or.inr sz_b_1) all0)
  have sz_d__2 : h0.size ≤ d__2 := Nat.le_trans K_1.1 pfsz_d_2
  have g_d__2 : n0 ≤ d__2 := Nat.le_trans Z_1 pfsz_d_2
  have sz_g__2 : h0.size ≤ g__2 := Nat.le_trans K_1.1 pfsz_g_2
  have g_g__2 : n0 ≤ g__2 := Nat.le_trans Z_1 pfsz_g_2
  have N_2 := Fr.app N0 N_2q
  obtain ⟨cq_3, kq_3, q_3a, q_3b, q_3c⟩ := isOf hZ rfl pfE_a_2
  obtain ⟨_, _, ⟨T_3, L_3, k_3, n_3⟩, -, X_3, ⟨Lc_3, hQ_3, l_3, y_3, z_3⟩, st_3⟩ := X_2.virtualBack hx (y := MN1) (z := MN1) hown (mvT hZ (ow hw 16 rfl)) (mvT hZ (ow hw 17 rfl)) (notFace_of_selects (args := #[]) (mvT hZ (ow hw 19 rfl))) (mvT hZ (ow hw 19 rfl)) (mvT hZ (ow hw 18 rfl)) (by decide) (backOf (W := 0) (rm_ie0 l Z a0 hw [] b_1 T_2.heap n0 Z_2 pfF_size_a_2) hZ (ow hw 20 rfl) (ow hw 3 rfl) (by decide) (by decide)) q_3a q_3c (g := (mkF mM 41 (lc95 p1 p2 k1 k2 nd fl b_1) [(.ref b_1)])) rfl (by rw [hml]; rfl) (Steps.refl _) (argsL := []) (rest := []) (lenOf pd_1 rfl) rfl (by show 2 * 0 + _ ≤ _; exact Nat.le_of_eq rfl) (hb hby at_41) (fun _ _ => ⟨rfl, rfl, (by decide : 3 + 0 ≤ _), (by decide : 35 + 0 ≤ _)⟩)
  dsimp only [Pt.U, Pt.locs, Pt.cells, Pt.slots] at X_3 l_3 y_3 z_3 st_3 hQ_3
  subst l_3 y_3 z_3
  obtain ⟨rfl, N_3q, eh_3⟩ := hQ_3
  have N_3 := Fr.app N_2 N_3q
  obtain ⟨cq_4, kq_4, q_4a, q_4b, q_4c⟩ := isOf hZ eh_3 pfE_a_2
  obtain ⟨_, _, ⟨T_4, L_4, k_4, n_4⟩, -, X_4, ⟨Lc_4, hQ_4, l_4, y_4, z_4⟩, st_4⟩ := X_3.virtualBack hx (y := MN2) (z := MN2) hown (mvT hZ (ow hw 28 rfl)) (mvT hZ (ow hw 29 rfl)) (notFace_of_selects (args := #[]) (mvT hZ (ow hw 31 rfl))) (mvT hZ (ow hw 31 rfl)) (mvT hZ (ow hw 30 rfl)) (by decide) (backOf (W := 0) (rm_add0 l Z a0 hw [] b_1 d__2 g__2 kd__2 kg__2 k1 nd (0 : Int64) (0 : Int64) (0 : Int64) (0 : Int64) (0 : Int32) (0 : Int32) (0 : Int32) (0 : Int32) T_2.heap n0 Z_2 pfF_size_a_2 pfF_keys_a_2 pfF_nodes_a_2 pfE_a_2 g_b_1 g_d__2 g_g__2 pfV_d_2 pfV_g_2 pfndg_2 (Nat.ne_of_lt (Nat.lt_of_lt_of_le A_1.lt pfsz_d_2)) (Nat.ne_of_lt (Nat.lt_of_lt_of_le A_1.lt pfsz_g_2))) hZ (ow hw 32 rfl) (ow hw 3 rfl) (by decide) (by decide)) q_4a q_4c (g := (mkF mM 57 (lc96 p1 p2 k1 k2 nd fl b_1) [(.int nd), (.long k1), (.ref b_1)])) rfl (by rw [hml]; rfl) (Steps.refl _) (argsL := [(.long k1), (.int nd)]) (rest := []) (lenOf pd_2 rfl) rfl (by show 2 * 0 + _ ≤ _; exact Nat.le_of_eq rfl) (hb hby at_57) (fun _ _ => ⟨rfl, eh_3, (by decide : 3 + 0 ≤ _), (by decide : 35 + 0 ≤ _)⟩)
  dsimp only [Pt.U, Pt.locs, Pt.cells, Pt.slots] at X_4 l_4 y_4 z_4 st_4 hQ_4
  subst l_4 y_4 z_4
  obtain ⟨u0__4, ⟨u1__4, ⟨u2__4, ⟨u3__4, ⟨v0__4, ⟨v1__4, ⟨v2__4, ⟨v3__4, ⟨rfl, N_4q, Kc_4, pfF_size_a_4, pfF_keys_a_4, pfF_nodes_a_4, pfE_a_4, pfV_d_4, pfV_g_4⟩⟩⟩⟩⟩⟩⟩⟩⟩ := hQ_4
  have Z_4 : n0 ≤ T_4.heap.size := (Nat.le_trans Z_2 Kc_4.1)
  have K_4 : Keep h0 T_4.heap [] := K_2.trans Kc_4 (allS (Or.inr sz_b_1) (allS (Or.inr sz_d__2) (allS (Or.inr sz_g__2) all0)))
  have N_4 := Fr.app N_3 N_4q
  obtain ⟨cq_5, kq_5, q_5a, q_5b, q_5c⟩ := isOf hZ rfl pfE_a_4
  obtain ⟨_, _, ⟨T_5, L_5, k_5, n_5⟩, -, X_5, ⟨Lc_5, hQ_5, l_5, y_5, z_5⟩, st_5⟩ := X_4.virtualBack hx (y := MN2) (z := MN2) hown (mvT hZ (ow hw 28 rfl)) (mvT hZ (ow hw 29 rfl)) (notFace_of_selects (args := #[]) (mvT hZ (ow hw 31 rfl))) (mvT hZ (ow hw 31 rfl)) (mvT hZ (ow hw 30 rfl)) (by decide) (backOf (W := 0) (rm_add1 l Z a0 hw [] b_1 d__2 g__2 kd__2 kg__2 k2 (nd + (1 : Int32)) u0__4 u1__4 u2__4 u3__4 v0__4 v1__4 v2__4 v3__4 T_4.heap n0 Z_4 pfF_size_a_4 pfF_keys_a_4 pfF_nodes_a_4 pfE_a_4 g_b_1 g_d__2 g_g__2 pfV_d_4 pfV_g_4 pfndg_2 (Nat.ne_of_lt (Nat.lt_of_lt_of_le A_1.lt pfsz_d_2)) (Nat.ne_of_lt (Nat.lt_of_lt_of_le A_1.lt pfsz_g_2))) hZ (ow hw 32 rfl) (ow hw 3 rfl) (by decide) (by decide)) q_5a q_5c (g := (mkF mM 74 (lc96 p1 p2 k1 k2 nd fl b_1) [(.int (nd + (1 : Int32))), (.long k2), (.ref b_1)])) rfl (by rw [hml]; rfl) (Steps.refl _) (argsL := [(.long k2), (.int (nd + (1 : Int32)))]) (rest := []) (lenOf pd_2 rfl) rfl (by show 2 * 0 + _ ≤ _; exact Nat.le_of_eq rfl) (hb hby at_74) (fun _ _ => ⟨rfl, rfl, (by decide : 3 + 0 ≤ _), (by decide : 35 + 0 ≤ _)⟩)
  dsimp only [Pt.U, Pt.locs, Pt.cells, Pt.slots] at X_5 l_5 y_5 z_5 st_5 hQ_5
  subst l_5 y_5 z_5
  obtain ⟨u0__5, ⟨u1__5, ⟨u2__5, ⟨u3__5, ⟨v0__5, ⟨v1__5, ⟨v2__5, ⟨v3__5, ⟨rfl, N_5q, Kc_5, pfF_size_a_5, pfF_keys_a_5, pfF_nodes_a_5, pfE_a_5, pfV_d_5, pfV_g_5⟩⟩⟩⟩⟩⟩⟩⟩⟩ := hQ_5
  have Z_5 : n0 ≤ T_5.heap.size := (Nat.le_trans Z_4 Kc_5.1)
  have K_5 : Keep h0 T_5.heap [] := K_4.trans Kc_5 (allS (Or.inr sz_b_1) (allS (Or.inr sz_d__2) (allS (Or.inr sz_g__2) all0)))
  have N_5 := Fr.app N_4 N_5q
  obtain ⟨cq_6, kq_6, q_6a, q_6b, q_6c⟩ := isOf hZ rfl pfE_a_5
  obtain ⟨_, _, ⟨T_6, L_6, k_6, n_6⟩, -, X_6, ⟨Lc_6, hQ_6, l_6, y_6, z_6⟩, st_6⟩ := X_5.virtualBack hx (y := MN2) (z := MN2) hown (mvT hZ (ow hw 28 rfl)) (mvT hZ (ow hw 29 rfl)) (notFace_of_selects (args := #[]) (mvT hZ (ow hw 31 rfl))) (mvT hZ (ow hw 31 rfl)) (mvT hZ (ow hw 30 rfl)) (by decide) (backOf (W := 0) (rm_add2 l Z a0 hw [] b_1 d__2 g__2 kd__2 kg__2 (k1 ^^^ k2) (nd ^^^ (-1 : Int32)) u0__5 u1__5 u2__5 u3__5 v0__5 v1__5 v2__5 v3__5 T_5.heap n0 Z_5 pfF_size_a_5 pfF_keys_a_5 pfF_nodes_a_5 pfE_a_5 g_b_1 g_d__2 g_g__2 pfV_d_5 pfV_g_5 pfndg_2 (Nat.ne_of_lt (Nat.lt_of_lt_of_le A_1.lt pfsz_d_2)) (Nat.ne_of_lt (Nat.lt_of_lt_of_le A_1.lt pfsz_g_2))) hZ (ow hw 32 rfl) (ow hw 3 rfl) (by decide) (by decide)) q_6a q_6c (g := (mkF mM 93 (lc96 p1 p2 k1 k2 nd fl b_1) [(.int (nd ^^^ (-1 : Int32))), (.long (k1 ^^^ k2)), (.ref b_1)])) rfl (by rw [hml]; rfl) (Steps.refl _) (argsL := [(.long (k1 ^^^ k2)), (.int (nd ^^^ (-1 : Int32)))]) (rest := []) (lenOf pd_2 rfl) rfl (by show 2 * 0 + _ ≤ _; exact Nat.le_of_eq rfl) (hb hby at_93) (fun _ _ => ⟨rfl, rfl, (by decide : 3 + 0 ≤ _), (by decide : 35 + 0 ≤ _)⟩)
  dsimp only [Pt.U, Pt.locs, Pt.cells, Pt.slots] at X_6 l_6 y_6 z_6 st_6 hQ_6
  subst l_6 y_6 z_6
  obtain ⟨u0__6, ⟨u1__6, ⟨u2__6, ⟨u3__6, ⟨v0__6, ⟨v1__6, ⟨v2__6, ⟨v3__6, ⟨rfl, N_6q, Kc_6, pfF_size_a_6, pfF_keys_a_6, pfF_nodes_a_6, pfE_a_6, pfV_d_6, pfV_g_6⟩⟩⟩⟩⟩⟩⟩⟩⟩ := hQ_6
  have Z_6 : n0 ≤ T_6.heap.size := (Nat.le_trans Z_5 Kc_6.1)
  have K_6 : Keep h0 T_6.heap [] := K_5.trans Kc_6 (allS (Or.inr sz_b_1) (allS (Or.inr sz_d__2) (allS (Or.inr sz_g__2) all0)))
  have N_6 := Fr.app N_5 N_6q
  obtain ⟨cq_7, kq_7, q_7a, q_7b, q_7c⟩ := isOf hZ rfl pfE_a_6
  obtain ⟨_, _, ⟨T_7, L_7, k_7, n_7⟩, -, X_7, ⟨Lc_7, hQ_7, l_7, y_7, z_7⟩, st_7⟩ := X_6.virtualBack hx (y := MN5) (z := MN5) hown (mvT hZ (ow hw 36 rfl)) (mvT hZ (ow hw 37 rfl)) (notFace_of_selects (args := #[]) (mvT hZ (ow hw 39 rfl))) (mvT hZ (ow hw 39 rfl)) (mvT hZ (ow hw 38 rfl)) (by decide) (backOf (W := 0) (rm_take3 l Z a0 hw [] b_1 d__2 g__2 kd__2 kg__2 u0__6 u1__6 u2__6 u3__6 v0__6 v1__6 v2__6 v3__6 T_6.heap n0 Z_6 pfF_size_a_6 pfF_keys_a_6 pfF_nodes_a_6 pfE_a_6 g_b_1 g_d__2 g_g__2 pfV_d_6 pfV_g_6 pfndg_2 (Nat.ne_of_lt (Nat.lt_of_lt_of_le A_1.lt pfsz_d_2)) (Nat.ne_of_lt (Nat.lt_of_lt_of_le A_1.lt pfsz_g_2))) hZ (ow hw 40 rfl) (ow hw 3 rfl) (by decide) (by decide)) q_7a q_7c (g := (mkF mM 104 (lc96 p1 p2 k1 k2 nd fl b_1) [(.ref b_1)])) rfl (by rw [hml]; rfl) (Steps.refl _) (argsL := []) (rest := []) (lenOf pd_4 rfl) rfl (by show 2 * 0 + _ ≤ _; exact Nat.le_of_eq rfl) (hb hby at_104) (fun _ _ => ⟨rfl, rfl, (by decide : 3 + 0 ≤ _), (by decide : 35 + 0 ≤ _)⟩)
  dsimp only [Pt.U, Pt.locs, Pt.cells, Pt.slots] at X_7 l_7 y_7 z_7 st_7 hQ_7
  subst l_7 y_7 z_7
  obtain ⟨u0__7, ⟨u1__7, ⟨u2__7, ⟨u3__7, ⟨v0__7, ⟨v1__7, ⟨v2__7, ⟨v3__7, ⟨rfl, N_7q, Kc_7, pfF_size_a_7, pfF_keys_a_7, pfF_nodes_a_7, pfE_a_7, pfV_d_7, pfV_g_7⟩⟩⟩⟩⟩⟩⟩⟩⟩ := hQ_7
  have Z_7 : n0 ≤ T_7.heap.size := (Nat.le_trans Z_6 Kc_7.1)
  have K_7 : Keep h0 T_7.heap [] := K_6.trans Kc_7 (allS (Or.inr sz_b_1) (allS (Or.inr sz_d__2) (allS (Or.inr sz_g__2) all0)))
  have N_7 := Fr.app N_6 N_7q
  obtain ⟨cq_8, kq_8, q_8a, q_8b, q_8c⟩ := isOf hZ rfl pfE_a_7
  obtain ⟨_, _, ⟨T_8, L_8, k_8, n_8⟩, -, X_8, ⟨Lc_8, hQ_8, l_8, y_8, z_8⟩, st_8⟩ := X_7.virtualBack hx (y := MN4) (z := MN4) hown (mvT hZ (ow hw 23 rfl)) (mvT hZ (ow hw 24 rfl)) (notFace_of_selects (args := #[]) (mvT hZ (ow hw 26 rfl))) (mvT hZ (ow hw 26 rfl)) (mvT hZ (ow hw 25 rfl)) (by decide) (backOf (W := 0) (rm_clear l Z a0 hw [] b_1 d__2 g__2 (2 : Int32) T_7.heap n0 Z_7 pfF_size_a_7 pfF_keys_a_7 pfF_nodes_a_7 pfE_a_7 g_b_1) hZ (ow hw 27 rfl) (ow hw 3 rfl) (by decide) (by decide)) q_8a q_8c (g := (mkF mM 139 (lc96 p1 p2 k1 k2 nd fl b_1) [(.ref b_1)])) rfl (by rw [hml]; rfl) (Steps.refl _) (argsL := []) (rest := []) (lenOf pd_3 rfl) rfl (by show 2 * 0 + _ ≤ _; exact Nat.le_of_eq rfl) (hb hby at_139) (fun _ _ => ⟨rfl, rfl, (by decide : 3 + 0 ≤ _), (by decide : 35 + 0 ≤ _)⟩)
  dsimp only [Pt.U, Pt.locs, Pt.cells, Pt.slots] at X_8 l_8 y_8 z_8 st_8 hQ_8
  subst l_8 y_8 z_8
  obtain ⟨rfl, N_8q, Kc_8, pfF_size_a_8, pfF_keys_a_8, pfF_nodes_a_8, pfE_a_8⟩ := hQ_8
  have Z_8 : n0 ≤ T_8.heap.size := (Nat.le_trans Z_7 Kc_8.1)
  have K_8 : Keep h0 T_8.heap [] := K_7.trans Kc_8 (allS (Or.inr sz_b_1) all0)
  have N_8 := Fr.app N_7 N_8q
  obtain ⟨T_9, h_9, L_9, X_9, e_9, N_9, Kc_9, st_9⟩ := pc_tail0 p1 p2 k1 k2 nd fl (3 : Int32) (1 : Int32) (1 : Int32) b_1 d__2 g__2 kd__2 kg__2 u0__7 u1__7 u2__7 u3__7 v0__7 v1__7 v2__7 v3__7 X_8 hx hZ hw hby hml hown rfl N_8 Z_8 pfF_size_a_8 pfF_keys_a_8 pfF_nodes_a_8 pfE_a_8 g_b_1 g_d__2 g_g__2 (pfV_d_7.keep Kc_8 (ninS (Ne.symm (Nat.ne_of_lt (Nat.lt_of_lt_of_le A_1.lt pfsz_d_2))) nin0)) (pfV_g_7.keep Kc_8 (ninS (Ne.symm (Nat.ne_of_lt (Nat.lt_of_lt_of_le A_1.lt pfsz_g_2))) nin0)) pfndg_2 (Nat.ne_of_lt (Nat.lt_of_lt_of_le A_1.lt pfsz_d_2)) (Nat.ne_of_lt (Nat.lt_of_lt_of_le A_1.lt pfsz_g_2))
  have Z_9 : n0 ≤ h_9.size := (Nat.le_trans Z_8 Kc_9.1)
  have K_9 : Keep h0 h_9 [] := K_8.trans Kc_9 (allS (Or.inr sz_b_1) (allS (Or.inr sz_d__2) (allS (Or.inr sz_g__2) all0)))
  obtain ⟨fs, hr, hrun, hended, hW, hsame⟩ := X_9.leave (v := some (.int (1 : Int32))) (fun h => by rw [Bd.returns] at h; cases h)
  refine ⟨_, _, pre0 _ ?_, hrun, hended, _, _, rfl, ?_, ⟨_, rfl⟩, hW, hsame.mono (by decide) (by decide)⟩
  · show oS pP eE below s₁ (mkF mM 0 (lc6 p1 p2 k1 k2 nd fl) []) _
    refine XS.iloadN X0.here hx rfl (hb hby at_0) rfl ?_
    refine XS.iconst X0.here hx rfl (hb hby at_1) ?_
    show oS pP eE below s₁ (mkF mM 2 (lc6 p1 p2 k1 k2 nd fl) [(.int (3 : Int32)), (.int p1)]) _
    refine XS.iand X0.here hx rfl (hb hby at_2) rfl ?_
    show oS pP eE below s₁ (mkF mM 3 (lc6 p1 p2 k1 k2 nd fl) [(.int (p1 &&& (3 : Int32)))]) _
    rw [hn]
    refine XS.istore X0.here hx rfl (hb hby at_3) rfl (l' := (lc76 p1 p2 k1 k2 nd fl)) rfl ?_
    refine XS.iloadN X0.here hx rfl (hb hby at_5) rfl ?_
    show oS pP eE below s₁ (mkF mM 6 (lc76 p1 p2 k1 k2 nd fl) [(.int p2)]) _
    refine X0.ldcI hx hown (mvT hZ (ow hw 0 rfl)) (g := (mkF mM 6 (lc76 p1 p2 k1 k2 nd fl) [(.int p2)])) rfl (hb hby at_6) ?_
    show oS pP eE below s₁ (mkF mM 8 (lc76 p1 p2 k1 k2 nd fl) [(.int (2147483647 : Int32)), (.int p2)]) _
    refine XS.iand X0.here hx rfl (hb hby at_8) rfl ?_
    refine XS.iload X0.here hx rfl (hb hby at_9) rfl ?_
    refine XS.iconst X0.here hx rfl (hb hby at_11) ?_
    show oS pP eE below s₁ (mkF mM 12 (lc76 p1 p2 k1 k2 nd fl) [(.int (1 : Int32)), (.int (3 : Int32)), (.int (p2 &&& (2147483647 : Int32)))]) _
    refine XS.iadd X0.here hx rfl (hb hby at_12) rfl ?_
    show oS pP eE below s₁ (mkF mM 13 (lc76 p1 p2 k1 k2 nd fl) [(.int ((3 : Int32) + (1 : Int32))), (.int (p2 &&& (2147483647 : Int32)))]) _
    rw [(by decide : ((3 : Int32) + (1 : Int32)) = (4 : Int32))]
    show oS pP eE below s₁ (mkF mM 13 (lc76 p1 p2 k1 k2 nd fl) [(.int (4 : Int32)), (.int (p2 &&& (2147483647 : Int32)))]) _
    refine iremM X0 hx rfl (hb hby at_13) rfl (by decide) ?_
    show oS pP eE below s₁ (mkF mM 14 (lc76 p1 p2 k1 k2 nd fl) [(.int ((p2 &&& (2147483647 : Int32)) % (4 : Int32)))]) _
    rw [ht]
    refine XS.istore X0.here hx rfl (hb hby at_14) rfl (l' := (lc88 p1 p2 k1 k2 nd fl)) rfl ?_
    refine XS.iload X0.here hx rfl (hb hby at_16) rfl ?_
    refine XS.iconst X0.here hx rfl (hb hby at_18) ?_
    show oS pP eE below s₁ (mkF mM 19 (lc88 p1 p2 k1 k2 nd fl) [(.int (1 : Int32)), (.int fl)]) _
    refine XS.iand X0.here hx rfl (hb hby at_19) rfl ?_
    refine XS.ifNo X0.here hx rfl (hb hby at_20) rfl (XT.i0_eq_f hc) ?_
    refine XS.iconst X0.here hx rfl (hb hby at_23) ?_
    refine XS.goto X0.here hx rfl (pc0 := 24) (pc' := 28) rfl (hb hby at_24) (by decide) (by decide) ?_
    refine XS.istore X0.here hx rfl (hb hby at_28) rfl (l' := (lc94 p1 p2 k1 k2 nd fl)) rfl ?_
    show oS pP eE below s₁ (mkF mM 30 (lc94 p1 p2 k1 k2 nd fl) []) _
    refine st_1 _ ?_
    show oS pP eE below T_1 (mkF mM 33 (lc94 p1 p2 k1 k2 nd fl) [(.ref b_1)]) _
    refine XS.dup X_1.here hx rfl (hb hby at_33) rfl rfl ?_
    show oS pP eE below T_1 (mkF mM 34 (lc94 p1 p2 k1 k2 nd fl) [(.ref b_1), (.ref b_1)]) _
    refine st_2.trans ?_
    show oS pP eE below T_2 (mkF mM 37 (lc94 p1 p2 k1 k2 nd fl) [(.ref b_1)]) _
    refine XS.astore X_2.here hx rfl (hb hby at_37) rfl rfl (l' := (lc95 p1 p2 k1 k2 nd fl b_1)) rfl ?_
    refine XS.aload X_2.here hx rfl (hb hby at_39) rfl rfl ?_
    show oS pP eE below T_2 (mkF mM 41 (lc95 p1 p2 k1 k2 nd fl b_1) [(.ref b_1)]) _
    refine st_3.trans ?_
    show oS pP eE below T_3 (mkF mM 44 (lc95 p1 p2 k1 k2 nd fl b_1) [(.int (1 : Int32))]) _
    refine XS.istore X_3.here hx rfl (hb hby at_44) rfl (l' := (lc96 p1 p2 k1 k2 nd fl b_1)) rfl ?_
    refine XS.iload X_3.here hx rfl (hb hby at_46) rfl ?_
    refine XS.iconst X_3.here hx rfl (hb hby at_48) ?_
    refine XS.icmpNo X_3.here hx rfl (hb hby at_49) rfl (by decide) ?_
    refine XS.aload X_3.here hx rfl (hb hby at_52) rfl rfl ?_
    refine XT.lloadN X_3.here hx rfl (hb hby at_54) rfl ?_
    refine XS.iload X_3.here hx rfl (hb hby at_55) rfl ?_
    show oS pP eE below T_3 (mkF mM 57 (lc96 p1 p2 k1 k2 nd fl b_1) [(.int nd), (.long k1), (.ref b_1)]) _
    refine st_4.trans ?_
    show oS pP eE below T_4 (mkF mM 60 (lc96 p1 p2 k1 k2 nd fl b_1) []) _
    refine XS.iload X_4.here hx rfl (hb hby at_60) rfl ?_
    refine XS.iconst X_4.here hx rfl (hb hby at_62) ?_
    refine XS.icmpNo X_4.here hx rfl (hb hby at_63) rfl (by decide) ?_
    refine XS.aload X_4.here hx rfl (hb hby at_66) rfl rfl ?_
    refine XT.lload X_4.here hx rfl (hb hby at_68) rfl ?_
    refine XS.iload X_4.here hx rfl (hb hby at_70) rfl ?_
    refine XS.iconst X_4.here hx rfl (hb hby at_72) ?_
    show oS pP eE below T_4 (mkF mM 73 (lc96 p1 p2 k1 k2 nd fl b_1) [(.int (1 : Int32)), (.int nd), (.long k2), (.ref b_1)]) _
    refine XS.iadd X_4.here hx rfl (hb hby at_73) rfl ?_
    show oS pP eE below T_4 (mkF mM 74 (lc96 p1 p2 k1 k2 nd fl b_1) [(.int (nd + (1 : Int32))), (.long k2), (.ref b_1)]) _
    refine st_5.trans ?_
    show oS pP eE below T_5 (mkF mM 77 (lc96 p1 p2 k1 k2 nd fl b_1) []) _
    refine XS.iload X_5.here hx rfl (hb hby at_77) rfl ?_
    refine XS.iconst X_5.here hx rfl (hb hby at_79) ?_
    refine XS.icmpNo X_5.here hx rfl (hb hby at_80) rfl (by decide) ?_
    refine XS.aload X_5.here hx rfl (hb hby at_83) rfl rfl ?_
    refine XT.lloadN X_5.here hx rfl (hb hby at_85) rfl ?_
    refine XT.lload X_5.here hx rfl (hb hby at_86) rfl ?_
    show oS pP eE below T_5 (mkF mM 88 (lc96 p1 p2 k1 k2 nd fl b_1) [(.long k2), (.long k1), (.ref b_1)]) _
    refine XT.lxor X_5.here hx rfl (hb hby at_88) rfl ?_
    refine XS.iload X_5.here hx rfl (hb hby at_89) rfl ?_
    refine XS.iconst X_5.here hx rfl (hb hby at_91) ?_
    show oS pP eE below T_5 (mkF mM 92 (lc96 p1 p2 k1 k2 nd fl b_1) [(.int (-1 : Int32)), (.int nd), (.long (k1 ^^^ k2)), (.ref b_1)]) _
    refine XT.ixor X_5.here hx rfl (hb hby at_92) rfl ?_
    show oS pP eE below T_5 (mkF mM 93 (lc96 p1 p2 k1 k2 nd fl b_1) [(.int (nd ^^^ (-1 : Int32))), (.long (k1 ^^^ k2)), (.ref b_1)]) _
    refine st_6.trans ?_
    show oS pP eE below T_6 (mkF mM 96 (lc96 p1 p2 k1 k2 nd fl b_1) []) _
    refine XS.iload X_6.here hx rfl (hb hby at_96) rfl ?_
    refine XS.iconst X_6.here hx rfl (hb hby at_98) ?_
    refine XS.icmpNo X_6.here hx rfl (hb hby at_99) rfl (by decide) ?_
    refine XS.aload X_6.here hx rfl (hb hby at_102) rfl rfl ?_
    show oS pP eE below T_6 (mkF mM 104 (lc96 p1 p2 k1 k2 nd fl b_1) [(.ref b_1)]) _
    refine st_7.trans ?_
    show oS pP eE below T_7 (mkF mM 107 (lc96 p1 p2 k1 k2 nd fl b_1) [(.int v0__6)]) _
    refine XT.pop X_7.here hx rfl (hb hby at_107) rfl rfl ?_
    refine XS.iload X_7.here hx rfl (hb hby at_108) rfl ?_
    refine XS.iconst X_7.here hx rfl (hb hby at_110) ?_
    refine XS.icmpYes X_7.here hx rfl (pc0 := 111) (pc' := 120) rfl (hb hby at_111) rfl (by decide) (by decide) (by decide) ?_
    refine XS.iload X_7.here hx rfl (hb hby at_120) rfl ?_
    refine XS.iconst X_7.here hx rfl (hb hby at_122) ?_
    refine XS.icmpYes X_7.here hx rfl (pc0 := 123) (pc' := 132) rfl (hb hby at_123) rfl (by decide) (by decide) (by decide) ?_
    refine XS.iload X_7.here hx rfl (hb hby at_132) rfl ?_
    show oS pP eE below T_7 (mkF mM 134 (lc96 p1 p2 k1 k2 nd fl b_1) [(.int (1 : Int32))]) _
    refine XS.ifNo X_7.here hx rfl (hb hby at_134) rfl (by decide) ?_
    refine XS.aload X_7.here hx rfl (hb hby at_137) rfl rfl ?_
    show oS pP eE below T_7 (mkF mM 139 (lc96 p1 p2 k1 k2 nd fl b_1) [(.ref b_1)]) _
    refine st_8.trans ?_
    show oS pP eE below T_8 (mkF mM 142 (lc96 p1 p2 k1 k2 nd fl b_1) []) _
    refine XS.iload X_8.here hx rfl (hb hby at_142) rfl ?_
    refine XS.ifYes X_8.here hx rfl (pc0 := 144) (pc' := 155) rfl (hb hby at_144) rfl (by decide) (by decide) (by decide) ?_
    refine XS.iconst X_8.here hx rfl (hb hby at_155) ?_
    refine XS.goto X_8.here hx rfl (pc0 := 156) (pc' := 160) rfl (hb hby at_156) (by decide) (by decide) ?_
    refine XS.istore X_8.here hx rfl (hb hby at_160) rfl (l' := (lc97 p1 p2 k1 k2 nd fl b_1)) rfl ?_
    show oS pP eE below T_8 (mkF mM 162 (lc97 p1 p2 k1 k2 nd fl b_1) []) _
    refine st_9 _ ?_
    show oS pP eE below T_9 (mkF mM 207 (lc98 p1 p2 k1 k2 nd fl b_1) [(.int (1 : Int32))]) _
    exact retN X_9 hx (t := .boolean) Bd.returns (by simp) (hb hby at_207) hr
  · show Q_law311 Z p1 p2 k1 k2 nd fl h0 n0 _ T_9.heap _
    exact ⟨rfl, N_9⟩
abbrev lc99 (p1 : Int32) (p2 : Int32) (k1 : Int64) (k2 : Int64) (nd : Int32) (fl : Int32) : Array Slot := #[.val (.int p1), .val (.int p2), .val (.long k1), .second, .val (.long k2), .second, .val (.int nd), .val (.int fl), .val (.int (3 : Int32)), .val (.int (2 : Int32)), .unset, .unset, .unset, .unset, .unset, .unset]
abbrev lc100 (p1 : Int32) (p2 : Int32) (k1 : Int64) (k2 : Int64) (nd : Int32) (fl : Int32) : Array Slot := #[.val (.int p1), .val (.int p2), .val (.long k1), .second, .val (.long k2), .second, .val (.int nd), .val (.int fl), .val (.int (3 : Int32)), .val (.int (2 : Int32)), .val (.int (0 : Int32)), .unset, .unset, .unset, .unset, .unset]
abbrev lc101 (p1 : Int32) (p2 : Int32) (k1 : Int64) (k2 : Int64) (nd : Int32) (fl : Int32) (b_1 : Addr) : Array Slot := #[.val (.int p1), .val (.int p2), .val (.long k1), .second, .val (.long k2), .second, .val (.int nd), .val (.int fl), .val (.int (3 : Int32)), .val (.int (2 : Int32)), .val (.int (0 : Int32)), .val (.ref b_1), .unset, .unset, .unset, .unset]
abbrev lc102 (p1 : Int32) (p2 : Int32) (k1 : Int64) (k2 : Int64) (nd : Int32) (fl : Int32) (b_1 : Addr) : Array Slot := #[.val (.int p1), .val (.int p2), .val (.long k1), .second, .val (.long k2), .second, .val (.int nd), .val (.int fl), .val (.int (3 : Int32)), .val (.int (2 : Int32)), .val (.int (0 : Int32)), .val (.ref b_1), .val (.int (1 : Int32)), .unset, .unset, .unset]
abbrev lc103 (p1 : Int32) (p2 : Int32) (k1 : Int64) (k2 : Int64) (nd : Int32) (fl : Int32) (b_1 : Addr) : Array Slot := #[.val (.int p1), .val (.int p2), .val (.long k1), .second, .val (.long k2), .second, .val (.int nd), .val (.int fl), .val (.int (3 : Int32)), .val (.int (2 : Int32)), .val (.int (0 : Int32)), .val (.ref b_1), .val (.int (1 : Int32)), .val (.int (0 : Int32)), .unset, .unset]
abbrev lc104 (p1 : Int32) (p2 : Int32) (k1 : Int64) (k2 : Int64) (nd : Int32) (fl : Int32) (b_1 : Addr) : Array Slot := #[.val (.int p1), .val (.int p2), .val (.long k1), .second, .val (.long k2), .second, .val (.int nd), .val (.int fl), .val (.int (3 : Int32)), .val (.int (2 : Int32)), .val (.int (0 : Int32)), .val (.ref b_1), .val (.int (1 : Int32)), .val (.int (0 : Int32)), .val (.int (0 : Int32)), .val (.int (0 : Int32))]
theorem ef_law320 (mM : MethodId) (x0 : Int32) (x1 : Int32) (x2 : Int64) (x3 : Int64) (x4 : Int32) (x5 : Int32) : entryFrame mM #[(.int x0), (.int x1), (.long x2), (.long x3), (.int x4), (.int x5)] maxLocals = mkF mM 0 #[.val (.int x0), .val (.int x1), .val (.long x2), .second, .val (.long x3), .second, .val (.int x4), .val (.int x5), .unset, .unset, .unset, .unset, .unset, .unset, .unset, .unset] [] := by first | (simp [entryFrame, mkF, argsToLocals, Value.category, maxLocals]; done) | rfl
def Q_law320 (Z : State) (p1 : Int32) (p2 : Int32) (k1 : Int64) (k2 : Int64) (nd : Int32) (fl : Int32) (h0 : Heap) (n0 : Nat) (v_ : Option Value) (h_ : Heap) (L_ : List Loc) : Prop := v_ = some (.int (1 : Int32)) ∧ Fr n0 L_
set_option maxRecDepth 65536 in
set_option maxHeartbeats 40000000 in
theorem rm_law320 (l : Launch) (Z : State) (a0 : Array Value) (hw : ∀ d ∈ tables_1, d.before a0 Z = true) (ws : List Jvm.Cond) (p1 : Int32) (p2 : Int32) (k1 : Int64) (k2 : Int64) (nd : Int32) (fl : Int32) (h0 : Heap) (n0 : Nat) (Z0 : n0 ≤ h0.size) (hn : (p1 &&& (3 : Int32)) = (3 : Int32)) (ht : ((p2 &&& (2147483647 : Int32)) % (4 : Int32)) = (2 : Int32)) (hc : (fl &&& (1 : Int32)) = 0) :
    MetFree l x (head1 (Jvm.Cond.code x code maxLocals ret :: ws) room_1) (fun aa_ U_ => aa_ = #[(.int p1), (.int p2), (.long k1), (.long k2), (.int nd), (.int fl)] ∧ Z.Warmed39 U_.vm ∧ U_.heap = h0) (fun _ _ _ _ _ => True) (fun _ U_ o_ U'_ => ∃ v_ L_, o_ = .returned v_ ∧ Q_law320 Z p1 p2 k1 k2 nd fl h0 n0 v_ U'_.heap L_ ∧ FrameEnd U_ o_ U'_ L_ 3 35) := by
  refine MetFree.of_bodySF (plainFor_of_name pn_1) hisR ?_
  intro pP eE sS mM argsA below meth cC s₁ Bd hml0 hP hK
  obtain ⟨rfl, hZ, hh⟩ := hP
  have hx := Bd.exec
  have hby := Bd.bytes
  have hml : cC.maxLocals = 16 := hml0
  have hown : sS.vm.findClass "com/example/greenweft/greenweft/steiner/NodeHeapIsEmptyPinLaw" = some mM.cls := findClass_of_methodNamed Bd.named
  have hnm := (name_of_methodNamed Bd.named Bd.method).1
  have X0 : Stand pP l eE room_1 sS mM #[(.int p1), (.int p2), (.long k1), (.long k2), (.int nd), (.int fl)] below meth cC s₁ [] 0 0 := Stand.of_body Bd
  have e0 : s₁.heap = h0 := by rw [← hh, Bd.state]; rfl
  have N0 := Fr.nil n0
  have pre0 : ∀ t_, Steps pP.tables eE below (s₁.setTop (mkF mM 0 #[.val (.int p1), .val (.int p2), .val (.long k1), .second, .val (.long k2), .second, .val (.int nd), .val (.int fl), .unset, .unset, .unset, .unset, .unset, .unset, .unset, .unset] [])) t_ → Steps pP.tables eE below (s₁.setTop (entryFrame mM #[(.int p1), (.int p2), (.long k1), (.long k2), (.int nd), (.int fl)] maxLocals)) t_ := fun t_ k_ => castTop (ef_law320 mM p1 p2 k1 k2 nd fl) k_
  obtain ⟨T_1, h_1, X_1, e_1, E_1, A_1, D_1, -, st_1⟩ := newO X0 hx hZ hown (ow hw 1 rfl) (ow hw 2 rfl) (ow hw 3 rfl) e0 (g := (mkF mM 30 (lc100 p1 p2 k1 k2 nd fl) [])) rfl (hb hby at_30) (by decide) (by decide)
  obtain ⟨b_1, g_1⟩ : ∃ z, z = h0.size := ⟨_, rfl⟩
  rw [← g_1] at A_1 D_1 st_1
  have g_b_1 : n0 ≤ b_1 := Nat.le_trans Z0 (Nat.le_of_eq g_1.symm)
  have sz_b_1 : h0.size ≤ b_1 := Nat.le_trans (Keep.refl h0 []).1 (Nat.le_of_eq g_1.symm)
  have Z_1 : n0 ≤ h_1.size := (Nat.le_trans Z0 E_1.1)
  have K_1 : Keep h0 h_1 [] := (Keep.refl h0 []).ext E_1
  have F_keys_b_1__1 : Fld Z h_1 b_1 "com/example/greenweft/greenweft/steiner/NodeHeap" "keys" "[J" .null := D_1 (Or.inl (ow hw 12 rfl)) (ty := (.array .long)) (by decide)
  have F_nodes_b_1__1 : Fld Z h_1 b_1 "com/example/greenweft/greenweft/steiner/NodeHeap" "nodes" "[I" .null := D_1 (Or.inl (ow hw 15 rfl)) (ty := (.array .int)) (by decide)
  have F_size_b_1__1 : Fld Z h_1 b_1 "com/example/greenweft/greenweft/steiner/NodeHeap" "size" "I" (.int (0 : Int32)) := D_1 (Or.inl (ow hw 22 rfl)) (ty := .int) (by decide)
  obtain ⟨_, _, ⟨T_2, L_2, k_2, n_2⟩, -, X_2, ⟨Lc_2, hQ_2, l_2, y_2, z_2⟩, st_2⟩ := X_1.specialBack hx (y := MN3) rfl hown (mvT hZ (ow hw 4 rfl)) (mvT hZ (ow hw 5 rfl)) (mvT hZ (ow hw 6 rfl)) (by decide) (backOf (W := 1) (rm_init l Z a0 hw [] b_1 h_1 n0 Z_1 F_keys_b_1__1 F_nodes_b_1__1 F_size_b_1__1 A_1 g_b_1) hZ (ow hw 6 rfl) (ow hw 3 rfl) (by decide) (by decide)) (g := (mkF mM 34 (lc100 p1 p2 k1 k2 nd fl) [(.ref b_1), (.ref b_1)])) rfl (by rw [hml]; rfl) (Steps.refl _) (a := b_1) (argsL := []) (rest := [(.ref b_1)]) (lenOf pd_3 rfl) rfl (by show 2 * 0 + _ ≤ _; exact Nat.le_of_eq rfl) (hb hby at_34) (fun _ _ => ⟨rfl, e_1, (by decide : 1 + 2 ≤ _), (by decide : 3 + 32 ≤ _)⟩)
  dsimp only [Pt.U, Pt.locs, Pt.cells, Pt.slots] at X_2 l_2 y_2 z_2 st_2 hQ_2
  subst l_2 y_2 z_2
  obtain ⟨d__2, ⟨g__2, ⟨kd__2, ⟨kg__2, ⟨rfl, N_2q, Kc_2, pfsz_d_2, pfsz_g_2, pfndg_2, pfE_a_2, pfF_keys_a_2, pfF_nodes_a_2, pfF_size_a_2, pfV_d_2, pfV_g_2⟩⟩⟩⟩⟩ := hQ_2
  have Z_2 : n0 ≤ T_2.heap.size := (Nat.le_trans Z_1 Kc_2.1)
  have K_2 : Keep h0 T_2.heap [] := K_1.trans Kc_2 (allS (Or.inr sz_b_1) all0)
  have sz_d__2 : h0.size ≤ d__2 := Nat.le_trans K_1.1 pfsz_d_2
  have g_d__2 : n0 ≤ d__2 := Nat.le_trans Z_1 pfsz_d_2
  have sz_g__2 : h0.size ≤ g__2 := Nat.le_trans K_1.1 pfsz_g_2
  have g_g__2 : n0 ≤ g__2 := Nat.le_trans Z_1 pfsz_g_2
  have N_2 := Fr.app N0 N_2q
  obtain ⟨cq_3, kq_3, q_3a, q_3b, q_3c⟩ := isOf hZ rfl pfE_a_2
  obtain ⟨_, _, ⟨T_3, L_3, k_3, n_3⟩, -, X_3, ⟨Lc_3, hQ_3, l_3, y_3, z_3⟩, st_3⟩ := X_2.virtualBack hx (y := MN1) (z := MN1) hown (mvT hZ (ow hw 16 rfl)) (mvT hZ (ow hw 17 rfl)) (notFace_of_selects (args := #[]) (mvT hZ (ow hw 19 rfl))) (mvT hZ (ow hw 19 rfl)) (mvT hZ (ow hw 18 rfl)) (by decide) (backOf (W := 0) (rm_ie0 l Z a0 hw [] b_1 T_2.heap n0 Z_2 pfF_size_a_2) hZ (ow hw 20 rfl) (ow hw 3 rfl) (by decide) (by decide)) q_3a q_3c (g := (mkF mM 41 (lc101 p1 p2 k1 k2 nd fl b_1) [(.ref b_1)])) rfl (by rw [hml]; rfl) (Steps.refl _) (argsL := []) (rest := []) (lenOf pd_1 rfl) rfl (by show 2 * 0 + _ ≤ _; exact Nat.le_of_eq rfl) (hb hby at_41) (fun _ _ => ⟨rfl, rfl, (by decide : 3 + 0 ≤ _), (by decide : 35 + 0 ≤ _)⟩)
  dsimp only [Pt.U, Pt.locs, Pt.cells, Pt.slots] at X_3 l_3 y_3 z_3 st_3 hQ_3
  subst l_3 y_3 z_3
  obtain ⟨rfl, N_3q, eh_3⟩ := hQ_3
  have N_3 := Fr.app N_2 N_3q
  obtain ⟨cq_4, kq_4, q_4a, q_4b, q_4c⟩ := isOf hZ eh_3 pfE_a_2
  obtain ⟨_, _, ⟨T_4, L_4, k_4, n_4⟩, -, X_4, ⟨Lc_4, hQ_4, l_4, y_4, z_4⟩, st_4⟩ := X_3.virtualBack hx (y := MN2) (z := MN2) hown (mvT hZ (ow hw 28 rfl)) (mvT hZ (ow hw 29 rfl)) (notFace_of_selects (args := #[]) (mvT hZ (ow hw 31 rfl))) (mvT hZ (ow hw 31 rfl)) (mvT hZ (ow hw 30 rfl)) (by decide) (backOf (W := 0) (rm_add0 l Z a0 hw [] b_1 d__2 g__2 kd__2 kg__2 k1 nd (0 : Int64) (0 : Int64) (0 : Int64) (0 : Int64) (0 : Int32) (0 : Int32) (0 : Int32) (0 : Int32) T_2.heap n0 Z_2 pfF_size_a_2 pfF_keys_a_2 pfF_nodes_a_2 pfE_a_2 g_b_1 g_d__2 g_g__2 pfV_d_2 pfV_g_2 pfndg_2 (Nat.ne_of_lt (Nat.lt_of_lt_of_le A_1.lt pfsz_d_2)) (Nat.ne_of_lt (Nat.lt_of_lt_of_le A_1.lt pfsz_g_2))) hZ (ow hw 32 rfl) (ow hw 3 rfl) (by decide) (by decide)) q_4a q_4c (g := (mkF mM 57 (lc102 p1 p2 k1 k2 nd fl b_1) [(.int nd), (.long k1), (.ref b_1)])) rfl (by rw [hml]; rfl) (Steps.refl _) (argsL := [(.long k1), (.int nd)]) (rest := []) (lenOf pd_2 rfl) rfl (by show 2 * 0 + _ ≤ _; exact Nat.le_of_eq rfl) (hb hby at_57) (fun _ _ => ⟨rfl, eh_3, (by decide : 3 + 0 ≤ _), (by decide : 35 + 0 ≤ _)⟩)
  dsimp only [Pt.U, Pt.locs, Pt.cells, Pt.slots] at X_4 l_4 y_4 z_4 st_4 hQ_4
  subst l_4 y_4 z_4
  obtain ⟨u0__4, ⟨u1__4, ⟨u2__4, ⟨u3__4, ⟨v0__4, ⟨v1__4, ⟨v2__4, ⟨v3__4, ⟨rfl, N_4q, Kc_4, pfF_size_a_4, pfF_keys_a_4, pfF_nodes_a_4, pfE_a_4, pfV_d_4, pfV_g_4⟩⟩⟩⟩⟩⟩⟩⟩⟩ := hQ_4
  have Z_4 : n0 ≤ T_4.heap.size := (Nat.le_trans Z_2 Kc_4.1)
  have K_4 : Keep h0 T_4.heap [] := K_2.trans Kc_4 (allS (Or.inr sz_b_1) (allS (Or.inr sz_d__2) (allS (Or.inr sz_g__2) all0)))
  have N_4 := Fr.app N_3 N_4q
  obtain ⟨cq_5, kq_5, q_5a, q_5b, q_5c⟩ := isOf hZ rfl pfE_a_4
  obtain ⟨_, _, ⟨T_5, L_5, k_5, n_5⟩, -, X_5, ⟨Lc_5, hQ_5, l_5, y_5, z_5⟩, st_5⟩ := X_4.virtualBack hx (y := MN2) (z := MN2) hown (mvT hZ (ow hw 28 rfl)) (mvT hZ (ow hw 29 rfl)) (notFace_of_selects (args := #[]) (mvT hZ (ow hw 31 rfl))) (mvT hZ (ow hw 31 rfl)) (mvT hZ (ow hw 30 rfl)) (by decide) (backOf (W := 0) (rm_add1 l Z a0 hw [] b_1 d__2 g__2 kd__2 kg__2 k2 (nd + (1 : Int32)) u0__4 u1__4 u2__4 u3__4 v0__4 v1__4 v2__4 v3__4 T_4.heap n0 Z_4 pfF_size_a_4 pfF_keys_a_4 pfF_nodes_a_4 pfE_a_4 g_b_1 g_d__2 g_g__2 pfV_d_4 pfV_g_4 pfndg_2 (Nat.ne_of_lt (Nat.lt_of_lt_of_le A_1.lt pfsz_d_2)) (Nat.ne_of_lt (Nat.lt_of_lt_of_le A_1.lt pfsz_g_2))) hZ (ow hw 32 rfl) (ow hw 3 rfl) (by decide) (by decide)) q_5a q_5c (g := (mkF mM 74 (lc102 p1 p2 k1 k2 nd fl b_1) [(.int (nd + (1 : Int32))), (.long k2), (.ref b_1)])) rfl (by rw [hml]; rfl) (Steps.refl _) (argsL := [(.long k2), (.int (nd + (1 : Int32)))]) (rest := []) (lenOf pd_2 rfl) rfl (by show 2 * 0 + _ ≤ _; exact Nat.le_of_eq rfl) (hb hby at_74) (fun _ _ => ⟨rfl, rfl, (by decide : 3 + 0 ≤ _), (by decide : 35 + 0 ≤ _)⟩)
  dsimp only [Pt.U, Pt.locs, Pt.cells, Pt.slots] at X_5 l_5 y_5 z_5 st_5 hQ_5
  subst l_5 y_5 z_5
  obtain ⟨u0__5, ⟨u1__5, ⟨u2__5, ⟨u3__5, ⟨v0__5, ⟨v1__5, ⟨v2__5, ⟨v3__5, ⟨rfl, N_5q, Kc_5, pfF_size_a_5, pfF_keys_a_5, pfF_nodes_a_5, pfE_a_5, pfV_d_5, pfV_g_5⟩⟩⟩⟩⟩⟩⟩⟩⟩ := hQ_5
  have Z_5 : n0 ≤ T_5.heap.size := (Nat.le_trans Z_4 Kc_5.1)
  have K_5 : Keep h0 T_5.heap [] := K_4.trans Kc_5 (allS (Or.inr sz_b_1) (allS (Or.inr sz_d__2) (allS (Or.inr sz_g__2) all0)))
  have N_5 := Fr.app N_4 N_5q
  obtain ⟨cq_6, kq_6, q_6a, q_6b, q_6c⟩ := isOf hZ rfl pfE_a_5
  obtain ⟨_, _, ⟨T_6, L_6, k_6, n_6⟩, -, X_6, ⟨Lc_6, hQ_6, l_6, y_6, z_6⟩, st_6⟩ := X_5.virtualBack hx (y := MN2) (z := MN2) hown (mvT hZ (ow hw 28 rfl)) (mvT hZ (ow hw 29 rfl)) (notFace_of_selects (args := #[]) (mvT hZ (ow hw 31 rfl))) (mvT hZ (ow hw 31 rfl)) (mvT hZ (ow hw 30 rfl)) (by decide) (backOf (W := 0) (rm_add2 l Z a0 hw [] b_1 d__2 g__2 kd__2 kg__2 (k1 ^^^ k2) (nd ^^^ (-1 : Int32)) u0__5 u1__5 u2__5 u3__5 v0__5 v1__5 v2__5 v3__5 T_5.heap n0 Z_5 pfF_size_a_5 pfF_keys_a_5 pfF_nodes_a_5 pfE_a_5 g_b_1 g_d__2 g_g__2 pfV_d_5 pfV_g_5 pfndg_2 (Nat.ne_of_lt (Nat.lt_of_lt_of_le A_1.lt pfsz_d_2)) (Nat.ne_of_lt (Nat.lt_of_lt_of_le A_1.lt pfsz_g_2))) hZ (ow hw 32 rfl) (ow hw 3 rfl) (by decide) (by decide)) q_6a q_6c (g := (mkF mM 93 (lc102 p1 p2 k1 k2 nd fl b_1) [(.int (nd ^^^ (-1 : Int32))), (.long (k1 ^^^ k2)), (.ref b_1)])) rfl (by rw [hml]; rfl) (Steps.refl _) (argsL := [(.long (k1 ^^^ k2)), (.int (nd ^^^ (-1 : Int32)))]) (rest := []) (lenOf pd_2 rfl) rfl (by show 2 * 0 + _ ≤ _; exact Nat.le_of_eq rfl) (hb hby at_93) (fun _ _ => ⟨rfl, rfl, (by decide : 3 + 0 ≤ _), (by decide : 35 + 0 ≤ _)⟩)
  dsimp only [Pt.U, Pt.locs, Pt.cells, Pt.slots] at X_6 l_6 y_6 z_6 st_6 hQ_6
  subst l_6 y_6 z_6
  obtain ⟨u0__6, ⟨u1__6, ⟨u2__6, ⟨u3__6, ⟨v0__6, ⟨v1__6, ⟨v2__6, ⟨v3__6, ⟨rfl, N_6q, Kc_6, pfF_size_a_6, pfF_keys_a_6, pfF_nodes_a_6, pfE_a_6, pfV_d_6, pfV_g_6⟩⟩⟩⟩⟩⟩⟩⟩⟩ := hQ_6
  have Z_6 : n0 ≤ T_6.heap.size := (Nat.le_trans Z_5 Kc_6.1)
  have K_6 : Keep h0 T_6.heap [] := K_5.trans Kc_6 (allS (Or.inr sz_b_1) (allS (Or.inr sz_d__2) (allS (Or.inr sz_g__2) all0)))
  have N_6 := Fr.app N_5 N_6q
  obtain ⟨cq_7, kq_7, q_7a, q_7b, q_7c⟩ := isOf hZ rfl pfE_a_6
  obtain ⟨_, _, ⟨T_7, L_7, k_7, n_7⟩, -, X_7, ⟨Lc_7, hQ_7, l_7, y_7, z_7⟩, st_7⟩ := X_6.virtualBack hx (y := MN5) (z := MN5) hown (mvT hZ (ow hw 36 rfl)) (mvT hZ (ow hw 37 rfl)) (notFace_of_selects (args := #[]) (mvT hZ (ow hw 39 rfl))) (mvT hZ (ow hw 39 rfl)) (mvT hZ (ow hw 38 rfl)) (by decide) (backOf (W := 0) (rm_take3 l Z a0 hw [] b_1 d__2 g__2 kd__2 kg__2 u0__6 u1__6 u2__6 u3__6 v0__6 v1__6 v2__6 v3__6 T_6.heap n0 Z_6 pfF_size_a_6 pfF_keys_a_6 pfF_nodes_a_6 pfE_a_6 g_b_1 g_d__2 g_g__2 pfV_d_6 pfV_g_6 pfndg_2 (Nat.ne_of_lt (Nat.lt_of_lt_of_le A_1.lt pfsz_d_2)) (Nat.ne_of_lt (Nat.lt_of_lt_of_le A_1.lt pfsz_g_2))) hZ (ow hw 40 rfl) (ow hw 3 rfl) (by decide) (by decide)) q_7a q_7c (g := (mkF mM 104 (lc102 p1 p2 k1 k2 nd fl b_1) [(.ref b_1)])) rfl (by rw [hml]; rfl) (Steps.refl _) (argsL := []) (rest := []) (lenOf pd_4 rfl) rfl (by show 2 * 0 + _ ≤ _; exact Nat.le_of_eq rfl) (hb hby at_104) (fun _ _ => ⟨rfl, rfl, (by decide : 3 + 0 ≤ _), (by decide : 35 + 0 ≤ _)⟩)
  dsimp only [Pt.U, Pt.locs, Pt.cells, Pt.slots] at X_7 l_7 y_7 z_7 st_7 hQ_7
  subst l_7 y_7 z_7
  obtain ⟨u0__7, ⟨u1__7, ⟨u2__7, ⟨u3__7, ⟨v0__7, ⟨v1__7, ⟨v2__7, ⟨v3__7, ⟨rfl, N_7q, Kc_7, pfF_size_a_7, pfF_keys_a_7, pfF_nodes_a_7, pfE_a_7, pfV_d_7, pfV_g_7⟩⟩⟩⟩⟩⟩⟩⟩⟩ := hQ_7
  have Z_7 : n0 ≤ T_7.heap.size := (Nat.le_trans Z_6 Kc_7.1)
  have K_7 : Keep h0 T_7.heap [] := K_6.trans Kc_7 (allS (Or.inr sz_b_1) (allS (Or.inr sz_d__2) (allS (Or.inr sz_g__2) all0)))
  have N_7 := Fr.app N_6 N_7q
  obtain ⟨cq_8, kq_8, q_8a, q_8b, q_8c⟩ := isOf hZ rfl pfE_a_7
  obtain ⟨_, _, ⟨T_8, L_8, k_8, n_8⟩, -, X_8, ⟨Lc_8, hQ_8, l_8, y_8, z_8⟩, st_8⟩ := X_7.virtualBack hx (y := MN5) (z := MN5) hown (mvT hZ (ow hw 36 rfl)) (mvT hZ (ow hw 37 rfl)) (notFace_of_selects (args := #[]) (mvT hZ (ow hw 39 rfl))) (mvT hZ (ow hw 39 rfl)) (mvT hZ (ow hw 38 rfl)) (by decide) (backOf (W := 0) (rm_take2 l Z a0 hw [] b_1 d__2 g__2 kd__2 kg__2 u0__7 u1__7 u2__7 u3__7 v0__7 v1__7 v2__7 v3__7 T_7.heap n0 Z_7 pfF_size_a_7 pfF_keys_a_7 pfF_nodes_a_7 pfE_a_7 g_b_1 g_d__2 g_g__2 pfV_d_7 pfV_g_7 pfndg_2 (Nat.ne_of_lt (Nat.lt_of_lt_of_le A_1.lt pfsz_d_2)) (Nat.ne_of_lt (Nat.lt_of_lt_of_le A_1.lt pfsz_g_2))) hZ (ow hw 40 rfl) (ow hw 3 rfl) (by decide) (by decide)) q_8a q_8c (g := (mkF mM 116 (lc102 p1 p2 k1 k2 nd fl b_1) [(.ref b_1)])) rfl (by rw [hml]; rfl) (Steps.refl _) (argsL := []) (rest := []) (lenOf pd_4 rfl) rfl (by show 2 * 0 + _ ≤ _; exact Nat.le_of_eq rfl) (hb hby at_116) (fun _ _ => ⟨rfl, rfl, (by decide : 3 + 0 ≤ _), (by decide : 35 + 0 ≤ _)⟩)
  dsimp only [Pt.U, Pt.locs, Pt.cells, Pt.slots] at X_8 l_8 y_8 z_8 st_8 hQ_8
  subst l_8 y_8 z_8
  obtain ⟨u0__8, ⟨u1__8, ⟨u2__8, ⟨u3__8, ⟨v0__8, ⟨v1__8, ⟨v2__8, ⟨v3__8, ⟨rfl, N_8q, Kc_8, pfF_size_a_8, pfF_keys_a_8, pfF_nodes_a_8, pfE_a_8, pfV_d_8, pfV_g_8⟩⟩⟩⟩⟩⟩⟩⟩⟩ := hQ_8
  have Z_8 : n0 ≤ T_8.heap.size := (Nat.le_trans Z_7 Kc_8.1)
  have K_8 : Keep h0 T_8.heap [] := K_7.trans Kc_8 (allS (Or.inr sz_b_1) (allS (Or.inr sz_d__2) (allS (Or.inr sz_g__2) all0)))
  have N_8 := Fr.app N_7 N_8q
  obtain ⟨T_9, h_9, L_9, X_9, e_9, N_9, Kc_9, st_9⟩ := pc_tail1 p1 p2 k1 k2 nd fl (3 : Int32) (2 : Int32) (0 : Int32) b_1 d__2 g__2 kd__2 kg__2 u0__8 u1__8 u2__8 u3__8 v0__8 v1__8 v2__8 v3__8 X_8 hx hZ hw hby hml hown rfl N_8 Z_8 pfF_size_a_8 pfF_keys_a_8 pfF_nodes_a_8 pfE_a_8 g_b_1 g_d__2 g_g__2 pfV_d_8 pfV_g_8 pfndg_2 (Nat.ne_of_lt (Nat.lt_of_lt_of_le A_1.lt pfsz_d_2)) (Nat.ne_of_lt (Nat.lt_of_lt_of_le A_1.lt pfsz_g_2))
  have Z_9 : n0 ≤ h_9.size := (Nat.le_trans Z_8 Kc_9.1)
  have K_9 : Keep h0 h_9 [] := K_8.trans Kc_9 (allS (Or.inr sz_b_1) (allS (Or.inr sz_d__2) (allS (Or.inr sz_g__2) all0)))
  obtain ⟨fs, hr, hrun, hended, hW, hsame⟩ := X_9.leave (v := some (.int (1 : Int32))) (fun h => by rw [Bd.returns] at h; cases h)
  refine ⟨_, _, pre0 _ ?_, hrun, hended, _, _, rfl, ?_, ⟨_, rfl⟩, hW, hsame.mono (by decide) (by decide)⟩
  · show oS pP eE below s₁ (mkF mM 0 (lc6 p1 p2 k1 k2 nd fl) []) _
    refine XS.iloadN X0.here hx rfl (hb hby at_0) rfl ?_
    refine XS.iconst X0.here hx rfl (hb hby at_1) ?_
    show oS pP eE below s₁ (mkF mM 2 (lc6 p1 p2 k1 k2 nd fl) [(.int (3 : Int32)), (.int p1)]) _
    refine XS.iand X0.here hx rfl (hb hby at_2) rfl ?_
    show oS pP eE below s₁ (mkF mM 3 (lc6 p1 p2 k1 k2 nd fl) [(.int (p1 &&& (3 : Int32)))]) _
    rw [hn]
    refine XS.istore X0.here hx rfl (hb hby at_3) rfl (l' := (lc76 p1 p2 k1 k2 nd fl)) rfl ?_
    refine XS.iloadN X0.here hx rfl (hb hby at_5) rfl ?_
    show oS pP eE below s₁ (mkF mM 6 (lc76 p1 p2 k1 k2 nd fl) [(.int p2)]) _
    refine X0.ldcI hx hown (mvT hZ (ow hw 0 rfl)) (g := (mkF mM 6 (lc76 p1 p2 k1 k2 nd fl) [(.int p2)])) rfl (hb hby at_6) ?_
    show oS pP eE below s₁ (mkF mM 8 (lc76 p1 p2 k1 k2 nd fl) [(.int (2147483647 : Int32)), (.int p2)]) _
    refine XS.iand X0.here hx rfl (hb hby at_8) rfl ?_
    refine XS.iload X0.here hx rfl (hb hby at_9) rfl ?_
    refine XS.iconst X0.here hx rfl (hb hby at_11) ?_
    show oS pP eE below s₁ (mkF mM 12 (lc76 p1 p2 k1 k2 nd fl) [(.int (1 : Int32)), (.int (3 : Int32)), (.int (p2 &&& (2147483647 : Int32)))]) _
    refine XS.iadd X0.here hx rfl (hb hby at_12) rfl ?_
    show oS pP eE below s₁ (mkF mM 13 (lc76 p1 p2 k1 k2 nd fl) [(.int ((3 : Int32) + (1 : Int32))), (.int (p2 &&& (2147483647 : Int32)))]) _
    rw [(by decide : ((3 : Int32) + (1 : Int32)) = (4 : Int32))]
    show oS pP eE below s₁ (mkF mM 13 (lc76 p1 p2 k1 k2 nd fl) [(.int (4 : Int32)), (.int (p2 &&& (2147483647 : Int32)))]) _
    refine iremM X0 hx rfl (hb hby at_13) rfl (by decide) ?_
    show oS pP eE below s₁ (mkF mM 14 (lc76 p1 p2 k1 k2 nd fl) [(.int ((p2 &&& (2147483647 : Int32)) % (4 : Int32)))]) _
    rw [ht]
    refine XS.istore X0.here hx rfl (hb hby at_14) rfl (l' := (lc99 p1 p2 k1 k2 nd fl)) rfl ?_
    refine XS.iload X0.here hx rfl (hb hby at_16) rfl ?_
    refine XS.iconst X0.here hx rfl (hb hby at_18) ?_
    show oS pP eE below s₁ (mkF mM 19 (lc99 p1 p2 k1 k2 nd fl) [(.int (1 : Int32)), (.int fl)]) _
    refine XS.iand X0.here hx rfl (hb hby at_19) rfl ?_
    refine XS.ifYes X0.here hx rfl (pc0 := 20) (pc' := 27) rfl (hb hby at_20) rfl (XT.i0_eq_t hc) (by decide) (by decide) ?_
    refine XS.iconst X0.here hx rfl (hb hby at_27) ?_
    refine XS.istore X0.here hx rfl (hb hby at_28) rfl (l' := (lc100 p1 p2 k1 k2 nd fl)) rfl ?_
    show oS pP eE below s₁ (mkF mM 30 (lc100 p1 p2 k1 k2 nd fl) []) _
    refine st_1 _ ?_
    show oS pP eE below T_1 (mkF mM 33 (lc100 p1 p2 k1 k2 nd fl) [(.ref b_1)]) _
    refine XS.dup X_1.here hx rfl (hb hby at_33) rfl rfl ?_
    show oS pP eE below T_1 (mkF mM 34 (lc100 p1 p2 k1 k2 nd fl) [(.ref b_1), (.ref b_1)]) _
    refine st_2.trans ?_
    show oS pP eE below T_2 (mkF mM 37 (lc100 p1 p2 k1 k2 nd fl) [(.ref b_1)]) _
    refine XS.astore X_2.here hx rfl (hb hby at_37) rfl rfl (l' := (lc101 p1 p2 k1 k2 nd fl b_1)) rfl ?_
    refine XS.aload X_2.here hx rfl (hb hby at_39) rfl rfl ?_
    show oS pP eE below T_2 (mkF mM 41 (lc101 p1 p2 k1 k2 nd fl b_1) [(.ref b_1)]) _
    refine st_3.trans ?_
    show oS pP eE below T_3 (mkF mM 44 (lc101 p1 p2 k1 k2 nd fl b_1) [(.int (1 : Int32))]) _
    refine XS.istore X_3.here hx rfl (hb hby at_44) rfl (l' := (lc102 p1 p2 k1 k2 nd fl b_1)) rfl ?_
    refine XS.iload X_3.here hx rfl (hb hby at_46) rfl ?_
    refine XS.iconst X_3.here hx rfl (hb hby at_48) ?_
    refine XS.icmpNo X_3.here hx rfl (hb hby at_49) rfl (by decide) ?_
    refine XS.aload X_3.here hx rfl (hb hby at_52) rfl rfl ?_
    refine XT.lloadN X_3.here hx rfl (hb hby at_54) rfl ?_
    refine XS.iload X_3.here hx rfl (hb hby at_55) rfl ?_
    show oS pP eE below T_3 (mkF mM 57 (lc102 p1 p2 k1 k2 nd fl b_1) [(.int nd), (.long k1), (.ref b_1)]) _
    refine st_4.trans ?_
    show oS pP eE below T_4 (mkF mM 60 (lc102 p1 p2 k1 k2 nd fl b_1) []) _
    refine XS.iload X_4.here hx rfl (hb hby at_60) rfl ?_
    refine XS.iconst X_4.here hx rfl (hb hby at_62) ?_
    refine XS.icmpNo X_4.here hx rfl (hb hby at_63) rfl (by decide) ?_
    refine XS.aload X_4.here hx rfl (hb hby at_66) rfl rfl ?_
    refine XT.lload X_4.here hx rfl (hb hby at_68) rfl ?_
    refine XS.iload X_4.here hx rfl (hb hby at_70) rfl ?_
    refine XS.iconst X_4.here hx rfl (hb hby at_72) ?_
    show oS pP eE below T_4 (mkF mM 73 (lc102 p1 p2 k1 k2 nd fl b_1) [(.int (1 : Int32)), (.int nd), (.long k2), (.ref b_1)]) _
    refine XS.iadd X_4.here hx rfl (hb hby at_73) rfl ?_
    show oS pP eE below T_4 (mkF mM 74 (lc102 p1 p2 k1 k2 nd fl b_1) [(.int (nd + (1 : Int32))), (.long k2), (.ref b_1)]) _
    refine st_5.trans ?_
    show oS pP eE below T_5 (mkF mM 77 (lc102 p1 p2 k1 k2 nd fl b_1) []) _
    refine XS.iload X_5.here hx rfl (hb hby at_77) rfl ?_
    refine XS.iconst X_5.here hx rfl (hb hby at_79) ?_
    refine XS.icmpNo X_5.here hx rfl (hb hby at_80) rfl (by decide) ?_
    refine XS.aload X_5.here hx rfl (hb hby at_83) rfl rfl ?_
    refine XT.lloadN X_5.here hx rfl (hb hby at_85) rfl ?_
    refine XT.lload X_5.here hx rfl (hb hby at_86) rfl ?_
    show oS pP eE below T_5 (mkF mM 88 (lc102 p1 p2 k1 k2 nd fl b_1) [(.long k2), (.long k1), (.ref b_1)]) _
    refine XT.lxor X_5.here hx rfl (hb hby at_88) rfl ?_
    refine XS.iload X_5.here hx rfl (hb hby at_89) rfl ?_
    refine XS.iconst X_5.here hx rfl (hb hby at_91) ?_
    show oS pP eE below T_5 (mkF mM 92 (lc102 p1 p2 k1 k2 nd fl b_1) [(.int (-1 : Int32)), (.int nd), (.long (k1 ^^^ k2)), (.ref b_1)]) _
    refine XT.ixor X_5.here hx rfl (hb hby at_92) rfl ?_
    show oS pP eE below T_5 (mkF mM 93 (lc102 p1 p2 k1 k2 nd fl b_1) [(.int (nd ^^^ (-1 : Int32))), (.long (k1 ^^^ k2)), (.ref b_1)]) _
    refine st_6.trans ?_
    show oS pP eE below T_6 (mkF mM 96 (lc102 p1 p2 k1 k2 nd fl b_1) []) _
    refine XS.iload X_6.here hx rfl (hb hby at_96) rfl ?_
    refine XS.iconst X_6.here hx rfl (hb hby at_98) ?_
    refine XS.icmpNo X_6.here hx rfl (hb hby at_99) rfl (by decide) ?_
    refine XS.aload X_6.here hx rfl (hb hby at_102) rfl rfl ?_
    show oS pP eE below T_6 (mkF mM 104 (lc102 p1 p2 k1 k2 nd fl b_1) [(.ref b_1)]) _
    refine st_7.trans ?_
    show oS pP eE below T_7 (mkF mM 107 (lc102 p1 p2 k1 k2 nd fl b_1) [(.int v0__6)]) _
    refine XT.pop X_7.here hx rfl (hb hby at_107) rfl rfl ?_
    refine XS.iload X_7.here hx rfl (hb hby at_108) rfl ?_
    refine XS.iconst X_7.here hx rfl (hb hby at_110) ?_
    refine XS.icmpNo X_7.here hx rfl (hb hby at_111) rfl (by decide) ?_
    refine XS.aload X_7.here hx rfl (hb hby at_114) rfl rfl ?_
    show oS pP eE below T_7 (mkF mM 116 (lc102 p1 p2 k1 k2 nd fl b_1) [(.ref b_1)]) _
    refine st_8.trans ?_
    show oS pP eE below T_8 (mkF mM 119 (lc102 p1 p2 k1 k2 nd fl b_1) [(.int v0__7)]) _
    refine XT.pop X_8.here hx rfl (hb hby at_119) rfl rfl ?_
    refine XS.iload X_8.here hx rfl (hb hby at_120) rfl ?_
    refine XS.iconst X_8.here hx rfl (hb hby at_122) ?_
    refine XS.icmpYes X_8.here hx rfl (pc0 := 123) (pc' := 132) rfl (hb hby at_123) rfl (by decide) (by decide) (by decide) ?_
    refine XS.iload X_8.here hx rfl (hb hby at_132) rfl ?_
    refine XS.ifYes X_8.here hx rfl (pc0 := 134) (pc' := 142) rfl (hb hby at_134) rfl (by decide) (by decide) (by decide) ?_
    refine XS.iload X_8.here hx rfl (hb hby at_142) rfl ?_
    refine XS.ifNo X_8.here hx rfl (hb hby at_144) rfl (by decide) ?_
    show oS pP eE below T_8 (mkF mM 147 (lc102 p1 p2 k1 k2 nd fl b_1) []) _
    refine XS.iload X_8.here hx rfl (hb hby at_147) rfl ?_
    refine XS.iload X_8.here hx rfl (hb hby at_149) rfl ?_
    show oS pP eE below T_8 (mkF mM 151 (lc102 p1 p2 k1 k2 nd fl b_1) [(.int (2 : Int32)), (.int (3 : Int32))]) _
    refine XS.isub X_8.here hx rfl (hb hby at_151) rfl ?_
    show oS pP eE below T_8 (mkF mM 152 (lc102 p1 p2 k1 k2 nd fl b_1) [(.int ((3 : Int32) - (2 : Int32)))]) _
    rw [(by decide : ((3 : Int32) - (2 : Int32)) = (1 : Int32))]
    refine XS.ifYes X_8.here hx rfl (pc0 := 152) (pc' := 159) rfl (hb hby at_152) rfl (by decide) (by decide) (by decide) ?_
    refine XS.iconst X_8.here hx rfl (hb hby at_159) ?_
    refine XS.istore X_8.here hx rfl (hb hby at_160) rfl (l' := (lc103 p1 p2 k1 k2 nd fl b_1)) rfl ?_
    show oS pP eE below T_8 (mkF mM 162 (lc103 p1 p2 k1 k2 nd fl b_1) []) _
    refine st_9 _ ?_
    show oS pP eE below T_9 (mkF mM 207 (lc104 p1 p2 k1 k2 nd fl b_1) [(.int (1 : Int32))]) _
    exact retN X_9 hx (t := .boolean) Bd.returns (by simp) (hb hby at_207) hr
  · show Q_law320 Z p1 p2 k1 k2 nd fl h0 n0 _ T_9.heap _
    exact ⟨rfl, N_9⟩
abbrev lc105 (p1 : Int32) (p2 : Int32) (k1 : Int64) (k2 : Int64) (nd : Int32) (fl : Int32) : Array Slot := #[.val (.int p1), .val (.int p2), .val (.long k1), .second, .val (.long k2), .second, .val (.int nd), .val (.int fl), .val (.int (3 : Int32)), .val (.int (2 : Int32)), .val (.int (1 : Int32)), .unset, .unset, .unset, .unset, .unset]
abbrev lc106 (p1 : Int32) (p2 : Int32) (k1 : Int64) (k2 : Int64) (nd : Int32) (fl : Int32) (b_1 : Addr) : Array Slot := #[.val (.int p1), .val (.int p2), .val (.long k1), .second, .val (.long k2), .second, .val (.int nd), .val (.int fl), .val (.int (3 : Int32)), .val (.int (2 : Int32)), .val (.int (1 : Int32)), .val (.ref b_1), .unset, .unset, .unset, .unset]
abbrev lc107 (p1 : Int32) (p2 : Int32) (k1 : Int64) (k2 : Int64) (nd : Int32) (fl : Int32) (b_1 : Addr) : Array Slot := #[.val (.int p1), .val (.int p2), .val (.long k1), .second, .val (.long k2), .second, .val (.int nd), .val (.int fl), .val (.int (3 : Int32)), .val (.int (2 : Int32)), .val (.int (1 : Int32)), .val (.ref b_1), .val (.int (1 : Int32)), .unset, .unset, .unset]
abbrev lc108 (p1 : Int32) (p2 : Int32) (k1 : Int64) (k2 : Int64) (nd : Int32) (fl : Int32) (b_1 : Addr) : Array Slot := #[.val (.int p1), .val (.int p2), .val (.long k1), .second, .val (.long k2), .second, .val (.int nd), .val (.int fl), .val (.int (3 : Int32)), .val (.int (2 : Int32)), .val (.int (1 : Int32)), .val (.ref b_1), .val (.int (1 : Int32)), .val (.int (1 : Int32)), .unset, .unset]
abbrev lc109 (p1 : Int32) (p2 : Int32) (k1 : Int64) (k2 : Int64) (nd : Int32) (fl : Int32) (b_1 : Addr) : Array Slot := #[.val (.int p1), .val (.int p2), .val (.long k1), .second, .val (.long k2), .second, .val (.int nd), .val (.int fl), .val (.int (3 : Int32)), .val (.int (2 : Int32)), .val (.int (1 : Int32)), .val (.ref b_1), .val (.int (1 : Int32)), .val (.int (1 : Int32)), .val (.int (1 : Int32)), .val (.int (0 : Int32))]
theorem ef_law321 (mM : MethodId) (x0 : Int32) (x1 : Int32) (x2 : Int64) (x3 : Int64) (x4 : Int32) (x5 : Int32) : entryFrame mM #[(.int x0), (.int x1), (.long x2), (.long x3), (.int x4), (.int x5)] maxLocals = mkF mM 0 #[.val (.int x0), .val (.int x1), .val (.long x2), .second, .val (.long x3), .second, .val (.int x4), .val (.int x5), .unset, .unset, .unset, .unset, .unset, .unset, .unset, .unset] [] := by first | (simp [entryFrame, mkF, argsToLocals, Value.category, maxLocals]; done) | rfl
def Q_law321 (Z : State) (p1 : Int32) (p2 : Int32) (k1 : Int64) (k2 : Int64) (nd : Int32) (fl : Int32) (h0 : Heap) (n0 : Nat) (v_ : Option Value) (h_ : Heap) (L_ : List Loc) : Prop := v_ = some (.int (1 : Int32)) ∧ Fr n0 L_
set_option maxRecDepth 65536 in
set_option maxHeartbeats 40000000 in
theorem rm_law321 (l : Launch) (Z : State) (a0 : Array Value) (hw : ∀ d ∈ tables_1, d.before a0 Z = true) (ws : List Jvm.Cond) (p1 : Int32) (p2 : Int32) (k1 : Int64) (k2 : Int64) (nd : Int32) (fl : Int32) (h0 : Heap) (n0 : Nat) (Z0 : n0 ≤ h0.size) (hn : (p1 &&& (3 : Int32)) = (3 : Int32)) (ht : ((p2 &&& (2147483647 : Int32)) % (4 : Int32)) = (2 : Int32)) (hc : ¬ (fl &&& (1 : Int32)) = 0) :
    MetFree l x (head1 (Jvm.Cond.code x code maxLocals ret :: ws) room_1) (fun aa_ U_ => aa_ = #[(.int p1), (.int p2), (.long k1), (.long k2), (.int nd), (.int fl)] ∧ Z.Warmed39 U_.vm ∧ U_.heap = h0) (fun _ _ _ _ _ => True) (fun _ U_ o_ U'_ => ∃ v_ L_, o_ = .returned v_ ∧ Q_law321 Z p1 p2 k1 k2 nd fl h0 n0 v_ U'_.heap L_ ∧ FrameEnd U_ o_ U'_ L_ 3 35) := by
  refine MetFree.of_bodySF (plainFor_of_name pn_1) hisR ?_
  intro pP eE sS mM argsA below meth cC s₁ Bd hml0 hP hK
  obtain ⟨rfl, hZ, hh⟩ := hP
  have hx := Bd.exec
  have hby := Bd.bytes
  have hml : cC.maxLocals = 16 := hml0
  have hown : sS.vm.findClass "com/example/greenweft/greenweft/steiner/NodeHeapIsEmptyPinLaw" = some mM.cls := findClass_of_methodNamed Bd.named
  have hnm := (name_of_methodNamed Bd.named Bd.method).1
  have X0 : Stand pP l eE room_1 sS mM #[(.int p1), (.int p2), (.long k1), (.long k2), (.int nd), (.int fl)] below meth cC s₁ [] 0 0 := Stand.of_body Bd
  have e0 : s₁.heap = h0 := by rw [← hh, Bd.state]; rfl
  have N0 := Fr.nil n0
  have pre0 : ∀ t_, Steps pP.tables eE below (s₁.setTop (mkF mM 0 #[.val (.int p1), .val (.int p2), .val (.long k1), .second, .val (.long k2), .second, .val (.int nd), .val (.int fl), .unset, .unset, .unset, .unset, .unset, .unset, .unset, .unset] [])) t_ → Steps pP.tables eE below (s₁.setTop (entryFrame mM #[(.int p1), (.int p2), (.long k1), (.long k2), (.int nd), (.int fl)] maxLocals)) t_ := fun t_ k_ => castTop (ef_law321 mM p1 p2 k1 k2 nd fl) k_
  obtain ⟨T_1, h_1, X_1, e_1, E_1, A_1, D_1, -, st_1⟩ := newO X0 hx hZ hown (ow hw 1 rfl) (ow hw 2 rfl) (ow hw 3 rfl) e0 (g := (mkF mM 30 (lc105 p1 p2 k1 k2 nd fl) [])) rfl (hb hby at_30) (by decide) (by decide)
  obtain ⟨b_1, g_1⟩ : ∃ z, z = h0.size := ⟨_, rfl⟩
  rw [← g_1] at A_1 D_1 st_1
  have g_b_1 : n0 ≤ b_1 := Nat.le_trans Z0 (Nat.le_of_eq g_1.symm)
  have sz_b_1 : h0.size ≤ b_1 := Nat.le_trans (Keep.refl h0 []).1 (Nat.le_of_eq g_1.symm)
  have Z_1 : n0 ≤ h_1.size := (Nat.le_trans Z0 E_1.1)
  have K_1 : Keep h0 h_1 [] := (Keep.refl h0 []).ext E_1
  have F_keys_b_1__1 : Fld Z h_1 b_1 "com/example/greenweft/greenweft/steiner/NodeHeap" "keys" "[J" .null := D_1 (Or.inl (ow hw 12 rfl)) (ty := (.array .long)) (by decide)
  have F_nodes_b_1__1 : Fld Z h_1 b_1 "com/example/greenweft/greenweft/steiner/NodeHeap" "nodes" "[I" .null := D_1 (Or.inl (ow hw 15 rfl)) (ty := (.array .int)) (by decide)
  have F_size_b_1__1 : Fld Z h_1 b_1 "com/example/greenweft/greenweft/steiner/NodeHeap" "size" "I" (.int (0 : Int32)) := D_1 (Or.inl (ow hw 22 rfl)) (ty := .int) (by decide)
  obtain ⟨_, _, ⟨T_2, L_2, k_2, n_2⟩, -, X_2, ⟨Lc_2, hQ_2, l_2, y_2, z_2⟩, st_2⟩ := X_1.specialBack hx (y := MN3) rfl hown (mvT hZ (ow hw 4 rfl)) (mvT hZ (ow hw 5 rfl)) (mvT hZ (ow hw 6 rfl)) (by decide) (backOf (W := 1) (rm_init l Z a0 hw [] b_1 h_1 n0 Z_1 F_keys_b_1__1 F_nodes_b_1__1 F_size_b_1__1 A_1 g_b_1) hZ (ow hw 6 rfl) (ow hw 3 rfl) (by decide) (by decide)) (g := (mkF mM 34 (lc105 p1 p2 k1 k2 nd fl) [(.ref b_1), (.ref b_1)])) rfl (by rw [hml]; rfl) (Steps.refl _) (a := b_1) (argsL := []) (rest := [(.ref b_1)]) (lenOf pd_3 rfl) rfl (by show 2 * 0 + _ ≤ _; exact Nat.le_of_eq rfl) (hb hby at_34) (fun _ _ => ⟨rfl, e_1, (by decide : 1 + 2 ≤ _), (by decide : 3 + 32 ≤ _)⟩)
  dsimp only [Pt.U, Pt.locs, Pt.cells, Pt.slots] at X_2 l_2 y_2 z_2 st_2 hQ_2
  subst l_2 y_2 z_2
  obtain ⟨d__2, ⟨g__2, ⟨kd__2, ⟨kg__2, ⟨rfl, N_2q, Kc_2, pfsz_d_2, pfsz_g_2, pfndg_2, pfE_a_2, pfF_keys_a_2, pfF_nodes_a_2, pfF_size_a_2, pfV_d_2, pfV_g_2⟩⟩⟩⟩⟩ := hQ_2
  have Z_2 : n0 ≤ T_2.heap.size := (Nat.le_trans Z_1 Kc_2.1)
  have K_2 : Keep h0 T_2.heap [] := K_1.trans Kc_2 (allS (Or.inr sz_b_1) all0)
  have sz_d__2 : h0.size ≤ d__2 := Nat.le_trans K_1.1 pfsz_d_2
  have g_d__2 : n0 ≤ d__2 := Nat.le_trans Z_1 pfsz_d_2
  have sz_g__2 : h0.size ≤ g__2 := Nat.le_trans K_1.1 pfsz_g_2
  have g_g__2 : n0 ≤ g__2 := Nat.le_trans Z_1 pfsz_g_2
  have N_2 := Fr.app N0 N_2q
  obtain ⟨cq_3, kq_3, q_3a, q_3b, q_3c⟩ := isOf hZ rfl pfE_a_2
  obtain ⟨_, _, ⟨T_3, L_3, k_3, n_3⟩, -, X_3, ⟨Lc_3, hQ_3, l_3, y_3, z_3⟩, st_3⟩ := X_2.virtualBack hx (y := MN1) (z := MN1) hown (mvT hZ (ow hw 16 rfl)) (mvT hZ (ow hw 17 rfl)) (notFace_of_selects (args := #[]) (mvT hZ (ow hw 19 rfl))) (mvT hZ (ow hw 19 rfl)) (mvT hZ (ow hw 18 rfl)) (by decide) (backOf (W := 0) (rm_ie0 l Z a0 hw [] b_1 T_2.heap n0 Z_2 pfF_size_a_2) hZ (ow hw 20 rfl) (ow hw 3 rfl) (by decide) (by decide)) q_3a q_3c (g := (mkF mM 41 (lc106 p1 p2 k1 k2 nd fl b_1) [(.ref b_1)])) rfl (by rw [hml]; rfl) (Steps.refl _) (argsL := []) (rest := []) (lenOf pd_1 rfl) rfl (by show 2 * 0 + _ ≤ _; exact Nat.le_of_eq rfl) (hb hby at_41) (fun _ _ => ⟨rfl, rfl, (by decide : 3 + 0 ≤ _), (by decide : 35 + 0 ≤ _)⟩)
  dsimp only [Pt.U, Pt.locs, Pt.cells, Pt.slots] at X_3 l_3 y_3 z_3 st_3 hQ_3
  subst l_3 y_3 z_3
  obtain ⟨rfl, N_3q, eh_3⟩ := hQ_3
  have N_3 := Fr.app N_2 N_3q
  obtain ⟨cq_4, kq_4, q_4a, q_4b, q_4c⟩ := isOf hZ eh_3 pfE_a_2
  obtain ⟨_, _, ⟨T_4, L_4, k_4, n_4⟩, -, X_4, ⟨Lc_4, hQ_4, l_4, y_4, z_4⟩, st_4⟩ := X_3.virtualBack hx (y := MN2) (z := MN2) hown (mvT hZ (ow hw 28 rfl)) (mvT hZ (ow hw 29 rfl)) (notFace_of_selects (args := #[]) (mvT hZ (ow hw 31 rfl))) (mvT hZ (ow hw 31 rfl)) (mvT hZ (ow hw 30 rfl)) (by decide) (backOf (W := 0) (rm_add0 l Z a0 hw [] b_1 d__2 g__2 kd__2 kg__2 k1 nd (0 : Int64) (0 : Int64) (0 : Int64) (0 : Int64) (0 : Int32) (0 : Int32) (0 : Int32) (0 : Int32) T_2.heap n0 Z_2 pfF_size_a_2 pfF_keys_a_2 pfF_nodes_a_2 pfE_a_2 g_b_1 g_d__2 g_g__2 pfV_d_2 pfV_g_2 pfndg_2 (Nat.ne_of_lt (Nat.lt_of_lt_of_le A_1.lt pfsz_d_2)) (Nat.ne_of_lt (Nat.lt_of_lt_of_le A_1.lt pfsz_g_2))) hZ (ow hw 32 rfl) (ow hw 3 rfl) (by decide) (by decide)) q_4a q_4c (g := (mkF mM 57 (lc107 p1 p2 k1 k2 nd fl b_1) [(.int nd), (.long k1), (.ref b_1)])) rfl (by rw [hml]; rfl) (Steps.refl _) (argsL := [(.long k1), (.int nd)]) (rest := []) (lenOf pd_2 rfl) rfl (by show 2 * 0 + _ ≤ _; exact Nat.le_of_eq rfl) (hb hby at_57) (fun _ _ => ⟨rfl, eh_3, (by decide : 3 + 0 ≤ _), (by decide : 35 + 0 ≤ _)⟩)
  dsimp only [Pt.U, Pt.locs, Pt.cells, Pt.slots] at X_4 l_4 y_4 z_4 st_4 hQ_4
  subst l_4 y_4 z_4
  obtain ⟨u0__4, ⟨u1__4, ⟨u2__4, ⟨u3__4, ⟨v0__4, ⟨v1__4, ⟨v2__4, ⟨v3__4, ⟨rfl, N_4q, Kc_4, pfF_size_a_4, pfF_keys_a_4, pfF_nodes_a_4, pfE_a_4, pfV_d_4, pfV_g_4⟩⟩⟩⟩⟩⟩⟩⟩⟩ := hQ_4
  have Z_4 : n0 ≤ T_4.heap.size := (Nat.le_trans Z_2 Kc_4.1)
  have K_4 : Keep h0 T_4.heap [] := K_2.trans Kc_4 (allS (Or.inr sz_b_1) (allS (Or.inr sz_d__2) (allS (Or.inr sz_g__2) all0)))
  have N_4 := Fr.app N_3 N_4q
  obtain ⟨cq_5, kq_5, q_5a, q_5b, q_5c⟩ := isOf hZ rfl pfE_a_4
  obtain ⟨_, _, ⟨T_5, L_5, k_5, n_5⟩, -, X_5, ⟨Lc_5, hQ_5, l_5, y_5, z_5⟩, st_5⟩ := X_4.virtualBack hx (y := MN2) (z := MN2) hown (mvT hZ (ow hw 28 rfl)) (mvT hZ (ow hw 29 rfl)) (notFace_of_selects (args := #[]) (mvT hZ (ow hw 31 rfl))) (mvT hZ (ow hw 31 rfl)) (mvT hZ (ow hw 30 rfl)) (by decide) (backOf (W := 0) (rm_add1 l Z a0 hw [] b_1 d__2 g__2 kd__2 kg__2 k2 (nd + (1 : Int32)) u0__4 u1__4 u2__4 u3__4 v0__4 v1__4 v2__4 v3__4 T_4.heap n0 Z_4 pfF_size_a_4 pfF_keys_a_4 pfF_nodes_a_4 pfE_a_4 g_b_1 g_d__2 g_g__2 pfV_d_4 pfV_g_4 pfndg_2 (Nat.ne_of_lt (Nat.lt_of_lt_of_le A_1.lt pfsz_d_2)) (Nat.ne_of_lt (Nat.lt_of_lt_of_le A_1.lt pfsz_g_2))) hZ (ow hw 32 rfl) (ow hw 3 rfl) (by decide) (by decide)) q_5a q_5c (g := (mkF mM 74 (lc107 p1 p2 k1 k2 nd fl b_1) [(.int (nd + (1 : Int32))), (.long k2), (.ref b_1)])) rfl (by rw [hml]; rfl) (Steps.refl _) (argsL := [(.long k2), (.int (nd + (1 : Int32)))]) (rest := []) (lenOf pd_2 rfl) rfl (by show 2 * 0 + _ ≤ _; exact Nat.le_of_eq rfl) (hb hby at_74) (fun _ _ => ⟨rfl, rfl, (by decide : 3 + 0 ≤ _), (by decide : 35 + 0 ≤ _)⟩)
  dsimp only [Pt.U, Pt.locs, Pt.cells, Pt.slots] at X_5 l_5 y_5 z_5 st_5 hQ_5
  subst l_5 y_5 z_5
  obtain ⟨u0__5, ⟨u1__5, ⟨u2__5, ⟨u3__5, ⟨v0__5, ⟨v1__5, ⟨v2__5, ⟨v3__5, ⟨rfl, N_5q, Kc_5, pfF_size_a_5, pfF_keys_a_5, pfF_nodes_a_5, pfE_a_5, pfV_d_5, pfV_g_5⟩⟩⟩⟩⟩⟩⟩⟩⟩ := hQ_5
  have Z_5 : n0 ≤ T_5.heap.size := (Nat.le_trans Z_4 Kc_5.1)
  have K_5 : Keep h0 T_5.heap [] := K_4.trans Kc_5 (allS (Or.inr sz_b_1) (allS (Or.inr sz_d__2) (allS (Or.inr sz_g__2) all0)))
  have N_5 := Fr.app N_4 N_5q
  obtain ⟨cq_6, kq_6, q_6a, q_6b, q_6c⟩ := isOf hZ rfl pfE_a_5
  obtain ⟨_, _, ⟨T_6, L_6, k_6, n_6⟩, -, X_6, ⟨Lc_6, hQ_6, l_6, y_6, z_6⟩, st_6⟩ := X_5.virtualBack hx (y := MN2) (z := MN2) hown (mvT hZ (ow hw 28 rfl)) (mvT hZ (ow hw 29 rfl)) (notFace_of_selects (args := #[]) (mvT hZ (ow hw 31 rfl))) (mvT hZ (ow hw 31 rfl)) (mvT hZ (ow hw 30 rfl)) (by decide) (backOf (W := 0) (rm_add2 l Z a0 hw [] b_1 d__2 g__2 kd__2 kg__2 (k1 ^^^ k2) (nd ^^^ (-1 : Int32)) u0__5 u1__5 u2__5 u3__5 v0__5 v1__5 v2__5 v3__5 T_5.heap n0 Z_5 pfF_size_a_5 pfF_keys_a_5 pfF_nodes_a_5 pfE_a_5 g_b_1 g_d__2 g_g__2 pfV_d_5 pfV_g_5 pfndg_2 (Nat.ne_of_lt (Nat.lt_of_lt_of_le A_1.lt pfsz_d_2)) (Nat.ne_of_lt (Nat.lt_of_lt_of_le A_1.lt pfsz_g_2))) hZ (ow hw 32 rfl) (ow hw 3 rfl) (by decide) (by decide)) q_6a q_6c (g := (mkF mM 93 (lc107 p1 p2 k1 k2 nd fl b_1) [(.int (nd ^^^ (-1 : Int32))), (.long (k1 ^^^ k2)), (.ref b_1)])) rfl (by rw [hml]; rfl) (Steps.refl _) (argsL := [(.long (k1 ^^^ k2)), (.int (nd ^^^ (-1 : Int32)))]) (rest := []) (lenOf pd_2 rfl) rfl (by show 2 * 0 + _ ≤ _; exact Nat.le_of_eq rfl) (hb hby at_93) (fun _ _ => ⟨rfl, rfl, (by decide : 3 + 0 ≤ _), (by decide : 35 + 0 ≤ _)⟩)
  dsimp only [Pt.U, Pt.locs, Pt.cells, Pt.slots] at X_6 l_6 y_6 z_6 st_6 hQ_6
  subst l_6 y_6 z_6
  obtain ⟨u0__6, ⟨u1__6, ⟨u2__6, ⟨u3__6, ⟨v0__6, ⟨v1__6, ⟨v2__6, ⟨v3__6, ⟨rfl, N_6q, Kc_6, pfF_size_a_6, pfF_keys_a_6, pfF_nodes_a_6, pfE_a_6, pfV_d_6, pfV_g_6⟩⟩⟩⟩⟩⟩⟩⟩⟩ := hQ_6
  have Z_6 : n0 ≤ T_6.heap.size := (Nat.le_trans Z_5 Kc_6.1)
  have K_6 : Keep h0 T_6.heap [] := K_5.trans Kc_6 (allS (Or.inr sz_b_1) (allS (Or.inr sz_d__2) (allS (Or.inr sz_g__2) all0)))
  have N_6 := Fr.app N_5 N_6q
  obtain ⟨cq_7, kq_7, q_7a, q_7b, q_7c⟩ := isOf hZ rfl pfE_a_6
  obtain ⟨_, _, ⟨T_7, L_7, k_7, n_7⟩, -, X_7, ⟨Lc_7, hQ_7, l_7, y_7, z_7⟩, st_7⟩ := X_6.virtualBack hx (y := MN5) (z := MN5) hown (mvT hZ (ow hw 36 rfl)) (mvT hZ (ow hw 37 rfl)) (notFace_of_selects (args := #[]) (mvT hZ (ow hw 39 rfl))) (mvT hZ (ow hw 39 rfl)) (mvT hZ (ow hw 38 rfl)) (by decide) (backOf (W := 0) (rm_take3 l Z a0 hw [] b_1 d__2 g__2 kd__2 kg__2 u0__6 u1__6 u2__6 u3__6 v0__6 v1__6 v2__6 v3__6 T_6.heap n0 Z_6 pfF_size_a_6 pfF_keys_a_6 pfF_nodes_a_6 pfE_a_6 g_b_1 g_d__2 g_g__2 pfV_d_6 pfV_g_6 pfndg_2 (Nat.ne_of_lt (Nat.lt_of_lt_of_le A_1.lt pfsz_d_2)) (Nat.ne_of_lt (Nat.lt_of_lt_of_le A_1.lt pfsz_g_2))) hZ (ow hw 40 rfl) (ow hw 3 rfl) (by decide) (by decide)) q_7a q_7c (g := (mkF mM 104 (lc107 p1 p2 k1 k2 nd fl b_1) [(.ref b_1)])) rfl (by rw [hml]; rfl) (Steps.refl _) (argsL := []) (rest := []) (lenOf pd_4 rfl) rfl (by show 2 * 0 + _ ≤ _; exact Nat.le_of_eq rfl) (hb hby at_104) (fun _ _ => ⟨rfl, rfl, (by decide : 3 + 0 ≤ _), (by decide : 35 + 0 ≤ _)⟩)
  dsimp only [Pt.U, Pt.locs, Pt.cells, Pt.slots] at X_7 l_7 y_7 z_7 st_7 hQ_7
  subst l_7 y_7 z_7
  obtain ⟨u0__7, ⟨u1__7, ⟨u2__7, ⟨u3__7, ⟨v0__7, ⟨v1__7, ⟨v2__7, ⟨v3__7, ⟨rfl, N_7q, Kc_7, pfF_size_a_7, pfF_keys_a_7, pfF_nodes_a_7, pfE_a_7, pfV_d_7, pfV_g_7⟩⟩⟩⟩⟩⟩⟩⟩⟩ := hQ_7
  have Z_7 : n0 ≤ T_7.heap.size := (Nat.le_trans Z_6 Kc_7.1)
  have K_7 : Keep h0 T_7.heap [] := K_6.trans Kc_7 (allS (Or.inr sz_b_1) (allS (Or.inr sz_d__2) (allS (Or.inr sz_g__2) all0)))
  have N_7 := Fr.app N_6 N_7q
  obtain ⟨cq_8, kq_8, q_8a, q_8b, q_8c⟩ := isOf hZ rfl pfE_a_7
  obtain ⟨_, _, ⟨T_8, L_8, k_8, n_8⟩, -, X_8, ⟨Lc_8, hQ_8, l_8, y_8, z_8⟩, st_8⟩ := X_7.virtualBack hx (y := MN5) (z := MN5) hown (mvT hZ (ow hw 36 rfl)) (mvT hZ (ow hw 37 rfl)) (notFace_of_selects (args := #[]) (mvT hZ (ow hw 39 rfl))) (mvT hZ (ow hw 39 rfl)) (mvT hZ (ow hw 38 rfl)) (by decide) (backOf (W := 0) (rm_take2 l Z a0 hw [] b_1 d__2 g__2 kd__2 kg__2 u0__7 u1__7 u2__7 u3__7 v0__7 v1__7 v2__7 v3__7 T_7.heap n0 Z_7 pfF_size_a_7 pfF_keys_a_7 pfF_nodes_a_7 pfE_a_7 g_b_1 g_d__2 g_g__2 pfV_d_7 pfV_g_7 pfndg_2 (Nat.ne_of_lt (Nat.lt_of_lt_of_le A_1.lt pfsz_d_2)) (Nat.ne_of_lt (Nat.lt_of_lt_of_le A_1.lt pfsz_g_2))) hZ (ow hw 40 rfl) (ow hw 3 rfl) (by decide) (by decide)) q_8a q_8c (g := (mkF mM 116 (lc107 p1 p2 k1 k2 nd fl b_1) [(.ref b_1)])) rfl (by rw [hml]; rfl) (Steps.refl _) (argsL := []) (rest := []) (lenOf pd_4 rfl) rfl (by show 2 * 0 + _ ≤ _; exact Nat.le_of_eq rfl) (hb hby at_116) (fun _ _ => ⟨rfl, rfl, (by decide : 3 + 0 ≤ _), (by decide : 35 + 0 ≤ _)⟩)
  dsimp only [Pt.U, Pt.locs, Pt.cells, Pt.slots] at X_8 l_8 y_8 z_8 st_8 hQ_8
  subst l_8 y_8 z_8
  obtain ⟨u0__8, ⟨u1__8, ⟨u2__8, ⟨u3__8, ⟨v0__8, ⟨v1__8, ⟨v2__8, ⟨v3__8, ⟨rfl, N_8q, Kc_8, pfF_size_a_8, pfF_keys_a_8, pfF_nodes_a_8, pfE_a_8, pfV_d_8, pfV_g_8⟩⟩⟩⟩⟩⟩⟩⟩⟩ := hQ_8
  have Z_8 : n0 ≤ T_8.heap.size := (Nat.le_trans Z_7 Kc_8.1)
  have K_8 : Keep h0 T_8.heap [] := K_7.trans Kc_8 (allS (Or.inr sz_b_1) (allS (Or.inr sz_d__2) (allS (Or.inr sz_g__2) all0)))
  have N_8 := Fr.app N_7 N_8q
  obtain ⟨cq_9, kq_9, q_9a, q_9b, q_9c⟩ := isOf hZ rfl pfE_a_8
  obtain ⟨_, _, ⟨T_9, L_9, k_9, n_9⟩, -, X_9, ⟨Lc_9, hQ_9, l_9, y_9, z_9⟩, st_9⟩ := X_8.virtualBack hx (y := MN4) (z := MN4) hown (mvT hZ (ow hw 23 rfl)) (mvT hZ (ow hw 24 rfl)) (notFace_of_selects (args := #[]) (mvT hZ (ow hw 26 rfl))) (mvT hZ (ow hw 26 rfl)) (mvT hZ (ow hw 25 rfl)) (by decide) (backOf (W := 0) (rm_clear l Z a0 hw [] b_1 d__2 g__2 (1 : Int32) T_8.heap n0 Z_8 pfF_size_a_8 pfF_keys_a_8 pfF_nodes_a_8 pfE_a_8 g_b_1) hZ (ow hw 27 rfl) (ow hw 3 rfl) (by decide) (by decide)) q_9a q_9c (g := (mkF mM 139 (lc107 p1 p2 k1 k2 nd fl b_1) [(.ref b_1)])) rfl (by rw [hml]; rfl) (Steps.refl _) (argsL := []) (rest := []) (lenOf pd_3 rfl) rfl (by show 2 * 0 + _ ≤ _; exact Nat.le_of_eq rfl) (hb hby at_139) (fun _ _ => ⟨rfl, rfl, (by decide : 3 + 0 ≤ _), (by decide : 35 + 0 ≤ _)⟩)
  dsimp only [Pt.U, Pt.locs, Pt.cells, Pt.slots] at X_9 l_9 y_9 z_9 st_9 hQ_9
  subst l_9 y_9 z_9
  obtain ⟨rfl, N_9q, Kc_9, pfF_size_a_9, pfF_keys_a_9, pfF_nodes_a_9, pfE_a_9⟩ := hQ_9
  have Z_9 : n0 ≤ T_9.heap.size := (Nat.le_trans Z_8 Kc_9.1)
  have K_9 : Keep h0 T_9.heap [] := K_8.trans Kc_9 (allS (Or.inr sz_b_1) all0)
  have N_9 := Fr.app N_8 N_9q
  obtain ⟨T_10, h_10, L_10, X_10, e_10, N_10, Kc_10, st_10⟩ := pc_tail0 p1 p2 k1 k2 nd fl (3 : Int32) (2 : Int32) (1 : Int32) b_1 d__2 g__2 kd__2 kg__2 u0__8 u1__8 u2__8 u3__8 v0__8 v1__8 v2__8 v3__8 X_9 hx hZ hw hby hml hown rfl N_9 Z_9 pfF_size_a_9 pfF_keys_a_9 pfF_nodes_a_9 pfE_a_9 g_b_1 g_d__2 g_g__2 (pfV_d_8.keep Kc_9 (ninS (Ne.symm (Nat.ne_of_lt (Nat.lt_of_lt_of_le A_1.lt pfsz_d_2))) nin0)) (pfV_g_8.keep Kc_9 (ninS (Ne.symm (Nat.ne_of_lt (Nat.lt_of_lt_of_le A_1.lt pfsz_g_2))) nin0)) pfndg_2 (Nat.ne_of_lt (Nat.lt_of_lt_of_le A_1.lt pfsz_d_2)) (Nat.ne_of_lt (Nat.lt_of_lt_of_le A_1.lt pfsz_g_2))
  have Z_10 : n0 ≤ h_10.size := (Nat.le_trans Z_9 Kc_10.1)
  have K_10 : Keep h0 h_10 [] := K_9.trans Kc_10 (allS (Or.inr sz_b_1) (allS (Or.inr sz_d__2) (allS (Or.inr sz_g__2) all0)))
  obtain ⟨fs, hr, hrun, hended, hW, hsame⟩ := X_10.leave (v := some (.int (1 : Int32))) (fun h => by rw [Bd.returns] at h; cases h)
  refine ⟨_, _, pre0 _ ?_, hrun, hended, _, _, rfl, ?_, ⟨_, rfl⟩, hW, hsame.mono (by decide) (by decide)⟩
  · show oS pP eE below s₁ (mkF mM 0 (lc6 p1 p2 k1 k2 nd fl) []) _
    refine XS.iloadN X0.here hx rfl (hb hby at_0) rfl ?_
    refine XS.iconst X0.here hx rfl (hb hby at_1) ?_
    show oS pP eE below s₁ (mkF mM 2 (lc6 p1 p2 k1 k2 nd fl) [(.int (3 : Int32)), (.int p1)]) _
    refine XS.iand X0.here hx rfl (hb hby at_2) rfl ?_
    show oS pP eE below s₁ (mkF mM 3 (lc6 p1 p2 k1 k2 nd fl) [(.int (p1 &&& (3 : Int32)))]) _
    rw [hn]
    refine XS.istore X0.here hx rfl (hb hby at_3) rfl (l' := (lc76 p1 p2 k1 k2 nd fl)) rfl ?_
    refine XS.iloadN X0.here hx rfl (hb hby at_5) rfl ?_
    show oS pP eE below s₁ (mkF mM 6 (lc76 p1 p2 k1 k2 nd fl) [(.int p2)]) _
    refine X0.ldcI hx hown (mvT hZ (ow hw 0 rfl)) (g := (mkF mM 6 (lc76 p1 p2 k1 k2 nd fl) [(.int p2)])) rfl (hb hby at_6) ?_
    show oS pP eE below s₁ (mkF mM 8 (lc76 p1 p2 k1 k2 nd fl) [(.int (2147483647 : Int32)), (.int p2)]) _
    refine XS.iand X0.here hx rfl (hb hby at_8) rfl ?_
    refine XS.iload X0.here hx rfl (hb hby at_9) rfl ?_
    refine XS.iconst X0.here hx rfl (hb hby at_11) ?_
    show oS pP eE below s₁ (mkF mM 12 (lc76 p1 p2 k1 k2 nd fl) [(.int (1 : Int32)), (.int (3 : Int32)), (.int (p2 &&& (2147483647 : Int32)))]) _
    refine XS.iadd X0.here hx rfl (hb hby at_12) rfl ?_
    show oS pP eE below s₁ (mkF mM 13 (lc76 p1 p2 k1 k2 nd fl) [(.int ((3 : Int32) + (1 : Int32))), (.int (p2 &&& (2147483647 : Int32)))]) _
    rw [(by decide : ((3 : Int32) + (1 : Int32)) = (4 : Int32))]
    show oS pP eE below s₁ (mkF mM 13 (lc76 p1 p2 k1 k2 nd fl) [(.int (4 : Int32)), (.int (p2 &&& (2147483647 : Int32)))]) _
    refine iremM X0 hx rfl (hb hby at_13) rfl (by decide) ?_
    show oS pP eE below s₁ (mkF mM 14 (lc76 p1 p2 k1 k2 nd fl) [(.int ((p2 &&& (2147483647 : Int32)) % (4 : Int32)))]) _
    rw [ht]
    refine XS.istore X0.here hx rfl (hb hby at_14) rfl (l' := (lc99 p1 p2 k1 k2 nd fl)) rfl ?_
    refine XS.iload X0.here hx rfl (hb hby at_16) rfl ?_
    refine XS.iconst X0.here hx rfl (hb hby at_18) ?_
    show oS pP eE below s₁ (mkF mM 19 (lc99 p1 p2 k1 k2 nd fl) [(.int (1 : Int32)), (.int fl)]) _
    refine XS.iand X0.here hx rfl (hb hby at_19) rfl ?_
    refine XS.ifNo X0.here hx rfl (hb hby at_20) rfl (XT.i0_eq_f hc) ?_
    refine XS.iconst X0.here hx rfl (hb hby at_23) ?_
    refine XS.goto X0.here hx rfl (pc0 := 24) (pc' := 28) rfl (hb hby at_24) (by decide) (by decide) ?_
    refine XS.istore X0.here hx rfl (hb hby at_28) rfl (l' := (lc105 p1 p2 k1 k2 nd fl)) rfl ?_
    show oS pP eE below s₁ (mkF mM 30 (lc105 p1 p2 k1 k2 nd fl) []) _
    refine st_1 _ ?_
    show oS pP eE below T_1 (mkF mM 33 (lc105 p1 p2 k1 k2 nd fl) [(.ref b_1)]) _
    refine XS.dup X_1.here hx rfl (hb hby at_33) rfl rfl ?_
    show oS pP eE below T_1 (mkF mM 34 (lc105 p1 p2 k1 k2 nd fl) [(.ref b_1), (.ref b_1)]) _
    refine st_2.trans ?_
    show oS pP eE below T_2 (mkF mM 37 (lc105 p1 p2 k1 k2 nd fl) [(.ref b_1)]) _
    refine XS.astore X_2.here hx rfl (hb hby at_37) rfl rfl (l' := (lc106 p1 p2 k1 k2 nd fl b_1)) rfl ?_
    refine XS.aload X_2.here hx rfl (hb hby at_39) rfl rfl ?_
    show oS pP eE below T_2 (mkF mM 41 (lc106 p1 p2 k1 k2 nd fl b_1) [(.ref b_1)]) _
    refine st_3.trans ?_
    show oS pP eE below T_3 (mkF mM 44 (lc106 p1 p2 k1 k2 nd fl b_1) [(.int (1 : Int32))]) _
    refine XS.istore X_3.here hx rfl (hb hby at_44) rfl (l' := (lc107 p1 p2 k1 k2 nd fl b_1)) rfl ?_
    refine XS.iload X_3.here hx rfl (hb hby at_46) rfl ?_
    refine XS.iconst X_3.here hx rfl (hb hby at_48) ?_
    refine XS.icmpNo X_3.here hx rfl (hb hby at_49) rfl (by decide) ?_
    refine XS.aload X_3.here hx rfl (hb hby at_52) rfl rfl ?_
    refine XT.lloadN X_3.here hx rfl (hb hby at_54) rfl ?_
    refine XS.iload X_3.here hx rfl (hb hby at_55) rfl ?_
    show oS pP eE below T_3 (mkF mM 57 (lc107 p1 p2 k1 k2 nd fl b_1) [(.int nd), (.long k1), (.ref b_1)]) _
    refine st_4.trans ?_
    show oS pP eE below T_4 (mkF mM 60 (lc107 p1 p2 k1 k2 nd fl b_1) []) _
    refine XS.iload X_4.here hx rfl (hb hby at_60) rfl ?_
    refine XS.iconst X_4.here hx rfl (hb hby at_62) ?_
    refine XS.icmpNo X_4.here hx rfl (hb hby at_63) rfl (by decide) ?_
    refine XS.aload X_4.here hx rfl (hb hby at_66) rfl rfl ?_
    refine XT.lload X_4.here hx rfl (hb hby at_68) rfl ?_
    refine XS.iload X_4.here hx rfl (hb hby at_70) rfl ?_
    refine XS.iconst X_4.here hx rfl (hb hby at_72) ?_
    show oS pP eE below T_4 (mkF mM 73 (lc107 p1 p2 k1 k2 nd fl b_1) [(.int (1 : Int32)), (.int nd), (.long k2), (.ref b_1)]) _
    refine XS.iadd X_4.here hx rfl (hb hby at_73) rfl ?_
    show oS pP eE below T_4 (mkF mM 74 (lc107 p1 p2 k1 k2 nd fl b_1) [(.int (nd + (1 : Int32))), (.long k2), (.ref b_1)]) _
    refine st_5.trans ?_
    show oS pP eE below T_5 (mkF mM 77 (lc107 p1 p2 k1 k2 nd fl b_1) []) _
    refine XS.iload X_5.here hx rfl (hb hby at_77) rfl ?_
    refine XS.iconst X_5.here hx rfl (hb hby at_79) ?_
    refine XS.icmpNo X_5.here hx rfl (hb hby at_80) rfl (by decide) ?_
    refine XS.aload X_5.here hx rfl (hb hby at_83) rfl rfl ?_
    refine XT.lloadN X_5.here hx rfl (hb hby at_85) rfl ?_
    refine XT.lload X_5.here hx rfl (hb hby at_86) rfl ?_
    show oS pP eE below T_5 (mkF mM 88 (lc107 p1 p2 k1 k2 nd fl b_1) [(.long k2), (.long k1), (.ref b_1)]) _
    refine XT.lxor X_5.here hx rfl (hb hby at_88) rfl ?_
    refine XS.iload X_5.here hx rfl (hb hby at_89) rfl ?_
    refine XS.iconst X_5.here hx rfl (hb hby at_91) ?_
    show oS pP eE below T_5 (mkF mM 92 (lc107 p1 p2 k1 k2 nd fl b_1) [(.int (-1 : Int32)), (.int nd), (.long (k1 ^^^ k2)), (.ref b_1)]) _
    refine XT.ixor X_5.here hx rfl (hb hby at_92) rfl ?_
    show oS pP eE below T_5 (mkF mM 93 (lc107 p1 p2 k1 k2 nd fl b_1) [(.int (nd ^^^ (-1 : Int32))), (.long (k1 ^^^ k2)), (.ref b_1)]) _
    refine st_6.trans ?_
    show oS pP eE below T_6 (mkF mM 96 (lc107 p1 p2 k1 k2 nd fl b_1) []) _
    refine XS.iload X_6.here hx rfl (hb hby at_96) rfl ?_
    refine XS.iconst X_6.here hx rfl (hb hby at_98) ?_
    refine XS.icmpNo X_6.here hx rfl (hb hby at_99) rfl (by decide) ?_
    refine XS.aload X_6.here hx rfl (hb hby at_102) rfl rfl ?_
    show oS pP eE below T_6 (mkF mM 104 (lc107 p1 p2 k1 k2 nd fl b_1) [(.ref b_1)]) _
    refine st_7.trans ?_
    show oS pP eE below T_7 (mkF mM 107 (lc107 p1 p2 k1 k2 nd fl b_1) [(.int v0__6)]) _
    refine XT.pop X_7.here hx rfl (hb hby at_107) rfl rfl ?_
    refine XS.iload X_7.here hx rfl (hb hby at_108) rfl ?_
    refine XS.iconst X_7.here hx rfl (hb hby at_110) ?_
    refine XS.icmpNo X_7.here hx rfl (hb hby at_111) rfl (by decide) ?_
    refine XS.aload X_7.here hx rfl (hb hby at_114) rfl rfl ?_
    show oS pP eE below T_7 (mkF mM 116 (lc107 p1 p2 k1 k2 nd fl b_1) [(.ref b_1)]) _
    refine st_8.trans ?_
    show oS pP eE below T_8 (mkF mM 119 (lc107 p1 p2 k1 k2 nd fl b_1) [(.int v0__7)]) _
    refine XT.pop X_8.here hx rfl (hb hby at_119) rfl rfl ?_
    refine XS.iload X_8.here hx rfl (hb hby at_120) rfl ?_
    refine XS.iconst X_8.here hx rfl (hb hby at_122) ?_
    refine XS.icmpYes X_8.here hx rfl (pc0 := 123) (pc' := 132) rfl (hb hby at_123) rfl (by decide) (by decide) (by decide) ?_
    refine XS.iload X_8.here hx rfl (hb hby at_132) rfl ?_
    refine XS.ifNo X_8.here hx rfl (hb hby at_134) rfl (by decide) ?_
    refine XS.aload X_8.here hx rfl (hb hby at_137) rfl rfl ?_
    show oS pP eE below T_8 (mkF mM 139 (lc107 p1 p2 k1 k2 nd fl b_1) [(.ref b_1)]) _
    refine st_9.trans ?_
    show oS pP eE below T_9 (mkF mM 142 (lc107 p1 p2 k1 k2 nd fl b_1) []) _
    refine XS.iload X_9.here hx rfl (hb hby at_142) rfl ?_
    refine XS.ifYes X_9.here hx rfl (pc0 := 144) (pc' := 155) rfl (hb hby at_144) rfl (by decide) (by decide) (by decide) ?_
    refine XS.iconst X_9.here hx rfl (hb hby at_155) ?_
    refine XS.goto X_9.here hx rfl (pc0 := 156) (pc' := 160) rfl (hb hby at_156) (by decide) (by decide) ?_
    refine XS.istore X_9.here hx rfl (hb hby at_160) rfl (l' := (lc108 p1 p2 k1 k2 nd fl b_1)) rfl ?_
    show oS pP eE below T_9 (mkF mM 162 (lc108 p1 p2 k1 k2 nd fl b_1) []) _
    refine st_10 _ ?_
    show oS pP eE below T_10 (mkF mM 207 (lc109 p1 p2 k1 k2 nd fl b_1) [(.int (1 : Int32))]) _
    exact retN X_10 hx (t := .boolean) Bd.returns (by simp) (hb hby at_207) hr
  · show Q_law321 Z p1 p2 k1 k2 nd fl h0 n0 _ T_10.heap _
    exact ⟨rfl, N_10⟩
abbrev lc110 (p1 : Int32) (p2 : Int32) (k1 : Int64) (k2 : Int64) (nd : Int32) (fl : Int32) : Array Slot := #[.val (.int p1), .val (.int p2), .val (.long k1), .second, .val (.long k2), .second, .val (.int nd), .val (.int fl), .val (.int (3 : Int32)), .val (.int (3 : Int32)), .unset, .unset, .unset, .unset, .unset, .unset]
abbrev lc111 (p1 : Int32) (p2 : Int32) (k1 : Int64) (k2 : Int64) (nd : Int32) (fl : Int32) : Array Slot := #[.val (.int p1), .val (.int p2), .val (.long k1), .second, .val (.long k2), .second, .val (.int nd), .val (.int fl), .val (.int (3 : Int32)), .val (.int (3 : Int32)), .val (.int (0 : Int32)), .unset, .unset, .unset, .unset, .unset]
abbrev lc112 (p1 : Int32) (p2 : Int32) (k1 : Int64) (k2 : Int64) (nd : Int32) (fl : Int32) (b_1 : Addr) : Array Slot := #[.val (.int p1), .val (.int p2), .val (.long k1), .second, .val (.long k2), .second, .val (.int nd), .val (.int fl), .val (.int (3 : Int32)), .val (.int (3 : Int32)), .val (.int (0 : Int32)), .val (.ref b_1), .unset, .unset, .unset, .unset]
abbrev lc113 (p1 : Int32) (p2 : Int32) (k1 : Int64) (k2 : Int64) (nd : Int32) (fl : Int32) (b_1 : Addr) : Array Slot := #[.val (.int p1), .val (.int p2), .val (.long k1), .second, .val (.long k2), .second, .val (.int nd), .val (.int fl), .val (.int (3 : Int32)), .val (.int (3 : Int32)), .val (.int (0 : Int32)), .val (.ref b_1), .val (.int (1 : Int32)), .unset, .unset, .unset]
abbrev lc114 (p1 : Int32) (p2 : Int32) (k1 : Int64) (k2 : Int64) (nd : Int32) (fl : Int32) (b_1 : Addr) : Array Slot := #[.val (.int p1), .val (.int p2), .val (.long k1), .second, .val (.long k2), .second, .val (.int nd), .val (.int fl), .val (.int (3 : Int32)), .val (.int (3 : Int32)), .val (.int (0 : Int32)), .val (.ref b_1), .val (.int (1 : Int32)), .val (.int (1 : Int32)), .unset, .unset]
abbrev lc115 (p1 : Int32) (p2 : Int32) (k1 : Int64) (k2 : Int64) (nd : Int32) (fl : Int32) (b_1 : Addr) : Array Slot := #[.val (.int p1), .val (.int p2), .val (.long k1), .second, .val (.long k2), .second, .val (.int nd), .val (.int fl), .val (.int (3 : Int32)), .val (.int (3 : Int32)), .val (.int (0 : Int32)), .val (.ref b_1), .val (.int (1 : Int32)), .val (.int (1 : Int32)), .val (.int (1 : Int32)), .val (.int (0 : Int32))]
theorem ef_law330 (mM : MethodId) (x0 : Int32) (x1 : Int32) (x2 : Int64) (x3 : Int64) (x4 : Int32) (x5 : Int32) : entryFrame mM #[(.int x0), (.int x1), (.long x2), (.long x3), (.int x4), (.int x5)] maxLocals = mkF mM 0 #[.val (.int x0), .val (.int x1), .val (.long x2), .second, .val (.long x3), .second, .val (.int x4), .val (.int x5), .unset, .unset, .unset, .unset, .unset, .unset, .unset, .unset] [] := by first | (simp [entryFrame, mkF, argsToLocals, Value.category, maxLocals]; done) | rfl
def Q_law330 (Z : State) (p1 : Int32) (p2 : Int32) (k1 : Int64) (k2 : Int64) (nd : Int32) (fl : Int32) (h0 : Heap) (n0 : Nat) (v_ : Option Value) (h_ : Heap) (L_ : List Loc) : Prop := v_ = some (.int (1 : Int32)) ∧ Fr n0 L_
set_option maxRecDepth 65536 in
set_option maxHeartbeats 40000000 in
theorem rm_law330 (l : Launch) (Z : State) (a0 : Array Value) (hw : ∀ d ∈ tables_1, d.before a0 Z = true) (ws : List Jvm.Cond) (p1 : Int32) (p2 : Int32) (k1 : Int64) (k2 : Int64) (nd : Int32) (fl : Int32) (h0 : Heap) (n0 : Nat) (Z0 : n0 ≤ h0.size) (hn : (p1 &&& (3 : Int32)) = (3 : Int32)) (ht : ((p2 &&& (2147483647 : Int32)) % (4 : Int32)) = (3 : Int32)) (hc : (fl &&& (1 : Int32)) = 0) :
    MetFree l x (head1 (Jvm.Cond.code x code maxLocals ret :: ws) room_1) (fun aa_ U_ => aa_ = #[(.int p1), (.int p2), (.long k1), (.long k2), (.int nd), (.int fl)] ∧ Z.Warmed39 U_.vm ∧ U_.heap = h0) (fun _ _ _ _ _ => True) (fun _ U_ o_ U'_ => ∃ v_ L_, o_ = .returned v_ ∧ Q_law330 Z p1 p2 k1 k2 nd fl h0 n0 v_ U'_.heap L_ ∧ FrameEnd U_ o_ U'_ L_ 3 35) := by
  refine MetFree.of_bodySF (plainFor_of_name pn_1) hisR ?_
  intro pP eE sS mM argsA below meth cC s₁ Bd hml0 hP hK
  obtain ⟨rfl, hZ, hh⟩ := hP
  have hx := Bd.exec
  have hby := Bd.bytes
  have hml : cC.maxLocals = 16 := hml0
  have hown : sS.vm.findClass "com/example/greenweft/greenweft/steiner/NodeHeapIsEmptyPinLaw" = some mM.cls := findClass_of_methodNamed Bd.named
  have hnm := (name_of_methodNamed Bd.named Bd.method).1
  have X0 : Stand pP l eE room_1 sS mM #[(.int p1), (.int p2), (.long k1), (.long k2), (.int nd), (.int fl)] below meth cC s₁ [] 0 0 := Stand.of_body Bd
  have e0 : s₁.heap = h0 := by rw [← hh, Bd.state]; rfl
  have N0 := Fr.nil n0
  have pre0 : ∀ t_, Steps pP.tables eE below (s₁.setTop (mkF mM 0 #[.val (.int p1), .val (.int p2), .val (.long k1), .second, .val (.long k2), .second, .val (.int nd), .val (.int fl), .unset, .unset, .unset, .unset, .unset, .unset, .unset, .unset] [])) t_ → Steps pP.tables eE below (s₁.setTop (entryFrame mM #[(.int p1), (.int p2), (.long k1), (.long k2), (.int nd), (.int fl)] maxLocals)) t_ := fun t_ k_ => castTop (ef_law330 mM p1 p2 k1 k2 nd fl) k_
  obtain ⟨T_1, h_1, X_1, e_1, E_1, A_1, D_1, -, st_1⟩ := newO X0 hx hZ hown (ow hw 1 rfl) (ow hw 2 rfl) (ow hw 3 rfl) e0 (g := (mkF mM 30 (lc111 p1 p2 k1 k2 nd fl) [])) rfl (hb hby at_30) (by decide) (by decide)
  obtain ⟨b_1, g_1⟩ : ∃ z, z = h0.size := ⟨_, rfl⟩
  rw [← g_1] at A_1 D_1 st_1
  have g_b_1 : n0 ≤ b_1 := Nat.le_trans Z0 (Nat.le_of_eq g_1.symm)
  have sz_b_1 : h0.size ≤ b_1 := Nat.le_trans (Keep.refl h0 []).1 (Nat.le_of_eq g_1.symm)
  have Z_1 : n0 ≤ h_1.size := (Nat.le_trans Z0 E_1.1)
  have K_1 : Keep h0 h_1 [] := (Keep.refl h0 []).ext E_1
  have F_keys_b_1__1 : Fld Z h_1 b_1 "com/example/greenweft/greenweft/steiner/NodeHeap" "keys" "[J" .null := D_1 (Or.inl (ow hw 12 rfl)) (ty := (.array .long)) (by decide)
  have F_nodes_b_1__1 : Fld Z h_1 b_1 "com/example/greenweft/greenweft/steiner/NodeHeap" "nodes" "[I" .null := D_1 (Or.inl (ow hw 15 rfl)) (ty := (.array .int)) (by decide)
  have F_size_b_1__1 : Fld Z h_1 b_1 "com/example/greenweft/greenweft/steiner/NodeHeap" "size" "I" (.int (0 : Int32)) := D_1 (Or.inl (ow hw 22 rfl)) (ty := .int) (by decide)
  obtain ⟨_, _, ⟨T_2, L_2, k_2, n_2⟩, -, X_2, ⟨Lc_2, hQ_2, l_2, y_2, z_2⟩, st_2⟩ := X_1.specialBack hx (y := MN3) rfl hown (mvT hZ (ow hw 4 rfl)) (mvT hZ (ow hw 5 rfl)) (mvT hZ (ow hw 6 rfl)) (by decide) (backOf (W := 1) (rm_init l Z a0 hw [] b_1 h_1 n0 Z_1 F_keys_b_1__1 F_nodes_b_1__1 F_size_b_1__1 A_1 g_b_1) hZ (ow hw 6 rfl) (ow hw 3 rfl) (by decide) (by decide)) (g := (mkF mM 34 (lc111 p1 p2 k1 k2 nd fl) [(.ref b_1), (.ref b_1)])) rfl (by rw [hml]; rfl) (Steps.refl _) (a := b_1) (argsL := []) (rest := [(.ref b_1)]) (lenOf pd_3 rfl) rfl (by show 2 * 0 + _ ≤ _; exact Nat.le_of_eq rfl) (hb hby at_34) (fun _ _ => ⟨rfl, e_1, (by decide : 1 + 2 ≤ _), (by decide : 3 + 32 ≤ _)⟩)
  dsimp only [Pt.U, Pt.locs, Pt.cells, Pt.slots] at X_2 l_2 y_2 z_2 st_2 hQ_2
  subst l_2 y_2 z_2
  obtain ⟨d__2, ⟨g__2, ⟨kd__2, ⟨kg__2, ⟨rfl, N_2q, Kc_2, pfsz_d_2, pfsz_g_2, pfndg_2, pfE_a_2, pfF_keys_a_2, pfF_nodes_a_2, pfF_size_a_2, pfV_d_2, pfV_g_2⟩⟩⟩⟩⟩ := hQ_2
  have Z_2 : n0 ≤ T_2.heap.size := (Nat.le_trans Z_1 Kc_2.1)
  have K_2 : Keep h0 T_2.heap [] := K_1.trans Kc_2 (allS (Or.inr sz_b_1) all0)
  have sz_d__2 : h0.size ≤ d__2 := Nat.le_trans K_1.1 pfsz_d_2
  have g_d__2 : n0 ≤ d__2 := Nat.le_trans Z_1 pfsz_d_2
  have sz_g__2 : h0.size ≤ g__2 := Nat.le_trans K_1.1 pfsz_g_2
  have g_g__2 : n0 ≤ g__2 := Nat.le_trans Z_1 pfsz_g_2
  have N_2 := Fr.app N0 N_2q
  obtain ⟨cq_3, kq_3, q_3a, q_3b, q_3c⟩ := isOf hZ rfl pfE_a_2
  obtain ⟨_, _, ⟨T_3, L_3, k_3, n_3⟩, -, X_3, ⟨Lc_3, hQ_3, l_3, y_3, z_3⟩, st_3⟩ := X_2.virtualBack hx (y := MN1) (z := MN1) hown (mvT hZ (ow hw 16 rfl)) (mvT hZ (ow hw 17 rfl)) (notFace_of_selects (args := #[]) (mvT hZ (ow hw 19 rfl))) (mvT hZ (ow hw 19 rfl)) (mvT hZ (ow hw 18 rfl)) (by decide) (backOf (W := 0) (rm_ie0 l Z a0 hw [] b_1 T_2.heap n0 Z_2 pfF_size_a_2) hZ (ow hw 20 rfl) (ow hw 3 rfl) (by decide) (by decide)) q_3a q_3c (g := (mkF mM 41 (lc112 p1 p2 k1 k2 nd fl b_1) [(.ref b_1)])) rfl (by rw [hml]; rfl) (Steps.refl _) (argsL := []) (rest := []) (lenOf pd_1 rfl) rfl (by show 2 * 0 + _ ≤ _; exact Nat.le_of_eq rfl) (hb hby at_41) (fun _ _ => ⟨rfl, rfl, (by decide : 3 + 0 ≤ _), (by decide : 35 + 0 ≤ _)⟩)
  dsimp only [Pt.U, Pt.locs, Pt.cells, Pt.slots] at X_3 l_3 y_3 z_3 st_3 hQ_3
  subst l_3 y_3 z_3
  obtain ⟨rfl, N_3q, eh_3⟩ := hQ_3
  have N_3 := Fr.app N_2 N_3q
  obtain ⟨cq_4, kq_4, q_4a, q_4b, q_4c⟩ := isOf hZ eh_3 pfE_a_2
  obtain ⟨_, _, ⟨T_4, L_4, k_4, n_4⟩, -, X_4, ⟨Lc_4, hQ_4, l_4, y_4, z_4⟩, st_4⟩ := X_3.virtualBack hx (y := MN2) (z := MN2) hown (mvT hZ (ow hw 28 rfl)) (mvT hZ (ow hw 29 rfl)) (notFace_of_selects (args := #[]) (mvT hZ (ow hw 31 rfl))) (mvT hZ (ow hw 31 rfl)) (mvT hZ (ow hw 30 rfl)) (by decide) (backOf (W := 0) (rm_add0 l Z a0 hw [] b_1 d__2 g__2 kd__2 kg__2 k1 nd (0 : Int64) (0 : Int64) (0 : Int64) (0 : Int64) (0 : Int32) (0 : Int32) (0 : Int32) (0 : Int32) T_2.heap n0 Z_2 pfF_size_a_2 pfF_keys_a_2 pfF_nodes_a_2 pfE_a_2 g_b_1 g_d__2 g_g__2 pfV_d_2 pfV_g_2 pfndg_2 (Nat.ne_of_lt (Nat.lt_of_lt_of_le A_1.lt pfsz_d_2)) (Nat.ne_of_lt (Nat.lt_of_lt_of_le A_1.lt pfsz_g_2))) hZ (ow hw 32 rfl) (ow hw 3 rfl) (by decide) (by decide)) q_4a q_4c (g := (mkF mM 57 (lc113 p1 p2 k1 k2 nd fl b_1) [(.int nd), (.long k1), (.ref b_1)])) rfl (by rw [hml]; rfl) (Steps.refl _) (argsL := [(.long k1), (.int nd)]) (rest := []) (lenOf pd_2 rfl) rfl (by show 2 * 0 + _ ≤ _; exact Nat.le_of_eq rfl) (hb hby at_57) (fun _ _ => ⟨rfl, eh_3, (by decide : 3 + 0 ≤ _), (by decide : 35 + 0 ≤ _)⟩)
  dsimp only [Pt.U, Pt.locs, Pt.cells, Pt.slots] at X_4 l_4 y_4 z_4 st_4 hQ_4
  subst l_4 y_4 z_4
  obtain ⟨u0__4, ⟨u1__4, ⟨u2__4, ⟨u3__4, ⟨v0__4, ⟨v1__4, ⟨v2__4, ⟨v3__4, ⟨rfl, N_4q, Kc_4, pfF_size_a_4, pfF_keys_a_4, pfF_nodes_a_4, pfE_a_4, pfV_d_4, pfV_g_4⟩⟩⟩⟩⟩⟩⟩⟩⟩ := hQ_4
  have Z_4 : n0 ≤ T_4.heap.size := (Nat.le_trans Z_2 Kc_4.1)
  have K_4 : Keep h0 T_4.heap [] := K_2.trans Kc_4 (allS (Or.inr sz_b_1) (allS (Or.inr sz_d__2) (allS (Or.inr sz_g__2) all0)))
  have N_4 := Fr.app N_3 N_4q
  obtain ⟨cq_5, kq_5, q_5a, q_5b, q_5c⟩ := isOf hZ rfl pfE_a_4
  obtain ⟨_, _, ⟨T_5, L_5, k_5, n_5⟩, -, X_5, ⟨Lc_5, hQ_5, l_5, y_5, z_5⟩, st_5⟩ := X_4.virtualBack hx (y := MN2) (z := MN2) hown (mvT hZ (ow hw 28 rfl)) (mvT hZ (ow hw 29 rfl)) (notFace_of_selects (args := #[]) (mvT hZ (ow hw 31 rfl))) (mvT hZ (ow hw 31 rfl)) (mvT hZ (ow hw 30 rfl)) (by decide) (backOf (W := 0) (rm_add1 l Z a0 hw [] b_1 d__2 g__2 kd__2 kg__2 k2 (nd + (1 : Int32)) u0__4 u1__4 u2__4 u3__4 v0__4 v1__4 v2__4 v3__4 T_4.heap n0 Z_4 pfF_size_a_4 pfF_keys_a_4 pfF_nodes_a_4 pfE_a_4 g_b_1 g_d__2 g_g__2 pfV_d_4 pfV_g_4 pfndg_2 (Nat.ne_of_lt (Nat.lt_of_lt_of_le A_1.lt pfsz_d_2)) (Nat.ne_of_lt (Nat.lt_of_lt_of_le A_1.lt pfsz_g_2))) hZ (ow hw 32 rfl) (ow hw 3 rfl) (by decide) (by decide)) q_5a q_5c (g := (mkF mM 74 (lc113 p1 p2 k1 k2 nd fl b_1) [(.int (nd + (1 : Int32))), (.long k2), (.ref b_1)])) rfl (by rw [hml]; rfl) (Steps.refl _) (argsL := [(.long k2), (.int (nd + (1 : Int32)))]) (rest := []) (lenOf pd_2 rfl) rfl (by show 2 * 0 + _ ≤ _; exact Nat.le_of_eq rfl) (hb hby at_74) (fun _ _ => ⟨rfl, rfl, (by decide : 3 + 0 ≤ _), (by decide : 35 + 0 ≤ _)⟩)
  dsimp only [Pt.U, Pt.locs, Pt.cells, Pt.slots] at X_5 l_5 y_5 z_5 st_5 hQ_5
  subst l_5 y_5 z_5
  obtain ⟨u0__5, ⟨u1__5, ⟨u2__5, ⟨u3__5, ⟨v0__5, ⟨v1__5, ⟨v2__5, ⟨v3__5, ⟨rfl, N_5q, Kc_5, pfF_size_a_5, pfF_keys_a_5, pfF_nodes_a_5, pfE_a_5, pfV_d_5, pfV_g_5⟩⟩⟩⟩⟩⟩⟩⟩⟩ := hQ_5
  have Z_5 : n0 ≤ T_5.heap.size := (Nat.le_trans Z_4 Kc_5.1)
  have K_5 : Keep h0 T_5.heap [] := K_4.trans Kc_5 (allS (Or.inr sz_b_1) (allS (Or.inr sz_d__2) (allS (Or.inr sz_g__2) all0)))
  have N_5 := Fr.app N_4 N_5q
  obtain ⟨cq_6, kq_6, q_6a, q_6b, q_6c⟩ := isOf hZ rfl pfE_a_5
  obtain ⟨_, _, ⟨T_6, L_6, k_6, n_6⟩, -, X_6, ⟨Lc_6, hQ_6, l_6, y_6, z_6⟩, st_6⟩ := X_5.virtualBack hx (y := MN2) (z := MN2) hown (mvT hZ (ow hw 28 rfl)) (mvT hZ (ow hw 29 rfl)) (notFace_of_selects (args := #[]) (mvT hZ (ow hw 31 rfl))) (mvT hZ (ow hw 31 rfl)) (mvT hZ (ow hw 30 rfl)) (by decide) (backOf (W := 0) (rm_add2 l Z a0 hw [] b_1 d__2 g__2 kd__2 kg__2 (k1 ^^^ k2) (nd ^^^ (-1 : Int32)) u0__5 u1__5 u2__5 u3__5 v0__5 v1__5 v2__5 v3__5 T_5.heap n0 Z_5 pfF_size_a_5 pfF_keys_a_5 pfF_nodes_a_5 pfE_a_5 g_b_1 g_d__2 g_g__2 pfV_d_5 pfV_g_5 pfndg_2 (Nat.ne_of_lt (Nat.lt_of_lt_of_le A_1.lt pfsz_d_2)) (Nat.ne_of_lt (Nat.lt_of_lt_of_le A_1.lt pfsz_g_2))) hZ (ow hw 32 rfl) (ow hw 3 rfl) (by decide) (by decide)) q_6a q_6c (g := (mkF mM 93 (lc113 p1 p2 k1 k2 nd fl b_1) [(.int (nd ^^^ (-1 : Int32))), (.long (k1 ^^^ k2)), (.ref b_1)])) rfl (by rw [hml]; rfl) (Steps.refl _) (argsL := [(.long (k1 ^^^ k2)), (.int (nd ^^^ (-1 : Int32)))]) (rest := []) (lenOf pd_2 rfl) rfl (by show 2 * 0 + _ ≤ _; exact Nat.le_of_eq rfl) (hb hby at_93) (fun _ _ => ⟨rfl, rfl, (by decide : 3 + 0 ≤ _), (by decide : 35 + 0 ≤ _)⟩)
  dsimp only [Pt.U, Pt.locs, Pt.cells, Pt.slots] at X_6 l_6 y_6 z_6 st_6 hQ_6
  subst l_6 y_6 z_6
  obtain ⟨u0__6, ⟨u1__6, ⟨u2__6, ⟨u3__6, ⟨v0__6, ⟨v1__6, ⟨v2__6, ⟨v3__6, ⟨rfl, N_6q, Kc_6, pfF_size_a_6, pfF_keys_a_6, pfF_nodes_a_6, pfE_a_6, pfV_d_6, pfV_g_6⟩⟩⟩⟩⟩⟩⟩⟩⟩ := hQ_6
  have Z_6 : n0 ≤ T_6.heap.size := (Nat.le_trans Z_5 Kc_6.1)
  have K_6 : Keep h0 T_6.heap [] := K_5.trans Kc_6 (allS (Or.inr sz_b_1) (allS (Or.inr sz_d__2) (allS (Or.inr sz_g__2) all0)))
  have N_6 := Fr.app N_5 N_6q
  obtain ⟨cq_7, kq_7, q_7a, q_7b, q_7c⟩ := isOf hZ rfl pfE_a_6
  obtain ⟨_, _, ⟨T_7, L_7, k_7, n_7⟩, -, X_7, ⟨Lc_7, hQ_7, l_7, y_7, z_7⟩, st_7⟩ := X_6.virtualBack hx (y := MN5) (z := MN5) hown (mvT hZ (ow hw 36 rfl)) (mvT hZ (ow hw 37 rfl)) (notFace_of_selects (args := #[]) (mvT hZ (ow hw 39 rfl))) (mvT hZ (ow hw 39 rfl)) (mvT hZ (ow hw 38 rfl)) (by decide) (backOf (W := 0) (rm_take3 l Z a0 hw [] b_1 d__2 g__2 kd__2 kg__2 u0__6 u1__6 u2__6 u3__6 v0__6 v1__6 v2__6 v3__6 T_6.heap n0 Z_6 pfF_size_a_6 pfF_keys_a_6 pfF_nodes_a_6 pfE_a_6 g_b_1 g_d__2 g_g__2 pfV_d_6 pfV_g_6 pfndg_2 (Nat.ne_of_lt (Nat.lt_of_lt_of_le A_1.lt pfsz_d_2)) (Nat.ne_of_lt (Nat.lt_of_lt_of_le A_1.lt pfsz_g_2))) hZ (ow hw 40 rfl) (ow hw 3 rfl) (by decide) (by decide)) q_7a q_7c (g := (mkF mM 104 (lc113 p1 p2 k1 k2 nd fl b_1) [(.ref b_1)])) rfl (by rw [hml]; rfl) (Steps.refl _) (argsL := []) (rest := []) (lenOf pd_4 rfl) rfl (by show 2 * 0 + _ ≤ _; exact Nat.le_of_eq rfl) (hb hby at_104) (fun _ _ => ⟨rfl, rfl, (by decide : 3 + 0 ≤ _), (by decide : 35 + 0 ≤ _)⟩)
  dsimp only [Pt.U, Pt.locs, Pt.cells, Pt.slots] at X_7 l_7 y_7 z_7 st_7 hQ_7
  subst l_7 y_7 z_7
  obtain ⟨u0__7, ⟨u1__7, ⟨u2__7, ⟨u3__7, ⟨v0__7, ⟨v1__7, ⟨v2__7, ⟨v3__7, ⟨rfl, N_7q, Kc_7, pfF_size_a_7, pfF_keys_a_7, pfF_nodes_a_7, pfE_a_7, pfV_d_7, pfV_g_7⟩⟩⟩⟩⟩⟩⟩⟩⟩ := hQ_7
  have Z_7 : n0 ≤ T_7.heap.size := (Nat.le_trans Z_6 Kc_7.1)
  have K_7 : Keep h0 T_7.heap [] := K_6.trans Kc_7 (allS (Or.inr sz_b_1) (allS (Or.inr sz_d__2) (allS (Or.inr sz_g__2) all0)))
  have N_7 := Fr.app N_6 N_7q
  obtain ⟨cq_8, kq_8, q_8a, q_8b, q_8c⟩ := isOf hZ rfl pfE_a_7
  obtain ⟨_, _, ⟨T_8, L_8, k_8, n_8⟩, -, X_8, ⟨Lc_8, hQ_8, l_8, y_8, z_8⟩, st_8⟩ := X_7.virtualBack hx (y := MN5) (z := MN5) hown (mvT hZ (ow hw 36 rfl)) (mvT hZ (ow hw 37 rfl)) (notFace_of_selects (args := #[]) (mvT hZ (ow hw 39 rfl))) (mvT hZ (ow hw 39 rfl)) (mvT hZ (ow hw 38 rfl)) (by decide) (backOf (W := 0) (rm_take2 l Z a0 hw [] b_1 d__2 g__2 kd__2 kg__2 u0__7 u1__7 u2__7 u3__7 v0__7 v1__7 v2__7 v3__7 T_7.heap n0 Z_7 pfF_size_a_7 pfF_keys_a_7 pfF_nodes_a_7 pfE_a_7 g_b_1 g_d__2 g_g__2 pfV_d_7 pfV_g_7 pfndg_2 (Nat.ne_of_lt (Nat.lt_of_lt_of_le A_1.lt pfsz_d_2)) (Nat.ne_of_lt (Nat.lt_of_lt_of_le A_1.lt pfsz_g_2))) hZ (ow hw 40 rfl) (ow hw 3 rfl) (by decide) (by decide)) q_8a q_8c (g := (mkF mM 116 (lc113 p1 p2 k1 k2 nd fl b_1) [(.ref b_1)])) rfl (by rw [hml]; rfl) (Steps.refl _) (argsL := []) (rest := []) (lenOf pd_4 rfl) rfl (by show 2 * 0 + _ ≤ _; exact Nat.le_of_eq rfl) (hb hby at_116) (fun _ _ => ⟨rfl, rfl, (by decide : 3 + 0 ≤ _), (by decide : 35 + 0 ≤ _)⟩)
  dsimp only [Pt.U, Pt.locs, Pt.cells, Pt.slots] at X_8 l_8 y_8 z_8 st_8 hQ_8
  subst l_8 y_8 z_8
  obtain ⟨u0__8, ⟨u1__8, ⟨u2__8, ⟨u3__8, ⟨v0__8, ⟨v1__8, ⟨v2__8, ⟨v3__8, ⟨rfl, N_8q, Kc_8, pfF_size_a_8, pfF_keys_a_8, pfF_nodes_a_8, pfE_a_8, pfV_d_8, pfV_g_8⟩⟩⟩⟩⟩⟩⟩⟩⟩ := hQ_8
  have Z_8 : n0 ≤ T_8.heap.size := (Nat.le_trans Z_7 Kc_8.1)
  have K_8 : Keep h0 T_8.heap [] := K_7.trans Kc_8 (allS (Or.inr sz_b_1) (allS (Or.inr sz_d__2) (allS (Or.inr sz_g__2) all0)))
  have N_8 := Fr.app N_7 N_8q
  obtain ⟨cq_9, kq_9, q_9a, q_9b, q_9c⟩ := isOf hZ rfl pfE_a_8
  obtain ⟨_, _, ⟨T_9, L_9, k_9, n_9⟩, -, X_9, ⟨Lc_9, hQ_9, l_9, y_9, z_9⟩, st_9⟩ := X_8.virtualBack hx (y := MN5) (z := MN5) hown (mvT hZ (ow hw 36 rfl)) (mvT hZ (ow hw 37 rfl)) (notFace_of_selects (args := #[]) (mvT hZ (ow hw 39 rfl))) (mvT hZ (ow hw 39 rfl)) (mvT hZ (ow hw 38 rfl)) (by decide) (backOf (W := 0) (rm_take1 l Z a0 hw [] b_1 d__2 g__2 kd__2 kg__2 u0__8 u1__8 u2__8 u3__8 v0__8 v1__8 v2__8 v3__8 T_8.heap n0 Z_8 pfF_size_a_8 pfF_keys_a_8 pfF_nodes_a_8 pfE_a_8 g_b_1 g_d__2 g_g__2 pfV_d_8 pfV_g_8 pfndg_2 (Nat.ne_of_lt (Nat.lt_of_lt_of_le A_1.lt pfsz_d_2)) (Nat.ne_of_lt (Nat.lt_of_lt_of_le A_1.lt pfsz_g_2))) hZ (ow hw 40 rfl) (ow hw 3 rfl) (by decide) (by decide)) q_9a q_9c (g := (mkF mM 128 (lc113 p1 p2 k1 k2 nd fl b_1) [(.ref b_1)])) rfl (by rw [hml]; rfl) (Steps.refl _) (argsL := []) (rest := []) (lenOf pd_4 rfl) rfl (by show 2 * 0 + _ ≤ _; exact Nat.le_of_eq rfl) (hb hby at_128) (fun _ _ => ⟨rfl, rfl, (by decide : 3 + 0 ≤ _), (by decide : 35 + 0 ≤ _)⟩)
  dsimp only [Pt.U, Pt.locs, Pt.cells, Pt.slots] at X_9 l_9 y_9 z_9 st_9 hQ_9
  subst l_9 y_9 z_9
  obtain ⟨u0__9, ⟨u1__9, ⟨u2__9, ⟨u3__9, ⟨v0__9, ⟨v1__9, ⟨v2__9, ⟨v3__9, ⟨rfl, N_9q, Kc_9, pfF_size_a_9, pfF_keys_a_9, pfF_nodes_a_9, pfE_a_9, pfV_d_9, pfV_g_9⟩⟩⟩⟩⟩⟩⟩⟩⟩ := hQ_9
  have Z_9 : n0 ≤ T_9.heap.size := (Nat.le_trans Z_8 Kc_9.1)
  have K_9 : Keep h0 T_9.heap [] := K_8.trans Kc_9 (allS (Or.inr sz_b_1) (allS (Or.inr sz_d__2) (allS (Or.inr sz_g__2) all0)))
  have N_9 := Fr.app N_8 N_9q
  obtain ⟨T_10, h_10, L_10, X_10, e_10, N_10, Kc_10, st_10⟩ := pc_tail0 p1 p2 k1 k2 nd fl (3 : Int32) (3 : Int32) (0 : Int32) b_1 d__2 g__2 kd__2 kg__2 u0__9 u1__9 u2__9 u3__9 v0__9 v1__9 v2__9 v3__9 X_9 hx hZ hw hby hml hown rfl N_9 Z_9 pfF_size_a_9 pfF_keys_a_9 pfF_nodes_a_9 pfE_a_9 g_b_1 g_d__2 g_g__2 pfV_d_9 pfV_g_9 pfndg_2 (Nat.ne_of_lt (Nat.lt_of_lt_of_le A_1.lt pfsz_d_2)) (Nat.ne_of_lt (Nat.lt_of_lt_of_le A_1.lt pfsz_g_2))
  have Z_10 : n0 ≤ h_10.size := (Nat.le_trans Z_9 Kc_10.1)
  have K_10 : Keep h0 h_10 [] := K_9.trans Kc_10 (allS (Or.inr sz_b_1) (allS (Or.inr sz_d__2) (allS (Or.inr sz_g__2) all0)))
  obtain ⟨fs, hr, hrun, hended, hW, hsame⟩ := X_10.leave (v := some (.int (1 : Int32))) (fun h => by rw [Bd.returns] at h; cases h)
  refine ⟨_, _, pre0 _ ?_, hrun, hended, _, _, rfl, ?_, ⟨_, rfl⟩, hW, hsame.mono (by decide) (by decide)⟩
  · show oS pP eE below s₁ (mkF mM 0 (lc6 p1 p2 k1 k2 nd fl) []) _
    refine XS.iloadN X0.here hx rfl (hb hby at_0) rfl ?_
    refine XS.iconst X0.here hx rfl (hb hby at_1) ?_
    show oS pP eE below s₁ (mkF mM 2 (lc6 p1 p2 k1 k2 nd fl) [(.int (3 : Int32)), (.int p1)]) _
    refine XS.iand X0.here hx rfl (hb hby at_2) rfl ?_
    show oS pP eE below s₁ (mkF mM 3 (lc6 p1 p2 k1 k2 nd fl) [(.int (p1 &&& (3 : Int32)))]) _
    rw [hn]
    refine XS.istore X0.here hx rfl (hb hby at_3) rfl (l' := (lc76 p1 p2 k1 k2 nd fl)) rfl ?_
    refine XS.iloadN X0.here hx rfl (hb hby at_5) rfl ?_
    show oS pP eE below s₁ (mkF mM 6 (lc76 p1 p2 k1 k2 nd fl) [(.int p2)]) _
    refine X0.ldcI hx hown (mvT hZ (ow hw 0 rfl)) (g := (mkF mM 6 (lc76 p1 p2 k1 k2 nd fl) [(.int p2)])) rfl (hb hby at_6) ?_
    show oS pP eE below s₁ (mkF mM 8 (lc76 p1 p2 k1 k2 nd fl) [(.int (2147483647 : Int32)), (.int p2)]) _
    refine XS.iand X0.here hx rfl (hb hby at_8) rfl ?_
    refine XS.iload X0.here hx rfl (hb hby at_9) rfl ?_
    refine XS.iconst X0.here hx rfl (hb hby at_11) ?_
    show oS pP eE below s₁ (mkF mM 12 (lc76 p1 p2 k1 k2 nd fl) [(.int (1 : Int32)), (.int (3 : Int32)), (.int (p2 &&& (2147483647 : Int32)))]) _
    refine XS.iadd X0.here hx rfl (hb hby at_12) rfl ?_
    show oS pP eE below s₁ (mkF mM 13 (lc76 p1 p2 k1 k2 nd fl) [(.int ((3 : Int32) + (1 : Int32))), (.int (p2 &&& (2147483647 : Int32)))]) _
    rw [(by decide : ((3 : Int32) + (1 : Int32)) = (4 : Int32))]
    show oS pP eE below s₁ (mkF mM 13 (lc76 p1 p2 k1 k2 nd fl) [(.int (4 : Int32)), (.int (p2 &&& (2147483647 : Int32)))]) _
    refine iremM X0 hx rfl (hb hby at_13) rfl (by decide) ?_
    show oS pP eE below s₁ (mkF mM 14 (lc76 p1 p2 k1 k2 nd fl) [(.int ((p2 &&& (2147483647 : Int32)) % (4 : Int32)))]) _
    rw [ht]
    refine XS.istore X0.here hx rfl (hb hby at_14) rfl (l' := (lc110 p1 p2 k1 k2 nd fl)) rfl ?_
    refine XS.iload X0.here hx rfl (hb hby at_16) rfl ?_
    refine XS.iconst X0.here hx rfl (hb hby at_18) ?_
    show oS pP eE below s₁ (mkF mM 19 (lc110 p1 p2 k1 k2 nd fl) [(.int (1 : Int32)), (.int fl)]) _
    refine XS.iand X0.here hx rfl (hb hby at_19) rfl ?_
    refine XS.ifYes X0.here hx rfl (pc0 := 20) (pc' := 27) rfl (hb hby at_20) rfl (XT.i0_eq_t hc) (by decide) (by decide) ?_
    refine XS.iconst X0.here hx rfl (hb hby at_27) ?_
    refine XS.istore X0.here hx rfl (hb hby at_28) rfl (l' := (lc111 p1 p2 k1 k2 nd fl)) rfl ?_
    show oS pP eE below s₁ (mkF mM 30 (lc111 p1 p2 k1 k2 nd fl) []) _
    refine st_1 _ ?_
    show oS pP eE below T_1 (mkF mM 33 (lc111 p1 p2 k1 k2 nd fl) [(.ref b_1)]) _
    refine XS.dup X_1.here hx rfl (hb hby at_33) rfl rfl ?_
    show oS pP eE below T_1 (mkF mM 34 (lc111 p1 p2 k1 k2 nd fl) [(.ref b_1), (.ref b_1)]) _
    refine st_2.trans ?_
    show oS pP eE below T_2 (mkF mM 37 (lc111 p1 p2 k1 k2 nd fl) [(.ref b_1)]) _
    refine XS.astore X_2.here hx rfl (hb hby at_37) rfl rfl (l' := (lc112 p1 p2 k1 k2 nd fl b_1)) rfl ?_
    refine XS.aload X_2.here hx rfl (hb hby at_39) rfl rfl ?_
    show oS pP eE below T_2 (mkF mM 41 (lc112 p1 p2 k1 k2 nd fl b_1) [(.ref b_1)]) _
    refine st_3.trans ?_
    show oS pP eE below T_3 (mkF mM 44 (lc112 p1 p2 k1 k2 nd fl b_1) [(.int (1 : Int32))]) _
    refine XS.istore X_3.here hx rfl (hb hby at_44) rfl (l' := (lc113 p1 p2 k1 k2 nd fl b_1)) rfl ?_
    refine XS.iload X_3.here hx rfl (hb hby at_46) rfl ?_
    refine XS.iconst X_3.here hx rfl (hb hby at_48) ?_
    refine XS.icmpNo X_3.here hx rfl (hb hby at_49) rfl (by decide) ?_
    refine XS.aload X_3.here hx rfl (hb hby at_52) rfl rfl ?_
    refine XT.lloadN X_3.here hx rfl (hb hby at_54) rfl ?_
    refine XS.iload X_3.here hx rfl (hb hby at_55) rfl ?_
    show oS pP eE below T_3 (mkF mM 57 (lc113 p1 p2 k1 k2 nd fl b_1) [(.int nd), (.long k1), (.ref b_1)]) _
    refine st_4.trans ?_
    show oS pP eE below T_4 (mkF mM 60 (lc113 p1 p2 k1 k2 nd fl b_1) []) _
    refine XS.iload X_4.here hx rfl (hb hby at_60) rfl ?_
    refine XS.iconst X_4.here hx rfl (hb hby at_62) ?_
    refine XS.icmpNo X_4.here hx rfl (hb hby at_63) rfl (by decide) ?_
    refine XS.aload X_4.here hx rfl (hb hby at_66) rfl rfl ?_
    refine XT.lload X_4.here hx rfl (hb hby at_68) rfl ?_
    refine XS.iload X_4.here hx rfl (hb hby at_70) rfl ?_
    refine XS.iconst X_4.here hx rfl (hb hby at_72) ?_
    show oS pP eE below T_4 (mkF mM 73 (lc113 p1 p2 k1 k2 nd fl b_1) [(.int (1 : Int32)), (.int nd), (.long k2), (.ref b_1)]) _
    refine XS.iadd X_4.here hx rfl (hb hby at_73) rfl ?_
    show oS pP eE below T_4 (mkF mM 74 (lc113 p1 p2 k1 k2 nd fl b_1) [(.int (nd + (1 : Int32))), (.long k2), (.ref b_1)]) _
    refine st_5.trans ?_
    show oS pP eE below T_5 (mkF mM 77 (lc113 p1 p2 k1 k2 nd fl b_1) []) _
    refine XS.iload X_5.here hx rfl (hb hby at_77) rfl ?_
    refine XS.iconst X_5.here hx rfl (hb hby at_79) ?_
    refine XS.icmpNo X_5.here hx rfl (hb hby at_80) rfl (by decide) ?_
    refine XS.aload X_5.here hx rfl (hb hby at_83) rfl rfl ?_
    refine XT.lloadN X_5.here hx rfl (hb hby at_85) rfl ?_
    refine XT.lload X_5.here hx rfl (hb hby at_86) rfl ?_
    show oS pP eE below T_5 (mkF mM 88 (lc113 p1 p2 k1 k2 nd fl b_1) [(.long k2), (.long k1), (.ref b_1)]) _
    refine XT.lxor X_5.here hx rfl (hb hby at_88) rfl ?_
    refine XS.iload X_5.here hx rfl (hb hby at_89) rfl ?_
    refine XS.iconst X_5.here hx rfl (hb hby at_91) ?_
    show oS pP eE below T_5 (mkF mM 92 (lc113 p1 p2 k1 k2 nd fl b_1) [(.int (-1 : Int32)), (.int nd), (.long (k1 ^^^ k2)), (.ref b_1)]) _
    refine XT.ixor X_5.here hx rfl (hb hby at_92) rfl ?_
    show oS pP eE below T_5 (mkF mM 93 (lc113 p1 p2 k1 k2 nd fl b_1) [(.int (nd ^^^ (-1 : Int32))), (.long (k1 ^^^ k2)), (.ref b_1)]) _
    refine st_6.trans ?_
    show oS pP eE below T_6 (mkF mM 96 (lc113 p1 p2 k1 k2 nd fl b_1) []) _
    refine XS.iload X_6.here hx rfl (hb hby at_96) rfl ?_
    refine XS.iconst X_6.here hx rfl (hb hby at_98) ?_
    refine XS.icmpNo X_6.here hx rfl (hb hby at_99) rfl (by decide) ?_
    refine XS.aload X_6.here hx rfl (hb hby at_102) rfl rfl ?_
    show oS pP eE below T_6 (mkF mM 104 (lc113 p1 p2 k1 k2 nd fl b_1) [(.ref b_1)]) _
    refine st_7.trans ?_
    show oS pP eE below T_7 (mkF mM 107 (lc113 p1 p2 k1 k2 nd fl b_1) [(.int v0__6)]) _
    refine XT.pop X_7.here hx rfl (hb hby at_107) rfl rfl ?_
    refine XS.iload X_7.here hx rfl (hb hby at_108) rfl ?_
    refine XS.iconst X_7.here hx rfl (hb hby at_110) ?_
    refine XS.icmpNo X_7.here hx rfl (hb hby at_111) rfl (by decide) ?_
    refine XS.aload X_7.here hx rfl (hb hby at_114) rfl rfl ?_
    show oS pP eE below T_7 (mkF mM 116 (lc113 p1 p2 k1 k2 nd fl b_1) [(.ref b_1)]) _
    refine st_8.trans ?_
    show oS pP eE below T_8 (mkF mM 119 (lc113 p1 p2 k1 k2 nd fl b_1) [(.int v0__7)]) _
    refine XT.pop X_8.here hx rfl (hb hby at_119) rfl rfl ?_
    refine XS.iload X_8.here hx rfl (hb hby at_120) rfl ?_
    refine XS.iconst X_8.here hx rfl (hb hby at_122) ?_
    refine XS.icmpNo X_8.here hx rfl (hb hby at_123) rfl (by decide) ?_
    refine XS.aload X_8.here hx rfl (hb hby at_126) rfl rfl ?_
    show oS pP eE below T_8 (mkF mM 128 (lc113 p1 p2 k1 k2 nd fl b_1) [(.ref b_1)]) _
    refine st_9.trans ?_
    show oS pP eE below T_9 (mkF mM 131 (lc113 p1 p2 k1 k2 nd fl b_1) [(.int v0__8)]) _
    refine XT.pop X_9.here hx rfl (hb hby at_131) rfl rfl ?_
    refine XS.iload X_9.here hx rfl (hb hby at_132) rfl ?_
    refine XS.ifYes X_9.here hx rfl (pc0 := 134) (pc' := 142) rfl (hb hby at_134) rfl (by decide) (by decide) (by decide) ?_
    refine XS.iload X_9.here hx rfl (hb hby at_142) rfl ?_
    refine XS.ifNo X_9.here hx rfl (hb hby at_144) rfl (by decide) ?_
    refine XS.iload X_9.here hx rfl (hb hby at_147) rfl ?_
    refine XS.iload X_9.here hx rfl (hb hby at_149) rfl ?_
    show oS pP eE below T_9 (mkF mM 151 (lc113 p1 p2 k1 k2 nd fl b_1) [(.int (3 : Int32)), (.int (3 : Int32))]) _
    refine XS.isub X_9.here hx rfl (hb hby at_151) rfl ?_
    show oS pP eE below T_9 (mkF mM 152 (lc113 p1 p2 k1 k2 nd fl b_1) [(.int ((3 : Int32) - (3 : Int32)))]) _
    rw [(by decide : ((3 : Int32) - (3 : Int32)) = (0 : Int32))]
    refine XS.ifNo X_9.here hx rfl (hb hby at_152) rfl (by decide) ?_
    refine XS.iconst X_9.here hx rfl (hb hby at_155) ?_
    refine XS.goto X_9.here hx rfl (pc0 := 156) (pc' := 160) rfl (hb hby at_156) (by decide) (by decide) ?_
    refine XS.istore X_9.here hx rfl (hb hby at_160) rfl (l' := (lc114 p1 p2 k1 k2 nd fl b_1)) rfl ?_
    show oS pP eE below T_9 (mkF mM 162 (lc114 p1 p2 k1 k2 nd fl b_1) []) _
    refine st_10 _ ?_
    show oS pP eE below T_10 (mkF mM 207 (lc115 p1 p2 k1 k2 nd fl b_1) [(.int (1 : Int32))]) _
    exact retN X_10 hx (t := .boolean) Bd.returns (by simp) (hb hby at_207) hr
  · show Q_law330 Z p1 p2 k1 k2 nd fl h0 n0 _ T_10.heap _
    exact ⟨rfl, N_10⟩
abbrev lc116 (p1 : Int32) (p2 : Int32) (k1 : Int64) (k2 : Int64) (nd : Int32) (fl : Int32) : Array Slot := #[.val (.int p1), .val (.int p2), .val (.long k1), .second, .val (.long k2), .second, .val (.int nd), .val (.int fl), .val (.int (3 : Int32)), .val (.int (3 : Int32)), .val (.int (1 : Int32)), .unset, .unset, .unset, .unset, .unset]
abbrev lc117 (p1 : Int32) (p2 : Int32) (k1 : Int64) (k2 : Int64) (nd : Int32) (fl : Int32) (b_1 : Addr) : Array Slot := #[.val (.int p1), .val (.int p2), .val (.long k1), .second, .val (.long k2), .second, .val (.int nd), .val (.int fl), .val (.int (3 : Int32)), .val (.int (3 : Int32)), .val (.int (1 : Int32)), .val (.ref b_1), .unset, .unset, .unset, .unset]
abbrev lc118 (p1 : Int32) (p2 : Int32) (k1 : Int64) (k2 : Int64) (nd : Int32) (fl : Int32) (b_1 : Addr) : Array Slot := #[.val (.int p1), .val (.int p2), .val (.long k1), .second, .val (.long k2), .second, .val (.int nd), .val (.int fl), .val (.int (3 : Int32)), .val (.int (3 : Int32)), .val (.int (1 : Int32)), .val (.ref b_1), .val (.int (1 : Int32)), .unset, .unset, .unset]
abbrev lc119 (p1 : Int32) (p2 : Int32) (k1 : Int64) (k2 : Int64) (nd : Int32) (fl : Int32) (b_1 : Addr) : Array Slot := #[.val (.int p1), .val (.int p2), .val (.long k1), .second, .val (.long k2), .second, .val (.int nd), .val (.int fl), .val (.int (3 : Int32)), .val (.int (3 : Int32)), .val (.int (1 : Int32)), .val (.ref b_1), .val (.int (1 : Int32)), .val (.int (1 : Int32)), .unset, .unset]
abbrev lc120 (p1 : Int32) (p2 : Int32) (k1 : Int64) (k2 : Int64) (nd : Int32) (fl : Int32) (b_1 : Addr) : Array Slot := #[.val (.int p1), .val (.int p2), .val (.long k1), .second, .val (.long k2), .second, .val (.int nd), .val (.int fl), .val (.int (3 : Int32)), .val (.int (3 : Int32)), .val (.int (1 : Int32)), .val (.ref b_1), .val (.int (1 : Int32)), .val (.int (1 : Int32)), .val (.int (1 : Int32)), .val (.int (0 : Int32))]
theorem ef_law331 (mM : MethodId) (x0 : Int32) (x1 : Int32) (x2 : Int64) (x3 : Int64) (x4 : Int32) (x5 : Int32) : entryFrame mM #[(.int x0), (.int x1), (.long x2), (.long x3), (.int x4), (.int x5)] maxLocals = mkF mM 0 #[.val (.int x0), .val (.int x1), .val (.long x2), .second, .val (.long x3), .second, .val (.int x4), .val (.int x5), .unset, .unset, .unset, .unset, .unset, .unset, .unset, .unset] [] := by first | (simp [entryFrame, mkF, argsToLocals, Value.category, maxLocals]; done) | rfl
def Q_law331 (Z : State) (p1 : Int32) (p2 : Int32) (k1 : Int64) (k2 : Int64) (nd : Int32) (fl : Int32) (h0 : Heap) (n0 : Nat) (v_ : Option Value) (h_ : Heap) (L_ : List Loc) : Prop := v_ = some (.int (1 : Int32)) ∧ Fr n0 L_
set_option maxRecDepth 65536 in
set_option maxHeartbeats 40000000 in
theorem rm_law331 (l : Launch) (Z : State) (a0 : Array Value) (hw : ∀ d ∈ tables_1, d.before a0 Z = true) (ws : List Jvm.Cond) (p1 : Int32) (p2 : Int32) (k1 : Int64) (k2 : Int64) (nd : Int32) (fl : Int32) (h0 : Heap) (n0 : Nat) (Z0 : n0 ≤ h0.size) (hn : (p1 &&& (3 : Int32)) = (3 : Int32)) (ht : ((p2 &&& (2147483647 : Int32)) % (4 : Int32)) = (3 : Int32)) (hc : ¬ (fl &&& (1 : Int32)) = 0) :
    MetFree l x (head1 (Jvm.Cond.code x code maxLocals ret :: ws) room_1) (fun aa_ U_ => aa_ = #[(.int p1), (.int p2), (.long k1), (.long k2), (.int nd), (.int fl)] ∧ Z.Warmed39 U_.vm ∧ U_.heap = h0) (fun _ _ _ _ _ => True) (fun _ U_ o_ U'_ => ∃ v_ L_, o_ = .returned v_ ∧ Q_law331 Z p1 p2 k1 k2 nd fl h0 n0 v_ U'_.heap L_ ∧ FrameEnd U_ o_ U'_ L_ 3 35) := by
  refine MetFree.of_bodySF (plainFor_of_name pn_1) hisR ?_
  intro pP eE sS mM argsA below meth cC s₁ Bd hml0 hP hK
  obtain ⟨rfl, hZ, hh⟩ := hP
  have hx := Bd.exec
  have hby := Bd.bytes
  have hml : cC.maxLocals = 16 := hml0
  have hown : sS.vm.findClass "com/example/greenweft/greenweft/steiner/NodeHeapIsEmptyPinLaw" = some mM.cls := findClass_of_methodNamed Bd.named
  have hnm := (name_of_methodNamed Bd.named Bd.method).1
  have X0 : Stand pP l eE room_1 sS mM #[(.int p1), (.int p2), (.long k1), (.long k2), (.int nd), (.int fl)] below meth cC s₁ [] 0 0 := Stand.of_body Bd
  have e0 : s₁.heap = h0 := by rw [← hh, Bd.state]; rfl
  have N0 := Fr.nil n0
  have pre0 : ∀ t_, Steps pP.tables eE below (s₁.setTop (mkF mM 0 #[.val (.int p1), .val (.int p2), .val (.long k1), .second, .val (.long k2), .second, .val (.int nd), .val (.int fl), .unset, .unset, .unset, .unset, .unset, .unset, .unset, .unset] [])) t_ → Steps pP.tables eE below (s₁.setTop (entryFrame mM #[(.int p1), (.int p2), (.long k1), (.long k2), (.int nd), (.int fl)] maxLocals)) t_ := fun t_ k_ => castTop (ef_law331 mM p1 p2 k1 k2 nd fl) k_
  obtain ⟨T_1, h_1, X_1, e_1, E_1, A_1, D_1, -, st_1⟩ := newO X0 hx hZ hown (ow hw 1 rfl) (ow hw 2 rfl) (ow hw 3 rfl) e0 (g := (mkF mM 30 (lc116 p1 p2 k1 k2 nd fl) [])) rfl (hb hby at_30) (by decide) (by decide)
  obtain ⟨b_1, g_1⟩ : ∃ z, z = h0.size := ⟨_, rfl⟩
  rw [← g_1] at A_1 D_1 st_1
  have g_b_1 : n0 ≤ b_1 := Nat.le_trans Z0 (Nat.le_of_eq g_1.symm)
  have sz_b_1 : h0.size ≤ b_1 := Nat.le_trans (Keep.refl h0 []).1 (Nat.le_of_eq g_1.symm)
  have Z_1 : n0 ≤ h_1.size := (Nat.le_trans Z0 E_1.1)
  have K_1 : Keep h0 h_1 [] := (Keep.refl h0 []).ext E_1
  have F_keys_b_1__1 : Fld Z h_1 b_1 "com/example/greenweft/greenweft/steiner/NodeHeap" "keys" "[J" .null := D_1 (Or.inl (ow hw 12 rfl)) (ty := (.array .long)) (by decide)
  have F_nodes_b_1__1 : Fld Z h_1 b_1 "com/example/greenweft/greenweft/steiner/NodeHeap" "nodes" "[I" .null := D_1 (Or.inl (ow hw 15 rfl)) (ty := (.array .int)) (by decide)
  have F_size_b_1__1 : Fld Z h_1 b_1 "com/example/greenweft/greenweft/steiner/NodeHeap" "size" "I" (.int (0 : Int32)) := D_1 (Or.inl (ow hw 22 rfl)) (ty := .int) (by decide)
  obtain ⟨_, _, ⟨T_2, L_2, k_2, n_2⟩, -, X_2, ⟨Lc_2, hQ_2, l_2, y_2, z_2⟩, st_2⟩ := X_1.specialBack hx (y := MN3) rfl hown (mvT hZ (ow hw 4 rfl)) (mvT hZ (ow hw 5 rfl)) (mvT hZ (ow hw 6 rfl)) (by decide) (backOf (W := 1) (rm_init l Z a0 hw [] b_1 h_1 n0 Z_1 F_keys_b_1__1 F_nodes_b_1__1 F_size_b_1__1 A_1 g_b_1) hZ (ow hw 6 rfl) (ow hw 3 rfl) (by decide) (by decide)) (g := (mkF mM 34 (lc116 p1 p2 k1 k2 nd fl) [(.ref b_1), (.ref b_1)])) rfl (by rw [hml]; rfl) (Steps.refl _) (a := b_1) (argsL := []) (rest := [(.ref b_1)]) (lenOf pd_3 rfl) rfl (by show 2 * 0 + _ ≤ _; exact Nat.le_of_eq rfl) (hb hby at_34) (fun _ _ => ⟨rfl, e_1, (by decide : 1 + 2 ≤ _), (by decide : 3 + 32 ≤ _)⟩)
  dsimp only [Pt.U, Pt.locs, Pt.cells, Pt.slots] at X_2 l_2 y_2 z_2 st_2 hQ_2
  subst l_2 y_2 z_2
  obtain ⟨d__2, ⟨g__2, ⟨kd__2, ⟨kg__2, ⟨rfl, N_2q, Kc_2, pfsz_d_2, pfsz_g_2, pfndg_2, pfE_a_2, pfF_keys_a_2, pfF_nodes_a_2, pfF_size_a_2, pfV_d_2, pfV_g_2⟩⟩⟩⟩⟩ := hQ_2
  have Z_2 : n0 ≤ T_2.heap.size := (Nat.le_trans Z_1 Kc_2.1)
  have K_2 : Keep h0 T_2.heap [] := K_1.trans Kc_2 (allS (Or.inr sz_b_1) all0)
  have sz_d__2 : h0.size ≤ d__2 := Nat.le_trans K_1.1 pfsz_d_2
  have g_d__2 : n0 ≤ d__2 := Nat.le_trans Z_1 pfsz_d_2
  have sz_g__2 : h0.size ≤ g__2 := Nat.le_trans K_1.1 pfsz_g_2
  have g_g__2 : n0 ≤ g__2 := Nat.le_trans Z_1 pfsz_g_2
  have N_2 := Fr.app N0 N_2q
  obtain ⟨cq_3, kq_3, q_3a, q_3b, q_3c⟩ := isOf hZ rfl pfE_a_2
  obtain ⟨_, _, ⟨T_3, L_3, k_3, n_3⟩, -, X_3, ⟨Lc_3, hQ_3, l_3, y_3, z_3⟩, st_3⟩ := X_2.virtualBack hx (y := MN1) (z := MN1) hown (mvT hZ (ow hw 16 rfl)) (mvT hZ (ow hw 17 rfl)) (notFace_of_selects (args := #[]) (mvT hZ (ow hw 19 rfl))) (mvT hZ (ow hw 19 rfl)) (mvT hZ (ow hw 18 rfl)) (by decide) (backOf (W := 0) (rm_ie0 l Z a0 hw [] b_1 T_2.heap n0 Z_2 pfF_size_a_2) hZ (ow hw 20 rfl) (ow hw 3 rfl) (by decide) (by decide)) q_3a q_3c (g := (mkF mM 41 (lc117 p1 p2 k1 k2 nd fl b_1) [(.ref b_1)])) rfl (by rw [hml]; rfl) (Steps.refl _) (argsL := []) (rest := []) (lenOf pd_1 rfl) rfl (by show 2 * 0 + _ ≤ _; exact Nat.le_of_eq rfl) (hb hby at_41) (fun _ _ => ⟨rfl, rfl, (by decide : 3 + 0 ≤ _), (by decide : 35 + 0 ≤ _)⟩)
  dsimp only [Pt.U, Pt.locs, Pt.cells, Pt.slots] at X_3 l_3 y_3 z_3 st_3 hQ_3
  subst l_3 y_3 z_3
  obtain ⟨rfl, N_3q, eh_3⟩ := hQ_3
  have N_3 := Fr.app N_2 N_3q
  obtain ⟨cq_4, kq_4, q_4a, q_4b, q_4c⟩ := isOf hZ eh_3 pfE_a_2
  obtain ⟨_, _, ⟨T_4, L_4, k_4, n_4⟩, -, X_4, ⟨Lc_4, hQ_4, l_4, y_4, z_4⟩, st_4⟩ := X_3.virtualBack hx (y := MN2) (z := MN2) hown (mvT hZ (ow hw 28 rfl)) (mvT hZ (ow hw 29 rfl)) (notFace_of_selects (args := #[]) (mvT hZ (ow hw 31 rfl))) (mvT hZ (ow hw 31 rfl)) (mvT hZ (ow hw 30 rfl)) (by decide) (backOf (W := 0) (rm_add0 l Z a0 hw [] b_1 d__2 g__2 kd__2 kg__2 k1 nd (0 : Int64) (0 : Int64) (0 : Int64) (0 : Int64) (0 : Int32) (0 : Int32) (0 : Int32) (0 : Int32) T_2.heap n0 Z_2 pfF_size_a_2 pfF_keys_a_2 pfF_nodes_a_2 pfE_a_2 g_b_1 g_d__2 g_g__2 pfV_d_2 pfV_g_2 pfndg_2 (Nat.ne_of_lt (Nat.lt_of_lt_of_le A_1.lt pfsz_d_2)) (Nat.ne_of_lt (Nat.lt_of_lt_of_le A_1.lt pfsz_g_2))) hZ (ow hw 32 rfl) (ow hw 3 rfl) (by decide) (by decide)) q_4a q_4c (g := (mkF mM 57 (lc118 p1 p2 k1 k2 nd fl b_1) [(.int nd), (.long k1), (.ref b_1)])) rfl (by rw [hml]; rfl) (Steps.refl _) (argsL := [(.long k1), (.int nd)]) (rest := []) (lenOf pd_2 rfl) rfl (by show 2 * 0 + _ ≤ _; exact Nat.le_of_eq rfl) (hb hby at_57) (fun _ _ => ⟨rfl, eh_3, (by decide : 3 + 0 ≤ _), (by decide : 35 + 0 ≤ _)⟩)
  dsimp only [Pt.U, Pt.locs, Pt.cells, Pt.slots] at X_4 l_4 y_4 z_4 st_4 hQ_4
  subst l_4 y_4 z_4
  obtain ⟨u0__4, ⟨u1__4, ⟨u2__4, ⟨u3__4, ⟨v0__4, ⟨v1__4, ⟨v2__4, ⟨v3__4, ⟨rfl, N_4q, Kc_4, pfF_size_a_4, pfF_keys_a_4, pfF_nodes_a_4, pfE_a_4, pfV_d_4, pfV_g_4⟩⟩⟩⟩⟩⟩⟩⟩⟩ := hQ_4
  have Z_4 : n0 ≤ T_4.heap.size := (Nat.le_trans Z_2 Kc_4.1)
  have K_4 : Keep h0 T_4.heap [] := K_2.trans Kc_4 (allS (Or.inr sz_b_1) (allS (Or.inr sz_d__2) (allS (Or.inr sz_g__2) all0)))
  have N_4 := Fr.app N_3 N_4q
  obtain ⟨cq_5, kq_5, q_5a, q_5b, q_5c⟩ := isOf hZ rfl pfE_a_4
  obtain ⟨_, _, ⟨T_5, L_5, k_5, n_5⟩, -, X_5, ⟨Lc_5, hQ_5, l_5, y_5, z_5⟩, st_5⟩ := X_4.virtualBack hx (y := MN2) (z := MN2) hown (mvT hZ (ow hw 28 rfl)) (mvT hZ (ow hw 29 rfl)) (notFace_of_selects (args := #[]) (mvT hZ (ow hw 31 rfl))) (mvT hZ (ow hw 31 rfl)) (mvT hZ (ow hw 30 rfl)) (by decide) (backOf (W := 0) (rm_add1 l Z a0 hw [] b_1 d__2 g__2 kd__2 kg__2 k2 (nd + (1 : Int32)) u0__4 u1__4 u2__4 u3__4 v0__4 v1__4 v2__4 v3__4 T_4.heap n0 Z_4 pfF_size_a_4 pfF_keys_a_4 pfF_nodes_a_4 pfE_a_4 g_b_1 g_d__2 g_g__2 pfV_d_4 pfV_g_4 pfndg_2 (Nat.ne_of_lt (Nat.lt_of_lt_of_le A_1.lt pfsz_d_2)) (Nat.ne_of_lt (Nat.lt_of_lt_of_le A_1.lt pfsz_g_2))) hZ (ow hw 32 rfl) (ow hw 3 rfl) (by decide) (by decide)) q_5a q_5c (g := (mkF mM 74 (lc118 p1 p2 k1 k2 nd fl b_1) [(.int (nd + (1 : Int32))), (.long k2), (.ref b_1)])) rfl (by rw [hml]; rfl) (Steps.refl _) (argsL := [(.long k2), (.int (nd + (1 : Int32)))]) (rest := []) (lenOf pd_2 rfl) rfl (by show 2 * 0 + _ ≤ _; exact Nat.le_of_eq rfl) (hb hby at_74) (fun _ _ => ⟨rfl, rfl, (by decide : 3 + 0 ≤ _), (by decide : 35 + 0 ≤ _)⟩)
  dsimp only [Pt.U, Pt.locs, Pt.cells, Pt.slots] at X_5 l_5 y_5 z_5 st_5 hQ_5
  subst l_5 y_5 z_5
  obtain ⟨u0__5, ⟨u1__5, ⟨u2__5, ⟨u3__5, ⟨v0__5, ⟨v1__5, ⟨v2__5, ⟨v3__5, ⟨rfl, N_5q, Kc_5, pfF_size_a_5, pfF_keys_a_5, pfF_nodes_a_5, pfE_a_5, pfV_d_5, pfV_g_5⟩⟩⟩⟩⟩⟩⟩⟩⟩ := hQ_5
  have Z_5 : n0 ≤ T_5.heap.size := (Nat.le_trans Z_4 Kc_5.1)
  have K_5 : Keep h0 T_5.heap [] := K_4.trans Kc_5 (allS (Or.inr sz_b_1) (allS (Or.inr sz_d__2) (allS (Or.inr sz_g__2) all0)))
  have N_5 := Fr.app N_4 N_5q
  obtain ⟨cq_6, kq_6, q_6a, q_6b, q_6c⟩ := isOf hZ rfl pfE_a_5
  obtain ⟨_, _, ⟨T_6, L_6, k_6, n_6⟩, -, X_6, ⟨Lc_6, hQ_6, l_6, y_6, z_6⟩, st_6⟩ := X_5.virtualBack hx (y := MN2) (z := MN2) hown (mvT hZ (ow hw 28 rfl)) (mvT hZ (ow hw 29 rfl)) (notFace_of_selects (args := #[]) (mvT hZ (ow hw 31 rfl))) (mvT hZ (ow hw 31 rfl)) (mvT hZ (ow hw 30 rfl)) (by decide) (backOf (W := 0) (rm_add2 l Z a0 hw [] b_1 d__2 g__2 kd__2 kg__2 (k1 ^^^ k2) (nd ^^^ (-1 : Int32)) u0__5 u1__5 u2__5 u3__5 v0__5 v1__5 v2__5 v3__5 T_5.heap n0 Z_5 pfF_size_a_5 pfF_keys_a_5 pfF_nodes_a_5 pfE_a_5 g_b_1 g_d__2 g_g__2 pfV_d_5 pfV_g_5 pfndg_2 (Nat.ne_of_lt (Nat.lt_of_lt_of_le A_1.lt pfsz_d_2)) (Nat.ne_of_lt (Nat.lt_of_lt_of_le A_1.lt pfsz_g_2))) hZ (ow hw 32 rfl) (ow hw 3 rfl) (by decide) (by decide)) q_6a q_6c (g := (mkF mM 93 (lc118 p1 p2 k1 k2 nd fl b_1) [(.int (nd ^^^ (-1 : Int32))), (.long (k1 ^^^ k2)), (.ref b_1)])) rfl (by rw [hml]; rfl) (Steps.refl _) (argsL := [(.long (k1 ^^^ k2)), (.int (nd ^^^ (-1 : Int32)))]) (rest := []) (lenOf pd_2 rfl) rfl (by show 2 * 0 + _ ≤ _; exact Nat.le_of_eq rfl) (hb hby at_93) (fun _ _ => ⟨rfl, rfl, (by decide : 3 + 0 ≤ _), (by decide : 35 + 0 ≤ _)⟩)
  dsimp only [Pt.U, Pt.locs, Pt.cells, Pt.slots] at X_6 l_6 y_6 z_6 st_6 hQ_6
  subst l_6 y_6 z_6
  obtain ⟨u0__6, ⟨u1__6, ⟨u2__6, ⟨u3__6, ⟨v0__6, ⟨v1__6, ⟨v2__6, ⟨v3__6, ⟨rfl, N_6q, Kc_6, pfF_size_a_6, pfF_keys_a_6, pfF_nodes_a_6, pfE_a_6, pfV_d_6, pfV_g_6⟩⟩⟩⟩⟩⟩⟩⟩⟩ := hQ_6
  have Z_6 : n0 ≤ T_6.heap.size := (Nat.le_trans Z_5 Kc_6.1)
  have K_6 : Keep h0 T_6.heap [] := K_5.trans Kc_6 (allS (Or.inr sz_b_1) (allS (Or.inr sz_d__2) (allS (Or.inr sz_g__2) all0)))
  have N_6 := Fr.app N_5 N_6q
  obtain ⟨cq_7, kq_7, q_7a, q_7b, q_7c⟩ := isOf hZ rfl pfE_a_6
  obtain ⟨_, _, ⟨T_7, L_7, k_7, n_7⟩, -, X_7, ⟨Lc_7, hQ_7, l_7, y_7, z_7⟩, st_7⟩ := X_6.virtualBack hx (y := MN5) (z := MN5) hown (mvT hZ (ow hw 36 rfl)) (mvT hZ (ow hw 37 rfl)) (notFace_of_selects (args := #[]) (mvT hZ (ow hw 39 rfl))) (mvT hZ (ow hw 39 rfl)) (mvT hZ (ow hw 38 rfl)) (by decide) (backOf (W := 0) (rm_take3 l Z a0 hw [] b_1 d__2 g__2 kd__2 kg__2 u0__6 u1__6 u2__6 u3__6 v0__6 v1__6 v2__6 v3__6 T_6.heap n0 Z_6 pfF_size_a_6 pfF_keys_a_6 pfF_nodes_a_6 pfE_a_6 g_b_1 g_d__2 g_g__2 pfV_d_6 pfV_g_6 pfndg_2 (Nat.ne_of_lt (Nat.lt_of_lt_of_le A_1.lt pfsz_d_2)) (Nat.ne_of_lt (Nat.lt_of_lt_of_le A_1.lt pfsz_g_2))) hZ (ow hw 40 rfl) (ow hw 3 rfl) (by decide) (by decide)) q_7a q_7c (g := (mkF mM 104 (lc118 p1 p2 k1 k2 nd fl b_1) [(.ref b_1)])) rfl (by rw [hml]; rfl) (Steps.refl _) (argsL := []) (rest := []) (lenOf pd_4 rfl) rfl (by show 2 * 0 + _ ≤ _; exact Nat.le_of_eq rfl) (hb hby at_104) (fun _ _ => ⟨rfl, rfl, (by decide : 3 + 0 ≤ _), (by decide : 35 + 0 ≤ _)⟩)
  dsimp only [Pt.U, Pt.locs, Pt.cells, Pt.slots] at X_7 l_7 y_7 z_7 st_7 hQ_7
  subst l_7 y_7 z_7
  obtain ⟨u0__7, ⟨u1__7, ⟨u2__7, ⟨u3__7, ⟨v0__7, ⟨v1__7, ⟨v2__7, ⟨v3__7, ⟨rfl, N_7q, Kc_7, pfF_size_a_7, pfF_keys_a_7, pfF_nodes_a_7, pfE_a_7, pfV_d_7, pfV_g_7⟩⟩⟩⟩⟩⟩⟩⟩⟩ := hQ_7
  have Z_7 : n0 ≤ T_7.heap.size := (Nat.le_trans Z_6 Kc_7.1)
  have K_7 : Keep h0 T_7.heap [] := K_6.trans Kc_7 (allS (Or.inr sz_b_1) (allS (Or.inr sz_d__2) (allS (Or.inr sz_g__2) all0)))
  have N_7 := Fr.app N_6 N_7q
  obtain ⟨cq_8, kq_8, q_8a, q_8b, q_8c⟩ := isOf hZ rfl pfE_a_7
  obtain ⟨_, _, ⟨T_8, L_8, k_8, n_8⟩, -, X_8, ⟨Lc_8, hQ_8, l_8, y_8, z_8⟩, st_8⟩ := X_7.virtualBack hx (y := MN5) (z := MN5) hown (mvT hZ (ow hw 36 rfl)) (mvT hZ (ow hw 37 rfl)) (notFace_of_selects (args := #[]) (mvT hZ (ow hw 39 rfl))) (mvT hZ (ow hw 39 rfl)) (mvT hZ (ow hw 38 rfl)) (by decide) (backOf (W := 0) (rm_take2 l Z a0 hw [] b_1 d__2 g__2 kd__2 kg__2 u0__7 u1__7 u2__7 u3__7 v0__7 v1__7 v2__7 v3__7 T_7.heap n0 Z_7 pfF_size_a_7 pfF_keys_a_7 pfF_nodes_a_7 pfE_a_7 g_b_1 g_d__2 g_g__2 pfV_d_7 pfV_g_7 pfndg_2 (Nat.ne_of_lt (Nat.lt_of_lt_of_le A_1.lt pfsz_d_2)) (Nat.ne_of_lt (Nat.lt_of_lt_of_le A_1.lt pfsz_g_2))) hZ (ow hw 40 rfl) (ow hw 3 rfl) (by decide) (by decide)) q_8a q_8c (g := (mkF mM 116 (lc118 p1 p2 k1 k2 nd fl b_1) [(.ref b_1)])) rfl (by rw [hml]; rfl) (Steps.refl _) (argsL := []) (rest := []) (lenOf pd_4 rfl) rfl (by show 2 * 0 + _ ≤ _; exact Nat.le_of_eq rfl) (hb hby at_116) (fun _ _ => ⟨rfl, rfl, (by decide : 3 + 0 ≤ _), (by decide : 35 + 0 ≤ _)⟩)
  dsimp only [Pt.U, Pt.locs, Pt.cells, Pt.slots] at X_8 l_8 y_8 z_8 st_8 hQ_8
  subst l_8 y_8 z_8
  obtain ⟨u0__8, ⟨u1__8, ⟨u2__8, ⟨u3__8, ⟨v0__8, ⟨v1__8, ⟨v2__8, ⟨v3__8, ⟨rfl, N_8q, Kc_8, pfF_size_a_8, pfF_keys_a_8, pfF_nodes_a_8, pfE_a_8, pfV_d_8, pfV_g_8⟩⟩⟩⟩⟩⟩⟩⟩⟩ := hQ_8
  have Z_8 : n0 ≤ T_8.heap.size := (Nat.le_trans Z_7 Kc_8.1)
  have K_8 : Keep h0 T_8.heap [] := K_7.trans Kc_8 (allS (Or.inr sz_b_1) (allS (Or.inr sz_d__2) (allS (Or.inr sz_g__2) all0)))
  have N_8 := Fr.app N_7 N_8q
  obtain ⟨cq_9, kq_9, q_9a, q_9b, q_9c⟩ := isOf hZ rfl pfE_a_8
  obtain ⟨_, _, ⟨T_9, L_9, k_9, n_9⟩, -, X_9, ⟨Lc_9, hQ_9, l_9, y_9, z_9⟩, st_9⟩ := X_8.virtualBack hx (y := MN5) (z := MN5) hown (mvT hZ (ow hw 36 rfl)) (mvT hZ (ow hw 37 rfl)) (notFace_of_selects (args := #[]) (mvT hZ (ow hw 39 rfl))) (mvT hZ (ow hw 39 rfl)) (mvT hZ (ow hw 38 rfl)) (by decide) (backOf (W := 0) (rm_take1 l Z a0 hw [] b_1 d__2 g__2 kd__2 kg__2 u0__8 u1__8 u2__8 u3__8 v0__8 v1__8 v2__8 v3__8 T_8.heap n0 Z_8 pfF_size_a_8 pfF_keys_a_8 pfF_nodes_a_8 pfE_a_8 g_b_1 g_d__2 g_g__2 pfV_d_8 pfV_g_8 pfndg_2 (Nat.ne_of_lt (Nat.lt_of_lt_of_le A_1.lt pfsz_d_2)) (Nat.ne_of_lt (Nat.lt_of_lt_of_le A_1.lt pfsz_g_2))) hZ (ow hw 40 rfl) (ow hw 3 rfl) (by decide) (by decide)) q_9a q_9c (g := (mkF mM 128 (lc118 p1 p2 k1 k2 nd fl b_1) [(.ref b_1)])) rfl (by rw [hml]; rfl) (Steps.refl _) (argsL := []) (rest := []) (lenOf pd_4 rfl) rfl (by show 2 * 0 + _ ≤ _; exact Nat.le_of_eq rfl) (hb hby at_128) (fun _ _ => ⟨rfl, rfl, (by decide : 3 + 0 ≤ _), (by decide : 35 + 0 ≤ _)⟩)
  dsimp only [Pt.U, Pt.locs, Pt.cells, Pt.slots] at X_9 l_9 y_9 z_9 st_9 hQ_9
  subst l_9 y_9 z_9
  obtain ⟨u0__9, ⟨u1__9, ⟨u2__9, ⟨u3__9, ⟨v0__9, ⟨v1__9, ⟨v2__9, ⟨v3__9, ⟨rfl, N_9q, Kc_9, pfF_size_a_9, pfF_keys_a_9, pfF_nodes_a_9, pfE_a_9, pfV_d_9, pfV_g_9⟩⟩⟩⟩⟩⟩⟩⟩⟩ := hQ_9
  have Z_9 : n0 ≤ T_9.heap.size := (Nat.le_trans Z_8 Kc_9.1)
  have K_9 : Keep h0 T_9.heap [] := K_8.trans Kc_9 (allS (Or.inr sz_b_1) (allS (Or.inr sz_d__2) (allS (Or.inr sz_g__2) all0)))
  have N_9 := Fr.app N_8 N_9q
  obtain ⟨cq_10, kq_10, q_10a, q_10b, q_10c⟩ := isOf hZ rfl pfE_a_9
  obtain ⟨_, _, ⟨T_10, L_10, k_10, n_10⟩, -, X_10, ⟨Lc_10, hQ_10, l_10, y_10, z_10⟩, st_10⟩ := X_9.virtualBack hx (y := MN4) (z := MN4) hown (mvT hZ (ow hw 23 rfl)) (mvT hZ (ow hw 24 rfl)) (notFace_of_selects (args := #[]) (mvT hZ (ow hw 26 rfl))) (mvT hZ (ow hw 26 rfl)) (mvT hZ (ow hw 25 rfl)) (by decide) (backOf (W := 0) (rm_clear l Z a0 hw [] b_1 d__2 g__2 (0 : Int32) T_9.heap n0 Z_9 pfF_size_a_9 pfF_keys_a_9 pfF_nodes_a_9 pfE_a_9 g_b_1) hZ (ow hw 27 rfl) (ow hw 3 rfl) (by decide) (by decide)) q_10a q_10c (g := (mkF mM 139 (lc118 p1 p2 k1 k2 nd fl b_1) [(.ref b_1)])) rfl (by rw [hml]; rfl) (Steps.refl _) (argsL := []) (rest := []) (lenOf pd_3 rfl) rfl (by show 2 * 0 + _ ≤ _; exact Nat.le_of_eq rfl) (hb hby at_139) (fun _ _ => ⟨rfl, rfl, (by decide : 3 + 0 ≤ _), (by decide : 35 + 0 ≤ _)⟩)
  dsimp only [Pt.U, Pt.locs, Pt.cells, Pt.slots] at X_10 l_10 y_10 z_10 st_10 hQ_10
  subst l_10 y_10 z_10
  obtain ⟨rfl, N_10q, Kc_10, pfF_size_a_10, pfF_keys_a_10, pfF_nodes_a_10, pfE_a_10⟩ := hQ_10
  have Z_10 : n0 ≤ T_10.heap.size := (Nat.le_trans Z_9 Kc_10.1)
  have K_10 : Keep h0 T_10.heap [] := K_9.trans Kc_10 (allS (Or.inr sz_b_1) all0)
  have N_10 := Fr.app N_9 N_10q
  obtain ⟨T_11, h_11, L_11, X_11, e_11, N_11, Kc_11, st_11⟩ := pc_tail0 p1 p2 k1 k2 nd fl (3 : Int32) (3 : Int32) (1 : Int32) b_1 d__2 g__2 kd__2 kg__2 u0__9 u1__9 u2__9 u3__9 v0__9 v1__9 v2__9 v3__9 X_10 hx hZ hw hby hml hown rfl N_10 Z_10 pfF_size_a_10 pfF_keys_a_10 pfF_nodes_a_10 pfE_a_10 g_b_1 g_d__2 g_g__2 (pfV_d_9.keep Kc_10 (ninS (Ne.symm (Nat.ne_of_lt (Nat.lt_of_lt_of_le A_1.lt pfsz_d_2))) nin0)) (pfV_g_9.keep Kc_10 (ninS (Ne.symm (Nat.ne_of_lt (Nat.lt_of_lt_of_le A_1.lt pfsz_g_2))) nin0)) pfndg_2 (Nat.ne_of_lt (Nat.lt_of_lt_of_le A_1.lt pfsz_d_2)) (Nat.ne_of_lt (Nat.lt_of_lt_of_le A_1.lt pfsz_g_2))
  have Z_11 : n0 ≤ h_11.size := (Nat.le_trans Z_10 Kc_11.1)
  have K_11 : Keep h0 h_11 [] := K_10.trans Kc_11 (allS (Or.inr sz_b_1) (allS (Or.inr sz_d__2) (allS (Or.inr sz_g__2) all0)))
  obtain ⟨fs, hr, hrun, hended, hW, hsame⟩ := X_11.leave (v := some (.int (1 : Int32))) (fun h => by rw [Bd.returns] at h; cases h)
  refine ⟨_, _, pre0 _ ?_, hrun, hended, _, _, rfl, ?_, ⟨_, rfl⟩, hW, hsame.mono (by decide) (by decide)⟩
  · show oS pP eE below s₁ (mkF mM 0 (lc6 p1 p2 k1 k2 nd fl) []) _
    refine XS.iloadN X0.here hx rfl (hb hby at_0) rfl ?_
    refine XS.iconst X0.here hx rfl (hb hby at_1) ?_
    show oS pP eE below s₁ (mkF mM 2 (lc6 p1 p2 k1 k2 nd fl) [(.int (3 : Int32)), (.int p1)]) _
    refine XS.iand X0.here hx rfl (hb hby at_2) rfl ?_
    show oS pP eE below s₁ (mkF mM 3 (lc6 p1 p2 k1 k2 nd fl) [(.int (p1 &&& (3 : Int32)))]) _
    rw [hn]
    refine XS.istore X0.here hx rfl (hb hby at_3) rfl (l' := (lc76 p1 p2 k1 k2 nd fl)) rfl ?_
    refine XS.iloadN X0.here hx rfl (hb hby at_5) rfl ?_
    show oS pP eE below s₁ (mkF mM 6 (lc76 p1 p2 k1 k2 nd fl) [(.int p2)]) _
    refine X0.ldcI hx hown (mvT hZ (ow hw 0 rfl)) (g := (mkF mM 6 (lc76 p1 p2 k1 k2 nd fl) [(.int p2)])) rfl (hb hby at_6) ?_
    show oS pP eE below s₁ (mkF mM 8 (lc76 p1 p2 k1 k2 nd fl) [(.int (2147483647 : Int32)), (.int p2)]) _
    refine XS.iand X0.here hx rfl (hb hby at_8) rfl ?_
    refine XS.iload X0.here hx rfl (hb hby at_9) rfl ?_
    refine XS.iconst X0.here hx rfl (hb hby at_11) ?_
    show oS pP eE below s₁ (mkF mM 12 (lc76 p1 p2 k1 k2 nd fl) [(.int (1 : Int32)), (.int (3 : Int32)), (.int (p2 &&& (2147483647 : Int32)))]) _
    refine XS.iadd X0.here hx rfl (hb hby at_12) rfl ?_
    show oS pP eE below s₁ (mkF mM 13 (lc76 p1 p2 k1 k2 nd fl) [(.int ((3 : Int32) + (1 : Int32))), (.int (p2 &&& (2147483647 : Int32)))]) _
    rw [(by decide : ((3 : Int32) + (1 : Int32)) = (4 : Int32))]
    show oS pP eE below s₁ (mkF mM 13 (lc76 p1 p2 k1 k2 nd fl) [(.int (4 : Int32)), (.int (p2 &&& (2147483647 : Int32)))]) _
    refine iremM X0 hx rfl (hb hby at_13) rfl (by decide) ?_
    show oS pP eE below s₁ (mkF mM 14 (lc76 p1 p2 k1 k2 nd fl) [(.int ((p2 &&& (2147483647 : Int32)) % (4 : Int32)))]) _
    rw [ht]
    refine XS.istore X0.here hx rfl (hb hby at_14) rfl (l' := (lc110 p1 p2 k1 k2 nd fl)) rfl ?_
    refine XS.iload X0.here hx rfl (hb hby at_16) rfl ?_
    refine XS.iconst X0.here hx rfl (hb hby at_18) ?_
    show oS pP eE below s₁ (mkF mM 19 (lc110 p1 p2 k1 k2 nd fl) [(.int (1 : Int32)), (.int fl)]) _
    refine XS.iand X0.here hx rfl (hb hby at_19) rfl ?_
    refine XS.ifNo X0.here hx rfl (hb hby at_20) rfl (XT.i0_eq_f hc) ?_
    refine XS.iconst X0.here hx rfl (hb hby at_23) ?_
    refine XS.goto X0.here hx rfl (pc0 := 24) (pc' := 28) rfl (hb hby at_24) (by decide) (by decide) ?_
    refine XS.istore X0.here hx rfl (hb hby at_28) rfl (l' := (lc116 p1 p2 k1 k2 nd fl)) rfl ?_
    show oS pP eE below s₁ (mkF mM 30 (lc116 p1 p2 k1 k2 nd fl) []) _
    refine st_1 _ ?_
    show oS pP eE below T_1 (mkF mM 33 (lc116 p1 p2 k1 k2 nd fl) [(.ref b_1)]) _
    refine XS.dup X_1.here hx rfl (hb hby at_33) rfl rfl ?_
    show oS pP eE below T_1 (mkF mM 34 (lc116 p1 p2 k1 k2 nd fl) [(.ref b_1), (.ref b_1)]) _
    refine st_2.trans ?_
    show oS pP eE below T_2 (mkF mM 37 (lc116 p1 p2 k1 k2 nd fl) [(.ref b_1)]) _
    refine XS.astore X_2.here hx rfl (hb hby at_37) rfl rfl (l' := (lc117 p1 p2 k1 k2 nd fl b_1)) rfl ?_
    refine XS.aload X_2.here hx rfl (hb hby at_39) rfl rfl ?_
    show oS pP eE below T_2 (mkF mM 41 (lc117 p1 p2 k1 k2 nd fl b_1) [(.ref b_1)]) _
    refine st_3.trans ?_
    show oS pP eE below T_3 (mkF mM 44 (lc117 p1 p2 k1 k2 nd fl b_1) [(.int (1 : Int32))]) _
    refine XS.istore X_3.here hx rfl (hb hby at_44) rfl (l' := (lc118 p1 p2 k1 k2 nd fl b_1)) rfl ?_
    refine XS.iload X_3.here hx rfl (hb hby at_46) rfl ?_
    refine XS.iconst X_3.here hx rfl (hb hby at_48) ?_
    refine XS.icmpNo X_3.here hx rfl (hb hby at_49) rfl (by decide) ?_
    refine XS.aload X_3.here hx rfl (hb hby at_52) rfl rfl ?_
    refine XT.lloadN X_3.here hx rfl (hb hby at_54) rfl ?_
    refine XS.iload X_3.here hx rfl (hb hby at_55) rfl ?_
    show oS pP eE below T_3 (mkF mM 57 (lc118 p1 p2 k1 k2 nd fl b_1) [(.int nd), (.long k1), (.ref b_1)]) _
    refine st_4.trans ?_
    show oS pP eE below T_4 (mkF mM 60 (lc118 p1 p2 k1 k2 nd fl b_1) []) _
    refine XS.iload X_4.here hx rfl (hb hby at_60) rfl ?_
    refine XS.iconst X_4.here hx rfl (hb hby at_62) ?_
    refine XS.icmpNo X_4.here hx rfl (hb hby at_63) rfl (by decide) ?_
    refine XS.aload X_4.here hx rfl (hb hby at_66) rfl rfl ?_
    refine XT.lload X_4.here hx rfl (hb hby at_68) rfl ?_
    refine XS.iload X_4.here hx rfl (hb hby at_70) rfl ?_
    refine XS.iconst X_4.here hx rfl (hb hby at_72) ?_
    show oS pP eE below T_4 (mkF mM 73 (lc118 p1 p2 k1 k2 nd fl b_1) [(.int (1 : Int32)), (.int nd), (.long k2), (.ref b_1)]) _
    refine XS.iadd X_4.here hx rfl (hb hby at_73) rfl ?_
    show oS pP eE below T_4 (mkF mM 74 (lc118 p1 p2 k1 k2 nd fl b_1) [(.int (nd + (1 : Int32))), (.long k2), (.ref b_1)]) _
    refine st_5.trans ?_
    show oS pP eE below T_5 (mkF mM 77 (lc118 p1 p2 k1 k2 nd fl b_1) []) _
    refine XS.iload X_5.here hx rfl (hb hby at_77) rfl ?_
    refine XS.iconst X_5.here hx rfl (hb hby at_79) ?_
    refine XS.icmpNo X_5.here hx rfl (hb hby at_80) rfl (by decide) ?_
    refine XS.aload X_5.here hx rfl (hb hby at_83) rfl rfl ?_
    refine XT.lloadN X_5.here hx rfl (hb hby at_85) rfl ?_
    refine XT.lload X_5.here hx rfl (hb hby at_86) rfl ?_
    show oS pP eE below T_5 (mkF mM 88 (lc118 p1 p2 k1 k2 nd fl b_1) [(.long k2), (.long k1), (.ref b_1)]) _
    refine XT.lxor X_5.here hx rfl (hb hby at_88) rfl ?_
    refine XS.iload X_5.here hx rfl (hb hby at_89) rfl ?_
    refine XS.iconst X_5.here hx rfl (hb hby at_91) ?_
    show oS pP eE below T_5 (mkF mM 92 (lc118 p1 p2 k1 k2 nd fl b_1) [(.int (-1 : Int32)), (.int nd), (.long (k1 ^^^ k2)), (.ref b_1)]) _
    refine XT.ixor X_5.here hx rfl (hb hby at_92) rfl ?_
    show oS pP eE below T_5 (mkF mM 93 (lc118 p1 p2 k1 k2 nd fl b_1) [(.int (nd ^^^ (-1 : Int32))), (.long (k1 ^^^ k2)), (.ref b_1)]) _
    refine st_6.trans ?_
    show oS pP eE below T_6 (mkF mM 96 (lc118 p1 p2 k1 k2 nd fl b_1) []) _
    refine XS.iload X_6.here hx rfl (hb hby at_96) rfl ?_
    refine XS.iconst X_6.here hx rfl (hb hby at_98) ?_
    refine XS.icmpNo X_6.here hx rfl (hb hby at_99) rfl (by decide) ?_
    refine XS.aload X_6.here hx rfl (hb hby at_102) rfl rfl ?_
    show oS pP eE below T_6 (mkF mM 104 (lc118 p1 p2 k1 k2 nd fl b_1) [(.ref b_1)]) _
    refine st_7.trans ?_
    show oS pP eE below T_7 (mkF mM 107 (lc118 p1 p2 k1 k2 nd fl b_1) [(.int v0__6)]) _
    refine XT.pop X_7.here hx rfl (hb hby at_107) rfl rfl ?_
    refine XS.iload X_7.here hx rfl (hb hby at_108) rfl ?_
    refine XS.iconst X_7.here hx rfl (hb hby at_110) ?_
    refine XS.icmpNo X_7.here hx rfl (hb hby at_111) rfl (by decide) ?_
    refine XS.aload X_7.here hx rfl (hb hby at_114) rfl rfl ?_
    show oS pP eE below T_7 (mkF mM 116 (lc118 p1 p2 k1 k2 nd fl b_1) [(.ref b_1)]) _
    refine st_8.trans ?_
    show oS pP eE below T_8 (mkF mM 119 (lc118 p1 p2 k1 k2 nd fl b_1) [(.int v0__7)]) _
    refine XT.pop X_8.here hx rfl (hb hby at_119) rfl rfl ?_
    refine XS.iload X_8.here hx rfl (hb hby at_120) rfl ?_
    refine XS.iconst X_8.here hx rfl (hb hby at_122) ?_
    refine XS.icmpNo X_8.here hx rfl (hb hby at_123) rfl (by decide) ?_
    refine XS.aload X_8.here hx rfl (hb hby at_126) rfl rfl ?_
    show oS pP eE below T_8 (mkF mM 128 (lc118 p1 p2 k1 k2 nd fl b_1) [(.ref b_1)]) _
    refine st_9.trans ?_
    show oS pP eE below T_9 (mkF mM 131 (lc118 p1 p2 k1 k2 nd fl b_1) [(.int v0__8)]) _
    refine XT.pop X_9.here hx rfl (hb hby at_131) rfl rfl ?_
    refine XS.iload X_9.here hx rfl (hb hby at_132) rfl ?_
    refine XS.ifNo X_9.here hx rfl (hb hby at_134) rfl (by decide) ?_
    refine XS.aload X_9.here hx rfl (hb hby at_137) rfl rfl ?_
    show oS pP eE below T_9 (mkF mM 139 (lc118 p1 p2 k1 k2 nd fl b_1) [(.ref b_1)]) _
    refine st_10.trans ?_
    show oS pP eE below T_10 (mkF mM 142 (lc118 p1 p2 k1 k2 nd fl b_1) []) _
    refine XS.iload X_10.here hx rfl (hb hby at_142) rfl ?_
    refine XS.ifYes X_10.here hx rfl (pc0 := 144) (pc' := 155) rfl (hb hby at_144) rfl (by decide) (by decide) (by decide) ?_
    refine XS.iconst X_10.here hx rfl (hb hby at_155) ?_
    refine XS.goto X_10.here hx rfl (pc0 := 156) (pc' := 160) rfl (hb hby at_156) (by decide) (by decide) ?_
    refine XS.istore X_10.here hx rfl (hb hby at_160) rfl (l' := (lc119 p1 p2 k1 k2 nd fl b_1)) rfl ?_
    show oS pP eE below T_10 (mkF mM 162 (lc119 p1 p2 k1 k2 nd fl b_1) []) _
    refine st_11 _ ?_
    show oS pP eE below T_11 (mkF mM 207 (lc120 p1 p2 k1 k2 nd fl b_1) [(.int (1 : Int32))]) _
    exact retN X_11 hx (t := .boolean) Bd.returns (by simp) (hb hby at_207) hr
  · show Q_law331 Z p1 p2 k1 k2 nd fl h0 n0 _ T_11.heap _
    exact ⟨rfl, N_11⟩
theorem own_rem1 (x : Int32) : (x &&& (2147483647 : Int32)) % (1 : Int32) = 0 := by
  have e : (x &&& (2147483647 : Int32)).toInt = x.toInt % 2 ^ 31 := Jvm.Kit.i32_mask x 2147483647 (k := 31) (by decide) (by decide)
  have r : ((x &&& (2147483647 : Int32)) % (1 : Int32)).toInt = (x &&& (2147483647 : Int32)).toInt.tmod 1 := by rw [Int32.toInt_mod]; rfl
  have h0 : 0 ≤ (x &&& (2147483647 : Int32)).toInt := by rw [e]; omega
  rw [Int.tmod_eq_emod_of_nonneg h0] at r
  simp only [← Int32.toInt_inj]
  generalize ((x &&& (2147483647 : Int32)) % (1 : Int32)).toInt = z at *
  have q : z = 0 := by omega
  rcases q with rfl <;> decide
theorem own_rem2 (x : Int32) : (x &&& (2147483647 : Int32)) % (2 : Int32) = 0 ∨ (x &&& (2147483647 : Int32)) % (2 : Int32) = 1 := by
  have e : (x &&& (2147483647 : Int32)).toInt = x.toInt % 2 ^ 31 := Jvm.Kit.i32_mask x 2147483647 (k := 31) (by decide) (by decide)
  have r : ((x &&& (2147483647 : Int32)) % (2 : Int32)).toInt = (x &&& (2147483647 : Int32)).toInt.tmod 2 := by rw [Int32.toInt_mod]; rfl
  have h0 : 0 ≤ (x &&& (2147483647 : Int32)).toInt := by rw [e]; omega
  rw [Int.tmod_eq_emod_of_nonneg h0] at r
  simp only [← Int32.toInt_inj]
  generalize ((x &&& (2147483647 : Int32)) % (2 : Int32)).toInt = z at *
  have q : z = 0 ∨ z = 1 := by omega
  rcases q with rfl | rfl <;> decide
theorem own_rem3 (x : Int32) : (x &&& (2147483647 : Int32)) % (3 : Int32) = 0 ∨ (x &&& (2147483647 : Int32)) % (3 : Int32) = 1 ∨ (x &&& (2147483647 : Int32)) % (3 : Int32) = 2 := by
  have e : (x &&& (2147483647 : Int32)).toInt = x.toInt % 2 ^ 31 := Jvm.Kit.i32_mask x 2147483647 (k := 31) (by decide) (by decide)
  have r : ((x &&& (2147483647 : Int32)) % (3 : Int32)).toInt = (x &&& (2147483647 : Int32)).toInt.tmod 3 := by rw [Int32.toInt_mod]; rfl
  have h0 : 0 ≤ (x &&& (2147483647 : Int32)).toInt := by rw [e]; omega
  rw [Int.tmod_eq_emod_of_nonneg h0] at r
  simp only [← Int32.toInt_inj]
  generalize ((x &&& (2147483647 : Int32)) % (3 : Int32)).toInt = z at *
  have q : z = 0 ∨ z = 1 ∨ z = 2 := by omega
  rcases q with rfl | rfl | rfl <;> decide
theorem own_rem4 (x : Int32) : (x &&& (2147483647 : Int32)) % (4 : Int32) = 0 ∨ (x &&& (2147483647 : Int32)) % (4 : Int32) = 1 ∨ (x &&& (2147483647 : Int32)) % (4 : Int32) = 2 ∨ (x &&& (2147483647 : Int32)) % (4 : Int32) = 3 := by
  have e : (x &&& (2147483647 : Int32)).toInt = x.toInt % 2 ^ 31 := Jvm.Kit.i32_mask x 2147483647 (k := 31) (by decide) (by decide)
  have r : ((x &&& (2147483647 : Int32)) % (4 : Int32)).toInt = (x &&& (2147483647 : Int32)).toInt.tmod 4 := by rw [Int32.toInt_mod]; rfl
  have h0 : 0 ≤ (x &&& (2147483647 : Int32)).toInt := by rw [e]; omega
  rw [Int.tmod_eq_emod_of_nonneg h0] at r
  simp only [← Int32.toInt_inj]
  generalize ((x &&& (2147483647 : Int32)) % (4 : Int32)).toInt = z at *
  have q : z = 0 ∨ z = 1 ∨ z = 2 ∨ z = 3 := by omega
  rcases q with rfl | rfl | rfl | rfl <;> decide
set_option maxRecDepth 65536 in
set_option maxHeartbeats 40000000 in
theorem comes_1 {Post : Tables → Env → Array Value → State → Outcome → State → Prop} (hpost : ∀ tb e args s v u, (limb_1_1.after args s (.returned v) u = true ∧ limb_1_2.after args s (.returned v) u = true ∧ True) → FrameEnd s (.returned v) u (Jvm.fieldLocs frame_1_writes args s ++ Jvm.arrayLocs frame_1_arrays args s ++ Jvm.staticLocs frame_1_statics s) 16 192 → Post tb e args s (.returned v) u) :
    ArmFor flags0 classFile x code maxLocals ret World_1 tables_1 room_1 Calls_1 rest_1 Pre_1 Post := by
  intro l hfl _ _ p e ha hc hk s m args below hf hA hF happ hP
  obtain ⟨hcalls, hrest, hpre⟩ := hP
  obtain ⟨-, -, -, hnamed, -, -, -, hat⟩ := (Spec.applies_iff hf).mp happ
  obtain ⟨hg, hn⟩ := and_e (Cond.before_iff.mp (show (Jvm.Cond.and given_1 narrow_1).before args s = true from hpre))
  obtain ⟨hg1, hg2⟩ := and_e hg
  obtain ⟨hg3, hg4⟩ := and_e hg2
  obtain ⟨hg5, hg6⟩ := and_e hg4
  obtain ⟨hg7, hg8⟩ := and_e hg6
  obtain ⟨hg9, hg10⟩ := and_e hg8
  obtain ⟨hg11, hg12⟩ := and_e hg10
  obtain ⟨w0, w1, w2, w3, w4, w5, rfl⟩ : ∃ w0 w1 w2 w3 w4 w5 : Value, args = #[w0, w1, w2, w3, w4, w5] := by
    have hs : args.size = 6 := by simpa [Cond.value, given_1] using hg1
    obtain ⟨L⟩ := args
    match L, hs with
    | [w0, w1, w2, w3, w4, w5], _ => exact ⟨w0, w1, w2, w3, w4, w5, rfl⟩
  obtain ⟨i0, ei0⟩ := is_v hg3
  obtain rfl : w0 = (.int i0) := Option.some.inj ei0
  obtain ⟨i1, ei1⟩ := is_v hg5
  obtain rfl : w1 = (.int i1) := Option.some.inj ei1
  obtain ⟨i2, ei2⟩ := isL_v hg7
  obtain rfl : w2 = (.long i2) := Option.some.inj ei2
  obtain ⟨i3, ei3⟩ := isL_v hg9
  obtain rfl : w3 = (.long i3) := Option.some.inj ei3
  obtain ⟨i4, ei4⟩ := is_v hg11
  obtain rfl : w4 = (.int i4) := Option.some.inj ei4
  obtain ⟨i5, ei5⟩ := is_v hg12
  obtain rfl : w5 = (.int i5) := Option.some.inj ei5
  have hw := fun d (hd : d ∈ tables_1) => atoms_spec (ws := Jvm.Cond.code x code maxLocals ret :: tables_1) hat d (List.mem_cons_of_mem _ hd)
  have hfit : Fit s := fun {y c} hc i hi => by
    obtain ⟨ha, rfl⟩ := Array.getElem?_eq_some_iff.mp hc
    have q := List.all_eq_true.mp ((Array.all_eq_true_iff_forall_mem.mp hF) _ (Array.getElem_mem ha)) i (List.mem_range.mpr hi)
    simpa [Array.getElem?_eq_getElem hi] using q
  rcases own_and3 i0 with hcn | hcn | hcn | hcn
  · have hct := own_rem1 i1
    by_cases hcf : (i5 &&& (1 : Int32)) = 0
    · obtain ⟨n, o, h1, h2, h3, _, L, rfl, ⟨rfl, N⟩, hq⟩ := rm_law000 l s _ hw tables_1 i0 i1 i2 i3 i4 i5 s.heap s.heap.size (Nat.le_refl _) hcn hct hcf p e ha hc hk s m _ below hf ((Spec.applies_iff_loose hf).mp happ).1 ⟨rfl, State.Warmed39.refl s, rfl⟩ trivial
      exact ⟨n, _, h1, h2, h3, hpost _ _ _ _ _ _ ⟨Cond.after_iff.mpr rfl, Cond.after_iff.mpr (eq_i res_at (Term.int_eval (1)) rfl), trivial⟩ ⟨hq.1, hq.2.1, (hq.2.2.sift fun y hy => Or.inr (N y hy)).mono (by decide) (by decide)⟩⟩
    · obtain ⟨n, o, h1, h2, h3, _, L, rfl, ⟨rfl, N⟩, hq⟩ := rm_law001 l s _ hw tables_1 i0 i1 i2 i3 i4 i5 s.heap s.heap.size (Nat.le_refl _) hcn hct hcf p e ha hc hk s m _ below hf ((Spec.applies_iff_loose hf).mp happ).1 ⟨rfl, State.Warmed39.refl s, rfl⟩ trivial
      exact ⟨n, _, h1, h2, h3, hpost _ _ _ _ _ _ ⟨Cond.after_iff.mpr rfl, Cond.after_iff.mpr (eq_i res_at (Term.int_eval (1)) rfl), trivial⟩ ⟨hq.1, hq.2.1, (hq.2.2.sift fun y hy => Or.inr (N y hy)).mono (by decide) (by decide)⟩⟩
  · rcases own_rem2 i1 with hct | hct
    · by_cases hcf : (i5 &&& (1 : Int32)) = 0
      · obtain ⟨n, o, h1, h2, h3, _, L, rfl, ⟨rfl, N⟩, hq⟩ := rm_law100 l s _ hw tables_1 i0 i1 i2 i3 i4 i5 s.heap s.heap.size (Nat.le_refl _) hcn hct hcf p e ha hc hk s m _ below hf ((Spec.applies_iff_loose hf).mp happ).1 ⟨rfl, State.Warmed39.refl s, rfl⟩ trivial
        exact ⟨n, _, h1, h2, h3, hpost _ _ _ _ _ _ ⟨Cond.after_iff.mpr rfl, Cond.after_iff.mpr (eq_i res_at (Term.int_eval (1)) rfl), trivial⟩ ⟨hq.1, hq.2.1, (hq.2.2.sift fun y hy => Or.inr (N y hy)).mono (by decide) (by decide)⟩⟩
      · obtain ⟨n, o, h1, h2, h3, _, L, rfl, ⟨rfl, N⟩, hq⟩ := rm_law101 l s _ hw tables_1 i0 i1 i2 i3 i4 i5 s.heap s.heap.size (Nat.le_refl _) hcn hct hcf p e ha hc hk s m _ below hf ((Spec.applies_iff_loose hf).mp happ).1 ⟨rfl, State.Warmed39.refl s, rfl⟩ trivial
        exact ⟨n, _, h1, h2, h3, hpost _ _ _ _ _ _ ⟨Cond.after_iff.mpr rfl, Cond.after_iff.mpr (eq_i res_at (Term.int_eval (1)) rfl), trivial⟩ ⟨hq.1, hq.2.1, (hq.2.2.sift fun y hy => Or.inr (N y hy)).mono (by decide) (by decide)⟩⟩
    · by_cases hcf : (i5 &&& (1 : Int32)) = 0
      · obtain ⟨n, o, h1, h2, h3, _, L, rfl, ⟨rfl, N⟩, hq⟩ := rm_law110 l s _ hw tables_1 i0 i1 i2 i3 i4 i5 s.heap s.heap.size (Nat.le_refl _) hcn hct hcf p e ha hc hk s m _ below hf ((Spec.applies_iff_loose hf).mp happ).1 ⟨rfl, State.Warmed39.refl s, rfl⟩ trivial
        exact ⟨n, _, h1, h2, h3, hpost _ _ _ _ _ _ ⟨Cond.after_iff.mpr rfl, Cond.after_iff.mpr (eq_i res_at (Term.int_eval (1)) rfl), trivial⟩ ⟨hq.1, hq.2.1, (hq.2.2.sift fun y hy => Or.inr (N y hy)).mono (by decide) (by decide)⟩⟩
      · obtain ⟨n, o, h1, h2, h3, _, L, rfl, ⟨rfl, N⟩, hq⟩ := rm_law111 l s _ hw tables_1 i0 i1 i2 i3 i4 i5 s.heap s.heap.size (Nat.le_refl _) hcn hct hcf p e ha hc hk s m _ below hf ((Spec.applies_iff_loose hf).mp happ).1 ⟨rfl, State.Warmed39.refl s, rfl⟩ trivial
        exact ⟨n, _, h1, h2, h3, hpost _ _ _ _ _ _ ⟨Cond.after_iff.mpr rfl, Cond.after_iff.mpr (eq_i res_at (Term.int_eval (1)) rfl), trivial⟩ ⟨hq.1, hq.2.1, (hq.2.2.sift fun y hy => Or.inr (N y hy)).mono (by decide) (by decide)⟩⟩
  · rcases own_rem3 i1 with hct | hct | hct
    · by_cases hcf : (i5 &&& (1 : Int32)) = 0
      · obtain ⟨n, o, h1, h2, h3, _, L, rfl, ⟨rfl, N⟩, hq⟩ := rm_law200 l s _ hw tables_1 i0 i1 i2 i3 i4 i5 s.heap s.heap.size (Nat.le_refl _) hcn hct hcf p e ha hc hk s m _ below hf ((Spec.applies_iff_loose hf).mp happ).1 ⟨rfl, State.Warmed39.refl s, rfl⟩ trivial
        exact ⟨n, _, h1, h2, h3, hpost _ _ _ _ _ _ ⟨Cond.after_iff.mpr rfl, Cond.after_iff.mpr (eq_i res_at (Term.int_eval (1)) rfl), trivial⟩ ⟨hq.1, hq.2.1, (hq.2.2.sift fun y hy => Or.inr (N y hy)).mono (by decide) (by decide)⟩⟩
      · obtain ⟨n, o, h1, h2, h3, _, L, rfl, ⟨rfl, N⟩, hq⟩ := rm_law201 l s _ hw tables_1 i0 i1 i2 i3 i4 i5 s.heap s.heap.size (Nat.le_refl _) hcn hct hcf p e ha hc hk s m _ below hf ((Spec.applies_iff_loose hf).mp happ).1 ⟨rfl, State.Warmed39.refl s, rfl⟩ trivial
        exact ⟨n, _, h1, h2, h3, hpost _ _ _ _ _ _ ⟨Cond.after_iff.mpr rfl, Cond.after_iff.mpr (eq_i res_at (Term.int_eval (1)) rfl), trivial⟩ ⟨hq.1, hq.2.1, (hq.2.2.sift fun y hy => Or.inr (N y hy)).mono (by decide) (by decide)⟩⟩
    · by_cases hcf : (i5 &&& (1 : Int32)) = 0
      · obtain ⟨n, o, h1, h2, h3, _, L, rfl, ⟨rfl, N⟩, hq⟩ := rm_law210 l s _ hw tables_1 i0 i1 i2 i3 i4 i5 s.heap s.heap.size (Nat.le_refl _) hcn hct hcf p e ha hc hk s m _ below hf ((Spec.applies_iff_loose hf).mp happ).1 ⟨rfl, State.Warmed39.refl s, rfl⟩ trivial
        exact ⟨n, _, h1, h2, h3, hpost _ _ _ _ _ _ ⟨Cond.after_iff.mpr rfl, Cond.after_iff.mpr (eq_i res_at (Term.int_eval (1)) rfl), trivial⟩ ⟨hq.1, hq.2.1, (hq.2.2.sift fun y hy => Or.inr (N y hy)).mono (by decide) (by decide)⟩⟩
      · obtain ⟨n, o, h1, h2, h3, _, L, rfl, ⟨rfl, N⟩, hq⟩ := rm_law211 l s _ hw tables_1 i0 i1 i2 i3 i4 i5 s.heap s.heap.size (Nat.le_refl _) hcn hct hcf p e ha hc hk s m _ below hf ((Spec.applies_iff_loose hf).mp happ).1 ⟨rfl, State.Warmed39.refl s, rfl⟩ trivial
        exact ⟨n, _, h1, h2, h3, hpost _ _ _ _ _ _ ⟨Cond.after_iff.mpr rfl, Cond.after_iff.mpr (eq_i res_at (Term.int_eval (1)) rfl), trivial⟩ ⟨hq.1, hq.2.1, (hq.2.2.sift fun y hy => Or.inr (N y hy)).mono (by decide) (by decide)⟩⟩
    · by_cases hcf : (i5 &&& (1 : Int32)) = 0
      · obtain ⟨n, o, h1, h2, h3, _, L, rfl, ⟨rfl, N⟩, hq⟩ := rm_law220 l s _ hw tables_1 i0 i1 i2 i3 i4 i5 s.heap s.heap.size (Nat.le_refl _) hcn hct hcf p e ha hc hk s m _ below hf ((Spec.applies_iff_loose hf).mp happ).1 ⟨rfl, State.Warmed39.refl s, rfl⟩ trivial
        exact ⟨n, _, h1, h2, h3, hpost _ _ _ _ _ _ ⟨Cond.after_iff.mpr rfl, Cond.after_iff.mpr (eq_i res_at (Term.int_eval (1)) rfl), trivial⟩ ⟨hq.1, hq.2.1, (hq.2.2.sift fun y hy => Or.inr (N y hy)).mono (by decide) (by decide)⟩⟩
      · obtain ⟨n, o, h1, h2, h3, _, L, rfl, ⟨rfl, N⟩, hq⟩ := rm_law221 l s _ hw tables_1 i0 i1 i2 i3 i4 i5 s.heap s.heap.size (Nat.le_refl _) hcn hct hcf p e ha hc hk s m _ below hf ((Spec.applies_iff_loose hf).mp happ).1 ⟨rfl, State.Warmed39.refl s, rfl⟩ trivial
        exact ⟨n, _, h1, h2, h3, hpost _ _ _ _ _ _ ⟨Cond.after_iff.mpr rfl, Cond.after_iff.mpr (eq_i res_at (Term.int_eval (1)) rfl), trivial⟩ ⟨hq.1, hq.2.1, (hq.2.2.sift fun y hy => Or.inr (N y hy)).mono (by decide) (by decide)⟩⟩
  · rcases own_rem4 i1 with hct | hct | hct | hct
    · by_cases hcf : (i5 &&& (1 : Int32)) = 0
      · obtain ⟨n, o, h1, h2, h3, _, L, rfl, ⟨rfl, N⟩, hq⟩ := rm_law300 l s _ hw tables_1 i0 i1 i2 i3 i4 i5 s.heap s.heap.size (Nat.le_refl _) hcn hct hcf p e ha hc hk s m _ below hf ((Spec.applies_iff_loose hf).mp happ).1 ⟨rfl, State.Warmed39.refl s, rfl⟩ trivial
        exact ⟨n, _, h1, h2, h3, hpost _ _ _ _ _ _ ⟨Cond.after_iff.mpr rfl, Cond.after_iff.mpr (eq_i res_at (Term.int_eval (1)) rfl), trivial⟩ ⟨hq.1, hq.2.1, (hq.2.2.sift fun y hy => Or.inr (N y hy)).mono (by decide) (by decide)⟩⟩
      · obtain ⟨n, o, h1, h2, h3, _, L, rfl, ⟨rfl, N⟩, hq⟩ := rm_law301 l s _ hw tables_1 i0 i1 i2 i3 i4 i5 s.heap s.heap.size (Nat.le_refl _) hcn hct hcf p e ha hc hk s m _ below hf ((Spec.applies_iff_loose hf).mp happ).1 ⟨rfl, State.Warmed39.refl s, rfl⟩ trivial
        exact ⟨n, _, h1, h2, h3, hpost _ _ _ _ _ _ ⟨Cond.after_iff.mpr rfl, Cond.after_iff.mpr (eq_i res_at (Term.int_eval (1)) rfl), trivial⟩ ⟨hq.1, hq.2.1, (hq.2.2.sift fun y hy => Or.inr (N y hy)).mono (by decide) (by decide)⟩⟩
    · by_cases hcf : (i5 &&& (1 : Int32)) = 0
      · obtain ⟨n, o, h1, h2, h3, _, L, rfl, ⟨rfl, N⟩, hq⟩ := rm_law310 l s _ hw tables_1 i0 i1 i2 i3 i4 i5 s.heap s.heap.size (Nat.le_refl _) hcn hct hcf p e ha hc hk s m _ below hf ((Spec.applies_iff_loose hf).mp happ).1 ⟨rfl, State.Warmed39.refl s, rfl⟩ trivial
        exact ⟨n, _, h1, h2, h3, hpost _ _ _ _ _ _ ⟨Cond.after_iff.mpr rfl, Cond.after_iff.mpr (eq_i res_at (Term.int_eval (1)) rfl), trivial⟩ ⟨hq.1, hq.2.1, (hq.2.2.sift fun y hy => Or.inr (N y hy)).mono (by decide) (by decide)⟩⟩
      · obtain ⟨n, o, h1, h2, h3, _, L, rfl, ⟨rfl, N⟩, hq⟩ := rm_law311 l s _ hw tables_1 i0 i1 i2 i3 i4 i5 s.heap s.heap.size (Nat.le_refl _) hcn hct hcf p e ha hc hk s m _ below hf ((Spec.applies_iff_loose hf).mp happ).1 ⟨rfl, State.Warmed39.refl s, rfl⟩ trivial
        exact ⟨n, _, h1, h2, h3, hpost _ _ _ _ _ _ ⟨Cond.after_iff.mpr rfl, Cond.after_iff.mpr (eq_i res_at (Term.int_eval (1)) rfl), trivial⟩ ⟨hq.1, hq.2.1, (hq.2.2.sift fun y hy => Or.inr (N y hy)).mono (by decide) (by decide)⟩⟩
    · by_cases hcf : (i5 &&& (1 : Int32)) = 0
      · obtain ⟨n, o, h1, h2, h3, _, L, rfl, ⟨rfl, N⟩, hq⟩ := rm_law320 l s _ hw tables_1 i0 i1 i2 i3 i4 i5 s.heap s.heap.size (Nat.le_refl _) hcn hct hcf p e ha hc hk s m _ below hf ((Spec.applies_iff_loose hf).mp happ).1 ⟨rfl, State.Warmed39.refl s, rfl⟩ trivial
        exact ⟨n, _, h1, h2, h3, hpost _ _ _ _ _ _ ⟨Cond.after_iff.mpr rfl, Cond.after_iff.mpr (eq_i res_at (Term.int_eval (1)) rfl), trivial⟩ ⟨hq.1, hq.2.1, (hq.2.2.sift fun y hy => Or.inr (N y hy)).mono (by decide) (by decide)⟩⟩
      · obtain ⟨n, o, h1, h2, h3, _, L, rfl, ⟨rfl, N⟩, hq⟩ := rm_law321 l s _ hw tables_1 i0 i1 i2 i3 i4 i5 s.heap s.heap.size (Nat.le_refl _) hcn hct hcf p e ha hc hk s m _ below hf ((Spec.applies_iff_loose hf).mp happ).1 ⟨rfl, State.Warmed39.refl s, rfl⟩ trivial
        exact ⟨n, _, h1, h2, h3, hpost _ _ _ _ _ _ ⟨Cond.after_iff.mpr rfl, Cond.after_iff.mpr (eq_i res_at (Term.int_eval (1)) rfl), trivial⟩ ⟨hq.1, hq.2.1, (hq.2.2.sift fun y hy => Or.inr (N y hy)).mono (by decide) (by decide)⟩⟩
    · by_cases hcf : (i5 &&& (1 : Int32)) = 0
      · obtain ⟨n, o, h1, h2, h3, _, L, rfl, ⟨rfl, N⟩, hq⟩ := rm_law330 l s _ hw tables_1 i0 i1 i2 i3 i4 i5 s.heap s.heap.size (Nat.le_refl _) hcn hct hcf p e ha hc hk s m _ below hf ((Spec.applies_iff_loose hf).mp happ).1 ⟨rfl, State.Warmed39.refl s, rfl⟩ trivial
        exact ⟨n, _, h1, h2, h3, hpost _ _ _ _ _ _ ⟨Cond.after_iff.mpr rfl, Cond.after_iff.mpr (eq_i res_at (Term.int_eval (1)) rfl), trivial⟩ ⟨hq.1, hq.2.1, (hq.2.2.sift fun y hy => Or.inr (N y hy)).mono (by decide) (by decide)⟩⟩
      · obtain ⟨n, o, h1, h2, h3, _, L, rfl, ⟨rfl, N⟩, hq⟩ := rm_law331 l s _ hw tables_1 i0 i1 i2 i3 i4 i5 s.heap s.heap.size (Nat.le_refl _) hcn hct hcf p e ha hc hk s m _ below hf ((Spec.applies_iff_loose hf).mp happ).1 ⟨rfl, State.Warmed39.refl s, rfl⟩ trivial
        exact ⟨n, _, h1, h2, h3, hpost _ _ _ _ _ _ ⟨Cond.after_iff.mpr rfl, Cond.after_iff.mpr (eq_i res_at (Term.int_eval (1)) rfl), trivial⟩ ⟨hq.1, hq.2.1, (hq.2.2.sift fun y hy => Or.inr (N y hy)).mono (by decide) (by decide)⟩⟩
theorem main_1_1 : Claimed_1_1 := comes_1 fun _ _ _ _ _ _ h hF => ⟨h.1, hF⟩
theorem main_1_2 : Claimed_1_2 := comes_1 fun _ _ _ _ _ _ h hF => ⟨h.2.1, hF⟩
end Jvm.Pilot.@@N@@
namespace Jvm.Pilot.@@N@@
open Jvm Jvm.ClassFile Sem Op Lib Jvm.Free Jvm.Stand Jvm.Pilot.@@N@@.Jvm.D
/-! MADE BY PROGRAM (witnessworld.py) out of the Statement's table words and the real class files: 11 classes; the members and pool entries that the words name. The judged class is class 1, her method 1. -/
namespace start1
open Jvm.ClassFile
def u (s : String) : CpInfo := .utf8 (stringToUtf16 s)
/-- a pool by its gaps: so many unusable entries, then the entry; so many at the end -/
def gap : Nat → List CpInfo → List CpInfo
  | 0, r => r
  | n + 1, r => .unusable :: gap n r
def poolList (es : List (Nat × CpInfo)) (last : Nat) : List CpInfo := es.foldr (fun e r => gap e.1 (e.2 :: r)) (gap last [])
def pool (es : List (Nat × CpInfo)) (last : Nat) : Array CpInfo := ⟨poolList es last⟩
def fileOf (pool : Array CpInfo) (this : Nat) (attrs : Array Attribute := #[]) (ms : Array MethodInfo := #[]) (fl : Nat := 33) (sup : Nat := 0) (ifs : Array Nat := #[]) (fds : Array FieldInfo := #[]) : ClassFile where
  minorVersion := 0
  majorVersion := 65
  constantPool := pool
  accessFlags := fl
  thisClass := this
  superClass := sup
  interfaces := ifs
  fields := fds
  methods := ms
  attributes := attrs
def plain (name : String) (sup : Option ClassId) : Class where
  name := name
  kind := .ordinary
  loader := none
  accessFlags := 33
  super := sup
  interfaces := #[]
  cf := none
  fields := #[]
  methods := #[]
  instanceTypes := #[]
  staticTypes := #[]
  resolved := #[]
  callSites := []
  init := .initialized
  statics := none
  mirror := none

def pool0 : Array CpInfo := pool [(5, u "<init>"), (0, u "()V"), (1, .class_ 10), (1, u "java/lang/Object")] 113

def k0c0 : Code := { maxStack := 0, maxLocals := 1, code := object_method_1_code, exceptionTable := #[], attributes := #[] }
def k0m0 : Method := { name := "<init>", desc := "()V", sig := { parameters := [], returnType := none }, accessFlags := 1, code := some k0c0 }
/-- java/lang/Object -/
def k0 : Class := { plain "java/lang/Object" none with
  accessFlags := 33
  interfaces := #[]
  cf := some (fileOf pool0 8 #[] #[{ accessFlags := 1, nameIndex := 5, descriptorIndex := 6, attributes := #[] }] 33 0 #[] #[])
  fields := #[]
  methods := #[k0m0]
  instanceTypes := #[]
  staticTypes := #[]
  resolved := Array.replicate 124 none
  statics := none }

def pool1 : Array CpInfo := pool [(2, .class_ 4), (0, .nameAndType 5 6), (0, u "java/lang/Object"), (0, u "<init>"), (0, u "()V"), (0, .integer 2147483647), (0, .class_ 9), (0, u "com/example/greenweft/greenweft/steiner/NodeHeap"), (0, .methodref 8 3), (0, .methodref 8 12), (0, .nameAndType 13 14), (0, u "isEmpty"), (0, u "()Z"), (0, .methodref 8 16), (0, .nameAndType 17 18), (0, u "add"), (0, u "(JI)V"), (0, .methodref 8 20), (0, .nameAndType 21 22), (0, u "takeLowest"), (0, u "()I"), (0, .methodref 8 24), (0, .nameAndType 25 6), (0, u "clear"), (0, .class_ 27), (0, u "com/example/greenweft/greenweft/steiner/NodeHeapIsEmptyPinLaw"), (2, u "law"), (0, u "(IIJJII)Z")] 3

def k1m0 : Method := { name := "<init>", desc := "()V", sig := { parameters := [], returnType := none }, accessFlags := 1, code := none }
def k1c1 : Code := { maxStack := 5, maxLocals := 16, code := code, exceptionTable := #[], attributes := #[] }
def k1m1 : Method := { name := "law", desc := "(IIJJII)Z", sig := { parameters := [.int, .int, .long, .long, .int, .int], returnType := some .boolean }, accessFlags := 9, code := some k1c1 }
/-- com/example/greenweft/greenweft/steiner/NodeHeapIsEmptyPinLaw -/
def k1 : Class := { plain "com/example/greenweft/greenweft/steiner/NodeHeapIsEmptyPinLaw" (some 0) with
  accessFlags := 49
  interfaces := #[]
  cf := some (fileOf pool1 26 #[] #[{ accessFlags := 1, nameIndex := 5, descriptorIndex := 6, attributes := #[] }, { accessFlags := 9, nameIndex := 30, descriptorIndex := 31, attributes := #[] }] 49 2 #[] #[])
  fields := #[]
  methods := #[k1m0, k1m1]
  instanceTypes := #[]
  staticTypes := #[]
  resolved := Array.replicate 35 none
  statics := none }

def pool2 : Array CpInfo := pool [(1, .methodref 2 3), (0, .class_ 4), (0, .nameAndType 5 6), (0, u "java/lang/Object"), (0, u "<init>"), (0, u "()V"), (0, .fieldref 8 9), (0, .class_ 10), (0, .nameAndType 11 12), (0, u "com/example/greenweft/greenweft/steiner/NodeHeap"), (0, u "keys"), (0, u "[J"), (0, .fieldref 8 14), (0, .nameAndType 15 16), (0, u "nodes"), (0, u "[I"), (0, .fieldref 8 18), (0, .nameAndType 19 20), (0, u "size"), (0, u "I"), (9, .methodref 8 31), (0, .nameAndType 32 33), (0, u "precedes"), (0, u "(JIJI)Z"), (2, u "isEmpty"), (0, u "()Z"), (1, u "clear"), (0, u "add"), (0, u "(JI)V"), (2, u "takeLowest"), (0, u "()I")] 2

def k2c0 : Code := { maxStack := 2, maxLocals := 1, code := prog_33_method_1_code, exceptionTable := #[], attributes := #[] }
def k2m0 : Method := { name := "<init>", desc := "()V", sig := { parameters := [], returnType := none }, accessFlags := 0, code := some k2c0 }
def k2c1 : Code := { maxStack := 1, maxLocals := 1, code := prog_33_method_2_code, exceptionTable := #[], attributes := #[] }
def k2m1 : Method := { name := "isEmpty", desc := "()Z", sig := { parameters := [], returnType := some .boolean }, accessFlags := 0, code := some k2c1 }
def k2c2 : Code := { maxStack := 2, maxLocals := 1, code := prog_33_method_3_code, exceptionTable := #[], attributes := #[] }
def k2m2 : Method := { name := "clear", desc := "()V", sig := { parameters := [], returnType := none }, accessFlags := 0, code := some k2c2 }
def k2c3 : Code := { maxStack := 7, maxLocals := 6, code := prog_33_method_4_code, exceptionTable := #[], attributes := #[] }
def k2m3 : Method := { name := "add", desc := "(JI)V", sig := { parameters := [.long, .int], returnType := none }, accessFlags := 0, code := some k2c3 }
def k2c4 : Code := { maxStack := 7, maxLocals := 7, code := prog_33_method_6_code, exceptionTable := #[], attributes := #[] }
def k2m4 : Method := { name := "takeLowest", desc := "()I", sig := { parameters := [], returnType := some .int }, accessFlags := 0, code := some k2c4 }
def k2c5 : Code := { maxStack := 4, maxLocals := 6, code := prog_33_method_7_code, exceptionTable := #[], attributes := #[] }
def k2m5 : Method := { name := "precedes", desc := "(JIJI)Z", sig := { parameters := [.long, .int, .long, .int], returnType := some .boolean }, accessFlags := 10, code := some k2c5 }
/-- com/example/greenweft/greenweft/steiner/NodeHeap -/
def k2 : Class := { plain "com/example/greenweft/greenweft/steiner/NodeHeap" (some 0) with
  accessFlags := 48
  interfaces := #[]
  cf := some (fileOf pool2 8 #[] #[{ accessFlags := 0, nameIndex := 5, descriptorIndex := 6, attributes := #[] }, { accessFlags := 0, nameIndex := 36, descriptorIndex := 37, attributes := #[] }, { accessFlags := 0, nameIndex := 39, descriptorIndex := 6, attributes := #[] }, { accessFlags := 0, nameIndex := 40, descriptorIndex := 41, attributes := #[] }, { accessFlags := 0, nameIndex := 44, descriptorIndex := 45, attributes := #[] }, { accessFlags := 10, nameIndex := 32, descriptorIndex := 33, attributes := #[] }] 48 2 #[] #[{ accessFlags := 2, nameIndex := 11, descriptorIndex := 12, attributes := #[] }, { accessFlags := 2, nameIndex := 15, descriptorIndex := 16, attributes := #[] }, { accessFlags := 2, nameIndex := 19, descriptorIndex := 20, attributes := #[] }])
  fields := #[{ name := "keys", type := (.array .long), accessFlags := 2, slot := 0, constantValue := 0 }, { name := "nodes", type := (.array .int), accessFlags := 2, slot := 1, constantValue := 0 }, { name := "size", type := .int, accessFlags := 2, slot := 2, constantValue := 0 }]
  methods := #[k2m0, k2m1, k2m2, k2m3, k2m4, k2m5]
  instanceTypes := #[(.array .long), (.array .int), .int]
  staticTypes := #[]
  resolved := Array.replicate 48 none
  statics := none }

def pool3 : Array CpInfo := pool [(1, u "java/lang/Cloneable"), (0, .class_ 1), (0, u "java/lang/Object"), (0, .class_ 3)] 3

/-- java/lang/Cloneable -/
def k3 : Class := { plain "java/lang/Cloneable" (some 0) with
  accessFlags := 1537
  interfaces := #[]
  cf := some (fileOf pool3 2 #[] #[] 1537 4 #[] #[])
  fields := #[]
  methods := #[]
  instanceTypes := #[]
  staticTypes := #[]
  resolved := Array.replicate 8 none
  statics := none }

def pool4 : Array CpInfo := pool [(1, u "java/io/Serializable"), (0, .class_ 1), (0, u "java/lang/Object"), (0, .class_ 3)] 3

/-- java/io/Serializable -/
def k4 : Class := { plain "java/io/Serializable" (some 0) with
  accessFlags := 1537
  interfaces := #[]
  cf := some (fileOf pool4 2 #[] #[] 1537 4 #[] #[])
  fields := #[]
  methods := #[]
  instanceTypes := #[]
  staticTypes := #[]
  resolved := Array.replicate 8 none
  statics := none }

/-- the primitive byte -/
def k5 : Class := { plain "byte" none with kind := .primitive 'B', accessFlags := 0x411 }
/-- [B -/
def k6 : Class := { plain "[B" (some 0) with kind := .array 5 .byte, interfaces := #[3, 4], accessFlags := 1041 }

/-- the primitive int -/
def k7 : Class := { plain "int" none with kind := .primitive 'I', accessFlags := 0x411 }
/-- [I -/
def k8 : Class := { plain "[I" (some 0) with kind := .array 7 .int, interfaces := #[3, 4], accessFlags := 1041 }

/-- the primitive long -/
def k9 : Class := { plain "long" none with kind := .primitive 'J', accessFlags := 0x411 }
/-- [J -/
def k10 : Class := { plain "[J" (some 0) with kind := .array 9 .long, interfaces := #[3, 4], accessFlags := 1041 }

def heap : Heap := #[]
def classes : Array Class := #[k0, k1, k2, k3, k4, k5, k6, k7, k8, k9, k10]
def interned : List (Array UInt16 × Addr) := []
def slotsUsed : Nat := 0
def theMethod : MethodId := ⟨1, 1⟩
def args0 : Array Value := #[.int 2, .int 1, .long 3, .long 4, .int 5, .int 0]
def aboutOver (below : List Frame) : State where
  vm := { classes := classes, interned := interned.toArray }
  heap := heap
  slotsUsed := slotsUsed
  threads := #[{ frames := .invoking theMethod args0 :: below }]
def below0 : List Frame := [.native { method := ⟨0, 0⟩, args := #[] }]
def about1 : State := aboutOver below0
def p0 : Program := .bare "" "" ""
def e0 : Env := launch0.env 0 0 0
theorem w_frames : about1.frames = Frame.invoking theMethod args0 :: below0 := rfl
set_option maxRecDepth 65536 in
theorem w_args : argsFit about1.vm theMethod args0 = true := by decide +kernel
set_option maxRecDepth 65536 in
theorem w_heap : heapFits about1 = true := by decide +kernel
set_option maxRecDepth 65536 in
theorem w_runnable : about1.curStatus? = some .runnable := by decide +kernel
set_option maxRecDepth 65536 in
theorem w_alone : about1.alone = true := by decide +kernel
set_option maxRecDepth 65536 in
theorem w_named : about1.methodNamed? x = some theMethod := by decide +kernel
set_option maxRecDepth 65536 in
theorem w_hears : about1.hears theMethod below0 = true := by decide +kernel
set_option maxRecDepth 65536 in
theorem w_ripe : about1.ripe theMethod args0 below0 = true := by decide +kernel
theorem w_running : about1.status = .running := rfl
set_option maxRecDepth 65536 in
theorem w_room : about1.hasRoom e0.platform room_1 = true :=
  launch0.hasRoom_least _ room_1 (by decide +kernel) (by decide +kernel) (by decide +kernel) (by decide +kernel) (by decide +kernel) (by decide +kernel)
theorem allAtoms_all (ts : List Jvm.Cond) (a : Array Jvm.Value) (st : Jvm.State) : (allAtoms ts).before a st = ts.all (fun c => c.before a st) := by
  induction ts with
  | nil => rfl
  | cons c t ih =>
    show (Jvm.Cond.and c (allAtoms t)).before a st = _
    rw [Jvm.Cond.before_and, ih, List.all_cons]
def words1 : List Jvm.Cond := Jvm.Cond.code x code maxLocals ret :: tables_1
/-- a 'code' word, met by the world's own term for the bytes: nothing is compared byte by byte -/
theorem code_word {y : MethodName} {bytes : ByteArray} {mx : Nat} {rt : Option FieldType} {a : Array Value} {s : State} {m : MethodId} {meth : Method} {c : Code} (h1 : s.methodNamed? y = some m) (h2 : s.vm.method? m = some meth) (h3 : meth.code = some c) (h4 : c.code = bytes)
    (h5 : (c.maxLocals == mx && c.exceptionTable.isEmpty && decide (c.maxStack ≤ mostOperands) && decide (meth.sig.returnType = rt) && !meth.locks && decide (parseMethodDescriptor y.desc = some meth.sig)) = true) : (Jvm.Cond.code y bytes mx rt).before a s = true := by
  simp only [Bool.and_eq_true, beq_iff_eq, Bool.not_eq_true', decide_eq_true_eq] at h5
  obtain ⟨⟨⟨⟨⟨g1, g2⟩, g3⟩, g4⟩, g5⟩, g6⟩ := h5
  simp [Cond.before, Cond.holds, Cond.value, h1, h2, h3, h4, g1, g2, g3, g4, g5, g6]
def isCode : Jvm.Cond → Bool
  | .code _ _ _ _ => true
  | _ => false
theorem all_split {L : List Jvm.Cond} {P : Jvm.Cond → Bool} (h1 : L.all (fun c => isCode c || P c) = true) (h2 : ∀ c ∈ L.filter isCode, P c = true) : L.all P = true := by
  refine List.all_eq_true.mpr fun c hc => ?_
  have h := List.all_eq_true.mp h1 c hc
  rcases Bool.eq_false_or_eq_true (isCode c) with hi | hi
  · exact h2 c (List.mem_filter.mpr ⟨hc, hi⟩)
  · simpa [hi] using h
set_option maxRecDepth 65536 in
theorem w_c0 : (Jvm.Cond.code x code maxLocals ret).before args0 about1 = true := code_word (m := ⟨1, 1⟩) (meth := k1m1) (c := k1c1) (by decide +kernel) rfl rfl rfl (by decide +kernel)
set_option maxRecDepth 65536 in
theorem w_c1 : (Jvm.Cond.code ({ cls := "com/example/greenweft/greenweft/steiner/NodeHeap", name := "<init>", desc := "()V" } : Jvm.MethodName) prog_33_method_1_code (1 : Nat) (Option.none : Option Jvm.ClassFile.FieldType)).before args0 about1 = true := code_word (m := ⟨2, 0⟩) (meth := k2m0) (c := k2c0) (by decide +kernel) rfl rfl rfl (by decide +kernel)
set_option maxRecDepth 65536 in
theorem w_c2 : (Jvm.Cond.code ({ cls := "java/lang/Object", name := "<init>", desc := "()V" } : Jvm.MethodName) object_method_1_code (1 : Nat) (Option.none : Option Jvm.ClassFile.FieldType)).before args0 about1 = true := code_word (m := ⟨0, 0⟩) (meth := k0m0) (c := k0c0) (by decide +kernel) rfl rfl rfl (by decide +kernel)
set_option maxRecDepth 65536 in
theorem w_c3 : (Jvm.Cond.code ({ cls := "com/example/greenweft/greenweft/steiner/NodeHeap", name := "isEmpty", desc := "()Z" } : Jvm.MethodName) prog_33_method_2_code (1 : Nat) (Option.some Jvm.ClassFile.FieldType.boolean)).before args0 about1 = true := code_word (m := ⟨2, 1⟩) (meth := k2m1) (c := k2c1) (by decide +kernel) rfl rfl rfl (by decide +kernel)
set_option maxRecDepth 65536 in
theorem w_c4 : (Jvm.Cond.code ({ cls := "com/example/greenweft/greenweft/steiner/NodeHeap", name := "clear", desc := "()V" } : Jvm.MethodName) prog_33_method_3_code (1 : Nat) (Option.none : Option Jvm.ClassFile.FieldType)).before args0 about1 = true := code_word (m := ⟨2, 2⟩) (meth := k2m2) (c := k2c2) (by decide +kernel) rfl rfl rfl (by decide +kernel)
set_option maxRecDepth 65536 in
theorem w_c5 : (Jvm.Cond.code ({ cls := "com/example/greenweft/greenweft/steiner/NodeHeap", name := "add", desc := "(JI)V" } : Jvm.MethodName) prog_33_method_4_code (6 : Nat) (Option.none : Option Jvm.ClassFile.FieldType)).before args0 about1 = true := code_word (m := ⟨2, 3⟩) (meth := k2m3) (c := k2c3) (by decide +kernel) rfl rfl rfl (by decide +kernel)
set_option maxRecDepth 65536 in
theorem w_c6 : (Jvm.Cond.code ({ cls := "com/example/greenweft/greenweft/steiner/NodeHeap", name := "precedes", desc := "(JIJI)Z" } : Jvm.MethodName) prog_33_method_7_code (6 : Nat) (Option.some Jvm.ClassFile.FieldType.boolean)).before args0 about1 = true := code_word (m := ⟨2, 5⟩) (meth := k2m5) (c := k2c5) (by decide +kernel) rfl rfl rfl (by decide +kernel)
set_option maxRecDepth 65536 in
theorem w_c7 : (Jvm.Cond.code ({ cls := "com/example/greenweft/greenweft/steiner/NodeHeap", name := "takeLowest", desc := "()I" } : Jvm.MethodName) prog_33_method_6_code (7 : Nat) (Option.some Jvm.ClassFile.FieldType.int)).before args0 about1 = true := code_word (m := ⟨2, 4⟩) (meth := k2m4) (c := k2c4) (by decide +kernel) rfl rfl rfl (by decide +kernel)
def codes1 : List Jvm.Cond := [Jvm.Cond.code x code maxLocals ret, Jvm.Cond.code ({ cls := "com/example/greenweft/greenweft/steiner/NodeHeap", name := "<init>", desc := "()V" } : Jvm.MethodName) prog_33_method_1_code (1 : Nat) (Option.none : Option Jvm.ClassFile.FieldType), Jvm.Cond.code ({ cls := "java/lang/Object", name := "<init>", desc := "()V" } : Jvm.MethodName) object_method_1_code (1 : Nat) (Option.none : Option Jvm.ClassFile.FieldType), Jvm.Cond.code ({ cls := "com/example/greenweft/greenweft/steiner/NodeHeap", name := "isEmpty", desc := "()Z" } : Jvm.MethodName) prog_33_method_2_code (1 : Nat) (Option.some Jvm.ClassFile.FieldType.boolean), Jvm.Cond.code ({ cls := "com/example/greenweft/greenweft/steiner/NodeHeap", name := "clear", desc := "()V" } : Jvm.MethodName) prog_33_method_3_code (1 : Nat) (Option.none : Option Jvm.ClassFile.FieldType), Jvm.Cond.code ({ cls := "com/example/greenweft/greenweft/steiner/NodeHeap", name := "add", desc := "(JI)V" } : Jvm.MethodName) prog_33_method_4_code (6 : Nat) (Option.none : Option Jvm.ClassFile.FieldType), Jvm.Cond.code ({ cls := "com/example/greenweft/greenweft/steiner/NodeHeap", name := "precedes", desc := "(JIJI)Z" } : Jvm.MethodName) prog_33_method_7_code (6 : Nat) (Option.some Jvm.ClassFile.FieldType.boolean), Jvm.Cond.code ({ cls := "com/example/greenweft/greenweft/steiner/NodeHeap", name := "takeLowest", desc := "()I" } : Jvm.MethodName) prog_33_method_6_code (7 : Nat) (Option.some Jvm.ClassFile.FieldType.int)]
set_option maxRecDepth 65536 in
theorem codes_eq : words1.filter isCode = codes1 := rfl
theorem w_codes : ∀ c ∈ words1.filter isCode, c.before args0 about1 = true := by
  rw [codes_eq]
  intro c hc
  simp only [codes1, List.mem_cons, List.not_mem_nil, or_false] at hc
  rcases hc with rfl | rfl | rfl | rfl | rfl | rfl | rfl | rfl
  · exact w_c0
  · exact w_c1
  · exact w_c2
  · exact w_c3
  · exact w_c4
  · exact w_c5
  · exact w_c6
  · exact w_c7
set_option maxRecDepth 65536 in
theorem w_t1 : (words1.take 24).all (fun c => isCode c || c.before args0 about1) = true := by decide +kernel
set_option maxRecDepth 65536 in
theorem w_t2 : (words1.drop 24).all (fun c => isCode c || c.before args0 about1) = true := by decide +kernel
theorem w_tables : (allAtoms (Jvm.Cond.code x code maxLocals ret :: tables_1)).before args0 about1 = true := by
  rw [allAtoms_all]
  show words1.all (fun c => c.before args0 about1) = true
  refine all_split ?_ w_codes
  rw [← List.take_append_drop 24 words1, List.all_append, w_t1, w_t2]
  rfl
set_option maxRecDepth 65536 in
theorem w_case : (Jvm.Cond.and given_1 narrow_1).before args0 about1 = true := by decide +kernel
theorem w_applies : (headSpec (Jvm.Cond.code x code maxLocals ret :: tables_1) room_1).applies x e0.platform about1 = true :=
  (Spec.applies_iff w_frames).mpr ⟨w_running, w_runnable, w_alone, w_named, w_hears, w_ripe, w_room, w_tables⟩
theorem atStart : AtStart classFile x code maxLocals ret World_1 tables_1 room_1 Calls_1 rest_1 Pre_1 launch0 p0 e0 about1 theMethod args0 below0 :=
  ⟨lists_1, trivial, launch0.admits_env _ _ _, launch0.least_env, fairChoices_fair.cas, fairChoices_fair.clock, w_frames, w_args, w_heap, w_applies, trivial, trivial, w_case⟩
end start1
theorem witness_1 : WitnessClaimed_1 := ⟨start1.p0, start1.e0, start1.about1, start1.theMethod, start1.args0, start1.below0, start1.atStart⟩
end Jvm.Pilot.@@N@@
