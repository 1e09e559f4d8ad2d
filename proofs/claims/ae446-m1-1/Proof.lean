import JvmDerived
import JvmDerived.Pilot.@@N@@Statement
import JvmDerived.Pilot.@@N@@Code
set_option linter.unusedVariables false
set_option linter.unusedSimpArgs false
namespace Jvm.RoadKit
open Sem ClassFile Op Lib Jvm.Stand Jvm.Free Jvm.LawKit
section New
variable {p : Program} {l : Launch} {e : Env} {R : Room} {s : State} {m : MethodId} {args : Array Value} {below : List Frame} {meth : Method} {c : Code} {T : State} {locs : List Loc} {cells slots : Nat}
theorem retI (X : Stand p l e R s m args below meth c T locs cells slots) (hx : p.tables.exec = Jvm.exec) {pc : Nat} {Ls : Array Slot} {z : Int32} {rest : List Value} (hret : meth.sig.returnType = some .int) (hd : decode c.code pc = .ok (.ireturn, 1)) {fs : List Frame}
    (hl : ∀ (f : JFrame) (acts : List Action), f.method = m → f.locked = none → f.entered = [] → (doReturn e (T.setTop f) acts (some (.int z))).1 = T.setFrames fs) : Steps p.tables e below (T.setTop (mkF m pc Ls (.int z :: rest))) (T.setFrames fs) := by
  have hm' : T.vm.method? m = some meth := X.method'
  have hn : narrow .int (.int z) = .int z := rfl
  show Steps p.tables e below (T.setTop { method := m, pc := pc, locals := Ls, stack := _ :: rest, locked := none }) _
  jvm_step X.here [X.here.top, hx, hd, hm', hret, hn]
  first | (intro acts; rw [hl _ acts rfl rfl rfl]) | rw [hl _ _ rfl rfl rfl]
  exact Steps.refl _
end New
end Jvm.RoadKit
@@BLOCK:NumsL.lean.txt@@
namespace Jvm.Pilot.@@N@@
open Jvm Jvm.ClassFile Sem Op Lib Jvm.Free Jvm.Stand Jvm.LawKit Jvm.RoadKit Bundle Jvm.Pilot.@@N@@.Jvm.D
theorem own_eqi {args : Array Value} {first s : State} {o : Option Outcome} {idx : List Nat} {t : Term} {k : Int32} (h : (Jvm.Cond.eq t (.int k)).value args first o s idx = some true) : t.eval args first o idx s = some (.int k) := by
  simp only [Cond.value, Term.eval] at h
  cases ht : t.eval args first o idx s with
  | none => simp [ht] at h
  | some x => cases x <;> simp [ht] at h ⊢; exact h
theorem own_eql {args : Array Value} {first s : State} {o : Option Outcome} {idx : List Nat} {t : Term} {k : Int64} (h : (Jvm.Cond.eq t (.long k)).value args first o s idx = some true) : t.eval args first o idx s = some (.long k) := by
  simp only [Cond.value, Term.eval] at h
  cases ht : t.eval args first o idx s with
  | none => simp [ht] at h
  | some x => cases x <;> simp [ht] at h ⊢; exact h
theorem own_eqr {args : Array Value} {first s : State} {o : Option Outcome} {idx : List Nat} {t u : Term} {a : Addr} (hu : u.eval args first o idx s = some (.ref a)) (h : (Jvm.Cond.eq t u).value args first o s idx = some true) : t.eval args first o idx s = some (.ref a) := by
  simp only [Cond.value, hu] at h
  cases ht : t.eval args first o idx s with
  | none => simp [ht] at h
  | some x => cases x <;> simp [ht] at h ⊢; exact h
theorem own_fld {args : Array Value} {s : State} {t : Term} {x : Addr} {C n d : String} {v : Value} (ht : t.eval args s none [] s = some (.ref x)) (h : (Term.field t C n d).eval args s none [] s = some v) : Fld s s.heap x C n d v := Fld.start ((fld_at ht).symm.trans h)
theorem own_exa_ns {Z : State} {h : Heap} {a : Addr} {C : String} (F : Exa Z h a C) : ∀ c : Cell, h[a]? = some c → c.vm.isStatics = false := fun c hc => by
  obtain ⟨cell, k, h1, -, -, h4, -⟩ := F
  cases h1.symm.trans hc
  exact h4
theorem own_sta_keep {Z : State} {h h' : Heap} {C n d : String} {v : Value} {ws : List Addr} (F : Sta Z h C n d v) (K : Keep h h' ws) (hn : ∀ x ∈ ws, ∀ c : Cell, h[x]? = some c → c.vm.isStatics = false) : Sta Z h' C n d v := by
  obtain ⟨cf, i, k, f, st, cell, h1, h2, h3, h4, h5, h6, h7⟩ := F
  refine ⟨cf, i, k, f, st, cell, h1, h2, h3, h4, K.2.1 st cell h5 (fun q => ?_), h6, h7⟩
  rw [hn st q cell h5] at h6
  cases h6
theorem own_c255 (x : Int32) : ¬ (255 : Int32) < ((x &&& (255 : Int32)).toUInt32.toUInt16.toUInt32.toInt32) := by
  have e : (x &&& (255 : Int32)).toInt = x.toInt % 2 ^ 8 := Jvm.Kit.i32_mask x 255 (k := 8) (by decide) (by decide)
  have q : ((x &&& (255 : Int32)).toUInt32.toUInt16.toUInt32.toInt32) = (x &&& (255 : Int32)) := by
    apply Int32.toBitVec_inj.mp
    show ((x.toBitVec &&& 255#32).setWidth 16).setWidth 32 = x.toBitVec &&& 255#32
    apply BitVec.eq_of_toNat_eq
    have h : (x.toBitVec &&& 255#32).toNat < 256 := by
      rw [BitVec.toNat_and]
      exact Nat.lt_of_le_of_lt Nat.and_le_right (by decide)
    simp only [BitVec.toNat_setWidth]
    omega
  rw [q, Int32.lt_iff_toInt_lt, e]
  show ¬ (255 : Int) < _
  omega
def own_nz (x : Int32) : Int32 := if x = 0 then 0 else 1
def own_maxL (x y : Int64) : Int64 := if x < y then y else x
def own_minL (x y : Int64) : Int64 := if y < x then y else x
def own_sp (f l b e : Int64) : Int32 := if f < b ∧ e < l then 1 else 0
def own_af (b f : Int64) : Int32 := if own_maxL b f = b ∧ ¬ b = f then 1 else 0
def own_bl (e l : Int64) : Int32 := if own_minL e l = e ∧ ¬ e = l then 1 else 0
def own_and (x y : Int32) : Int32 := if x = 0 then 0 else if y = 0 then 0 else 1
theorem own_lt {a b : Int64} : a < b ↔ a.toInt < b.toInt := Int64.lt_iff_toInt_lt
theorem own_eq {a b : Int64} : a = b ↔ a.toInt = b.toInt := Int64.toInt_inj.symm
theorem own_af_eq (b f : Int64) : own_af b f = if f < b then 1 else 0 := by
  unfold own_af own_maxL
  by_cases h : b < f
  · have h2 : ¬ f < b := by simp only [own_lt] at *; omega
    have h3 : ¬ f = b := by simp only [own_lt, own_eq] at *; omega
    simp [h, h2, h3]
  · by_cases h2 : b = f
    · subst h2; simp [h]
    · have h3 : f < b := by simp only [own_lt, own_eq] at *; omega
      simp [h, h2, h3]
theorem own_bl_eq (e l : Int64) : own_bl e l = if e < l then 1 else 0 := by
  unfold own_bl own_minL
  by_cases h : l < e
  · have h2 : ¬ e < l := by simp only [own_lt] at *; omega
    have h3 : ¬ l = e := by simp only [own_lt, own_eq] at *; omega
    simp [h, h2, h3]
  · by_cases h2 : e = l
    · subst h2; simp [h]
    · have h3 : e < l := by simp only [own_lt, own_eq] at *; omega
      simp [h, h2, h3]
theorem own_spx (f l b e : Int64) : own_sp f l b e = own_and (own_af b f) (own_bl e l) := by
  rw [own_af_eq, own_bl_eq]
  unfold own_sp own_and
  by_cases h1 : f < b <;> by_cases h2 : e < l <;> simp [h1, h2]
theorem own_none (b : Int64) : ¬ (9223372036854775807 : Int64) < b := by
  rw [own_lt]
  have := b.toInt_lt
  show ¬ (9223372036854775807 : Int) < b.toInt
  omega
theorem d_jdk_43m3_0 : decode jdk_43_method_3_code 0 = .ok (.iload_n 0, 1) := by decide +kernel
theorem d_jdk_43m3_1 : decode jdk_43_method_3_code 1 = .ok (.sipush 255, 3) := by decide +kernel
theorem d_jdk_43m3_4 : decode jdk_43_method_3_code 4 = .ok (.if_icmp .gt 7, 3) := by decide +kernel
theorem d_jdk_43m3_7 : decode jdk_43_method_3_code 7 = .ok (.iconst 1, 1) := by decide +kernel
theorem d_jdk_43m3_8 : decode jdk_43_method_3_code 8 = .ok (.goto 4, 3) := by decide +kernel
theorem d_jdk_43m3_12 : decode jdk_43_method_3_code 12 = .ok (.ireturn, 1) := by decide +kernel
theorem pn_0 : plainName "java/lang/StringLatin1" = true := by first | (simp [plainName, overriddenIn]; done) | decide +kernel
theorem ef_can (mM : MethodId) (x0 : Int32) : entryFrame mM #[(.int x0)] 1 = mkF mM 0 #[.val (.int x0)] [] := by first | (simp [entryFrame, mkF, argsToLocals, Value.category]; done) | rfl
def Q_can (Z : State) (p : Int32) (h0 : Heap) (n0 : Nat) (v_ : Option Value) (h_ : Heap) (L_ : List Loc) : Prop := v_ = some (.int (1 : Int32)) ∧ Fr n0 L_ ∧ h_ = h0
set_option maxRecDepth 65536 in
set_option maxHeartbeats 40000000 in
theorem rm_can (l : Launch) (Z : State) (a0 : Array Value) (hw : ∀ d ∈ tables_1, d.before a0 Z = true) (ws : List Jvm.Cond) (p : Int32) (h0 : Heap) (n0 : Nat) (Z0 : n0 ≤ h0.size) (hp : ¬ (255 : Int32) < p) :
    MetFree l (⟨"java/lang/StringLatin1", "canEncode", "(C)Z"⟩ : MethodName) (head1 (Jvm.Cond.code (⟨"java/lang/StringLatin1", "canEncode", "(C)Z"⟩ : MethodName) jdk_43_method_3_code 1 (some .boolean) :: ws) ({ frames := 0, cells := 0, slots := 0, locals := 0 } : Room)) (fun aa_ U_ => aa_ = #[(.int p)] ∧ Z.Warmed39 U_.vm ∧ U_.heap = h0) (fun _ _ _ _ _ => True) (fun _ U_ o_ U'_ => ∃ v_ L_, o_ = .returned v_ ∧ Q_can Z p h0 n0 v_ U'_.heap L_ ∧ FrameEnd U_ o_ U'_ L_ ({ frames := 0, cells := 0, slots := 0, locals := 0 } : Room).cells ({ frames := 0, cells := 0, slots := 0, locals := 0 } : Room).slots) := by
  refine MetFree.of_bodySF (plainFor_of_name pn_0) hisR ?_
  intro pP eE sS mM argsA below meth cC s₁ Bd hml0 hP hK
  obtain ⟨rfl, hZ, hh⟩ := hP
  have hx := Bd.exec
  have hby := Bd.bytes
  have hml : cC.maxLocals = 1 := hml0
  have hown : sS.vm.findClass "java/lang/StringLatin1" = some mM.cls := findClass_of_methodNamed Bd.named
  have hnm := (name_of_methodNamed Bd.named Bd.method).1
  have X0 : Stand pP l eE ({ frames := 0, cells := 0, slots := 0, locals := 0 } : Room) sS mM #[(.int p)] below meth cC s₁ [] 0 0 := Stand.of_body Bd
  have e0 : s₁.heap = h0 := by rw [← hh, Bd.state]; rfl
  have N0 := Fr.nil n0
  have pre0 : ∀ t_, Steps pP.tables eE below (s₁.setTop (mkF mM 0 #[.val (.int p)] [])) t_ → Steps pP.tables eE below (s₁.setTop (entryFrame mM #[(.int p)] 1)) t_ := fun t_ k_ => castTop (ef_can mM p) k_
  obtain ⟨fs, hr, hrun, hended, hW, hsame⟩ := X0.leave (v := some (.int (1 : Int32))) (fun h => by rw [Bd.returns] at h; cases h)
  refine ⟨_, _, pre0 _ ?_, hrun, hended, _, _, rfl, ?_, ⟨_, rfl⟩, hW, hsame.mono (by decide) (by decide)⟩
  · show Steps pP.tables eE below (s₁.setTop (mkF mM 0 #[.val (.int p)] [])) _
    refine XS.iloadN X0.here hx rfl (hb hby d_jdk_43m3_0) rfl ?_
    show Steps pP.tables eE below (s₁.setTop (mkF mM 1 #[.val (.int p)] [(.int p)])) _
    refine XS.sipush X0.here hx rfl (hb hby d_jdk_43m3_1) ?_
    show Steps pP.tables eE below (s₁.setTop (mkF mM 4 #[.val (.int p)] [(.int (255 : Int32)), (.int p)])) _
    refine XS.icmpNo X0.here hx rfl (hb hby d_jdk_43m3_4) rfl (XT.ii_gt_f hp) ?_
    show Steps pP.tables eE below (s₁.setTop (mkF mM 7 #[.val (.int p)] [])) _
    refine XS.iconst X0.here hx rfl (hb hby d_jdk_43m3_7) ?_
    show Steps pP.tables eE below (s₁.setTop (mkF mM 8 #[.val (.int p)] [(.int (1 : Int32))])) _
    refine XS.goto X0.here hx rfl (pc0 := 8) (pc' := 12) rfl (hb hby d_jdk_43m3_8) (by decide) (by decide) ?_
    show Steps pP.tables eE below (s₁.setTop (mkF mM 12 #[.val (.int p)] [(.int (1 : Int32))])) _
    exact retN X0 hx (t := .boolean) Bd.returns (by simp) (hb hby d_jdk_43m3_12) hr
  · show Q_can Z p h0 n0 _ s₁.heap _
    rw [e0]
    exact ⟨rfl, N0, rfl⟩
theorem d_jdk_43m46_0 : decode jdk_43_method_46_code 0 = .ok (.iconst 1, 1) := by decide +kernel
theorem d_jdk_43m46_1 : decode jdk_43_method_46_code 1 = .ok (.newarray .byte, 2) := by decide +kernel
theorem d_jdk_43m46_3 : decode jdk_43_method_46_code 3 = .ok (.dup, 1) := by decide +kernel
theorem d_jdk_43m46_4 : decode jdk_43_method_46_code 4 = .ok (.iconst 0, 1) := by decide +kernel
theorem d_jdk_43m46_5 : decode jdk_43_method_46_code 5 = .ok (.iload_n 0, 1) := by decide +kernel
theorem d_jdk_43m46_6 : decode jdk_43_method_46_code 6 = .ok (.i2b, 1) := by decide +kernel
theorem d_jdk_43m46_7 : decode jdk_43_method_46_code 7 = .ok (.bastore, 1) := by decide +kernel
theorem d_jdk_43m46_8 : decode jdk_43_method_46_code 8 = .ok (.areturn, 1) := by decide +kernel
theorem ef_tob (mM : MethodId) (x0 : Int32) : entryFrame mM #[(.int x0)] 1 = mkF mM 0 #[.val (.int x0)] [] := by first | (simp [entryFrame, mkF, argsToLocals, Value.category]; done) | rfl
def Q_tob (Z : State) (p : Int32) (h0 : Heap) (n0 : Nat) (v_ : Option Value) (h_ : Heap) (L_ : List Loc) : Prop := ∃ b : Addr, ∃ k : ClassId, v_ = some (.ref b) ∧ Fr n0 L_ ∧ Keep h0 h_ [] ∧ h0.size ≤ b ∧ Arv Z h_ b k .byte (1 : Int32) [(.int (nar .byte (p.toInt8.toInt32)))] (.int (0 : Int32))
set_option maxRecDepth 65536 in
set_option maxHeartbeats 40000000 in
theorem rm_tob (l : Launch) (Z : State) (a0 : Array Value) (hw : ∀ d ∈ tables_1, d.before a0 Z = true) (ws : List Jvm.Cond) (p : Int32) (h0 : Heap) (n0 : Nat) (Z0 : n0 ≤ h0.size) :
    MetFree l (⟨"java/lang/StringLatin1", "toBytes", "(C)[B"⟩ : MethodName) (head1 (Jvm.Cond.code (⟨"java/lang/StringLatin1", "toBytes", "(C)[B"⟩ : MethodName) jdk_43_method_46_code 1 (some (.array .byte)) :: ws) ({ frames := 0, cells := 1, slots := 1, locals := 0 } : Room)) (fun aa_ U_ => aa_ = #[(.int p)] ∧ Z.Warmed39 U_.vm ∧ U_.heap = h0) (fun _ _ _ _ _ => True) (fun _ U_ o_ U'_ => ∃ v_ L_, o_ = .returned v_ ∧ Q_tob Z p h0 n0 v_ U'_.heap L_ ∧ FrameEnd U_ o_ U'_ L_ ({ frames := 0, cells := 1, slots := 1, locals := 0 } : Room).cells ({ frames := 0, cells := 1, slots := 1, locals := 0 } : Room).slots) := by
  refine MetFree.of_bodySF (plainFor_of_name pn_0) hisR ?_
  intro pP eE sS mM argsA below meth cC s₁ Bd hml0 hP hK
  obtain ⟨rfl, hZ, hh⟩ := hP
  have hx := Bd.exec
  have hby := Bd.bytes
  have hml : cC.maxLocals = 1 := hml0
  have hown : sS.vm.findClass "java/lang/StringLatin1" = some mM.cls := findClass_of_methodNamed Bd.named
  have hnm := (name_of_methodNamed Bd.named Bd.method).1
  have X0 : Stand pP l eE ({ frames := 0, cells := 1, slots := 1, locals := 0 } : Room) sS mM #[(.int p)] below meth cC s₁ [] 0 0 := Stand.of_body Bd
  have e0 : s₁.heap = h0 := by rw [← hh, Bd.state]; rfl
  have N0 := Fr.nil n0
  have pre0 : ∀ t_, Steps pP.tables eE below (s₁.setTop (mkF mM 0 #[.val (.int p)] [])) t_ → Steps pP.tables eE below (s₁.setTop (entryFrame mM #[(.int p)] 1)) t_ := fun t_ k_ => castTop (ef_tob mM p) k_
  obtain ⟨T_1, h_1, k_1, X_1, e_1, E_1, A_1, st_1⟩ := newP X0 hx hZ (hw _ (List.mem_of_getElem? (i := 70) rfl)) e0 (g := (mkF mM 1 #[.val (.int p)] [(.int (1 : Int32))])) rfl (hb hby d_jdk_43m46_1) rfl (by decide) (cap := 1) (by decide) (by decide) (by decide) (by decide)
  obtain ⟨b_1, g_1⟩ : ∃ z, z = h0.size := ⟨_, rfl⟩
  rw [← g_1] at A_1 st_1
  have g_b_1 : n0 ≤ b_1 := Nat.le_trans Z0 (Nat.le_of_eq g_1.symm)
  have sz_b_1 : h0.size ≤ b_1 := Nat.le_trans (Keep.refl h0 []).1 (Nat.le_of_eq g_1.symm)
  have Z_1 : n0 ≤ h_1.size := (Nat.le_trans Z0 E_1.1)
  have K_1 : Keep h0 h_1 [] := (Keep.refl h0 []).ext E_1
  have V_b_1 : Arv Z h_1 b_1 k_1 .byte (1 : Int32) [(.int (0 : Int32))] (.int (0 : Int32)) := (Arv.new A_1 (by decide)).pad (pad_rep [] (.int (0 : Int32)) 1)
  obtain ⟨cl_2, Ar_2, qa_2, Sa_2, Na_2, Ha_2, Ga_2⟩ := V_b_1
  have hin_2 : ¬ ((0 : Int32) < 0 ∨ cl_2.slots.size ≤ ((0 : Int32)).toNatClampNeg) := inb_of Sa_2 ⟨by decide, by decide⟩
  obtain ⟨T_2, h_2, X_2, e_2, W_2, st_2⟩ := stB X_1 hx hZ e_1 Ar_2 (j := (0 : Int32)) hin_2 (g := (mkF mM 7 #[.val (.int p)] [(.int (p.toInt8.toInt32)), (.int (0 : Int32)), (.ref b_1), (.ref b_1)])) rfl rfl (hb hby d_jdk_43m46_7)
  have V_2 : Arv Z h_2 b_1 k_1 .byte (1 : Int32) [(.int (nar .byte (p.toInt8.toInt32)))] (.int (0 : Int32)) := Arv.set Ar_2 qa_2 Sa_2 Na_2 Ha_2 Ga_2 (fits_nar_byte _) W_2 0 rfl (Nat.le_of_ble_eq_true rfl)
  have Z_2 : n0 ≤ h_2.size := (Nat.le_trans Z_1 (Keep.of_wr W_2).1)
  have K_2 : Keep h0 h_2 [] := K_1.wr W_2 (Or.inr sz_b_1)
  have N_2 := Fr.snoc X_2 N0 g_b_1
  obtain ⟨fs, hr, hrun, hended, hW, hsame⟩ := X_2.leave (v := some (.ref b_1)) (fun h => by rw [Bd.returns] at h; cases h)
  refine ⟨_, _, pre0 _ ?_, hrun, hended, _, _, rfl, ?_, ⟨_, rfl⟩, hW, hsame.mono (by decide) (by decide)⟩
  · show Steps pP.tables eE below (s₁.setTop (mkF mM 0 #[.val (.int p)] [])) _
    refine XS.iconst X0.here hx rfl (hb hby d_jdk_43m46_0) ?_
    show Steps pP.tables eE below (s₁.setTop (mkF mM 1 #[.val (.int p)] [(.int (1 : Int32))])) _
    refine st_1 _ ?_
    show Steps pP.tables eE below (T_1.setTop (mkF mM 3 #[.val (.int p)] [(.ref b_1)])) _
    refine XS.dup X_1.here hx rfl (hb hby d_jdk_43m46_3) rfl rfl ?_
    show Steps pP.tables eE below (T_1.setTop (mkF mM 4 #[.val (.int p)] [(.ref b_1), (.ref b_1)])) _
    refine XS.iconst X_1.here hx rfl (hb hby d_jdk_43m46_4) ?_
    show Steps pP.tables eE below (T_1.setTop (mkF mM 5 #[.val (.int p)] [(.int (0 : Int32)), (.ref b_1), (.ref b_1)])) _
    refine XS.iloadN X_1.here hx rfl (hb hby d_jdk_43m46_5) rfl ?_
    show Steps pP.tables eE below (T_1.setTop (mkF mM 6 #[.val (.int p)] [(.int p), (.int (0 : Int32)), (.ref b_1), (.ref b_1)])) _
    refine XT.i2b X_1.here hx rfl (hb hby d_jdk_43m46_6) rfl ?_
    show Steps pP.tables eE below (T_1.setTop (mkF mM 7 #[.val (.int p)] [(.int (p.toInt8.toInt32)), (.int (0 : Int32)), (.ref b_1), (.ref b_1)])) _
    refine st_2 _ ?_
    show Steps pP.tables eE below (T_2.setTop (mkF mM 8 #[.val (.int p)] [(.ref b_1)])) _
    exact retOut X_2 hx Bd.returns rfl (Or.inr (Or.inr (Or.inr (Or.inr ⟨rfl, rfl, rfl⟩)))) (hb hby d_jdk_43m46_8) hr
  · show Q_tob Z p h0 n0 _ T_2.heap _
    rw [e_2]
    exact ⟨b_1, k_1, rfl, N_2, K_2, sz_b_1, V_2⟩
theorem d_jdk_42m151_0 : decode jdk_42_method_151_code 0 = .ok (.aload_n 0, 1) := by decide +kernel
theorem d_jdk_42m151_1 : decode jdk_42_method_151_code 1 = .ok (.invokespecial 1, 3) := by decide +kernel
theorem d_jdk_42m151_4 : decode jdk_42_method_151_code 4 = .ok (.aload_n 0, 1) := by decide +kernel
theorem d_jdk_42m151_5 : decode jdk_42_method_151_code 5 = .ok (.aload_n 1, 1) := by decide +kernel
theorem d_jdk_42m151_6 : decode jdk_42_method_151_code 6 = .ok (.putfield 9, 3) := by decide +kernel
theorem d_jdk_42m151_9 : decode jdk_42_method_151_code 9 = .ok (.aload_n 0, 1) := by decide +kernel
theorem d_jdk_42m151_10 : decode jdk_42_method_151_code 10 = .ok (.iload_n 2, 1) := by decide +kernel
theorem d_jdk_42m151_11 : decode jdk_42_method_151_code 11 = .ok (.putfield 15, 3) := by decide +kernel
theorem d_jdk_42m151_14 : decode jdk_42_method_151_code 14 = .ok (.return_, 1) := by decide +kernel
theorem pn_1 : plainName "java/lang/String" = true := by first | (simp [plainName, overriddenIn]; done) | decide +kernel
theorem ef_sinit (mM : MethodId) (x0 : Addr) (x1 : Addr) (x2 : Int32) : entryFrame mM #[(.ref x0), (.ref x1), (.int x2)] 3 = mkF mM 0 #[.val (.ref x0), .val (.ref x1), .val (.int x2)] [] := by first | (simp [entryFrame, mkF, argsToLocals, Value.category]; done) | rfl
def Q_sinit (Z : State) (a : Addr) (w : Addr) (h0 : Heap) (n0 : Nat) (v_ : Option Value) (h_ : Heap) (L_ : List Loc) : Prop := v_ = none ∧ Fr n0 L_ ∧ Keep h0 h_ [a] ∧ Fld Z h_ a "java/lang/String" "value" "[B" (.ref w) ∧ Fld Z h_ a "java/lang/String" "coder" "B" (.int (0 : Int32)) ∧ Exa Z h_ a "java/lang/String"
set_option maxRecDepth 65536 in
set_option maxHeartbeats 40000000 in
theorem rm_sinit (l : Launch) (Z : State) (a0 : Array Value) (hw : ∀ d ∈ tables_1, d.before a0 Z = true) (ws : List Jvm.Cond) (a : Addr) (w : Addr) (h0 : Heap) (n0 : Nat) (Z0 : n0 ≤ h0.size) (F_value_a : Fld Z h0 a "java/lang/String" "value" "[B" .null) (F_coder_a : Fld Z h0 a "java/lang/String" "coder" "B" (.int (0 : Int32))) (E_a : Exa Z h0 a "java/lang/String") (g_a : n0 ≤ a) :
    MetFree l (⟨"java/lang/String", "<init>", "([BB)V"⟩ : MethodName) (head1 (Jvm.Cond.code (⟨"java/lang/String", "<init>", "([BB)V"⟩ : MethodName) jdk_42_method_151_code 3 none :: ws) ({ frames := 1, cells := 0, slots := 0, locals := 12 } : Room)) (fun aa_ U_ => aa_ = #[(.ref a), (.ref w), (.int (0 : Int32))] ∧ Z.Warmed39 U_.vm ∧ U_.heap = h0) (fun _ _ _ _ _ => True) (fun _ U_ o_ U'_ => ∃ v_ L_, o_ = .returned v_ ∧ Q_sinit Z a w h0 n0 v_ U'_.heap L_ ∧ FrameEnd U_ o_ U'_ L_ ({ frames := 1, cells := 0, slots := 0, locals := 12 } : Room).cells ({ frames := 1, cells := 0, slots := 0, locals := 12 } : Room).slots) := by
  refine MetFree.of_bodySF (plainFor_of_name pn_1) hisR ?_
  intro pP eE sS mM argsA below meth cC s₁ Bd hml0 hP hK
  obtain ⟨rfl, hZ, hh⟩ := hP
  have hx := Bd.exec
  have hby := Bd.bytes
  have hml : cC.maxLocals = 3 := hml0
  have hown : sS.vm.findClass "java/lang/String" = some mM.cls := findClass_of_methodNamed Bd.named
  have hnm := (name_of_methodNamed Bd.named Bd.method).1
  have X0 : Stand pP l eE ({ frames := 1, cells := 0, slots := 0, locals := 12 } : Room) sS mM #[(.ref a), (.ref w), (.int (0 : Int32))] below meth cC s₁ [] 0 0 := Stand.of_body Bd
  have e0 : s₁.heap = h0 := by rw [← hh, Bd.state]; rfl
  have N0 := Fr.nil n0
  have pre0 : ∀ t_, Steps pP.tables eE below (s₁.setTop (mkF mM 0 #[.val (.ref a), .val (.ref w), .val (.int (0 : Int32))] [])) t_ → Steps pP.tables eE below (s₁.setTop (entryFrame mM #[(.ref a), (.ref w), (.int (0 : Int32))] 3)) t_ := fun t_ k_ => castTop (ef_sinit mM a w (0 : Int32)) k_
  obtain ⟨T_1, X_1, e_1, st_1⟩ := initO X0 hx hZ hown (hw _ (List.mem_of_getElem? (i := 75) rfl)) (hw _ (List.mem_of_getElem? (i := 12) rfl)) (hw _ (List.mem_of_getElem? (i := 13) rfl)) e0 (g := (mkF mM 1 #[.val (.ref a), .val (.ref w), .val (.int (0 : Int32))] [(.ref a)])) rfl (by rw [hml]; rfl) rfl (hb hby d_jdk_42m151_1) (by decide) (W := 0) (by show 2 * 0 + _ ≤ _; exact Nat.le_of_eq rfl) (by decide)
  obtain ⟨T_2, h_2, X_2, e_2, W_2, st_2⟩ := putF X_1 hx hZ hown (host := "") (Or.inl (hw _ (List.mem_of_getElem? (i := 76) rfl))) Via.refl e_1 F_value_a E_a (Or.inr ⟨(hw _ (List.mem_of_getElem? (i := 77) rfl)), rfl, hnm⟩) (hw _ (List.mem_of_getElem? (i := 66) rfl)) (ty := (.array .byte)) (by decide) rfl rfl (g := (mkF mM 6 #[.val (.ref a), .val (.ref w), .val (.int (0 : Int32))] [(.ref w), (.ref a)])) rfl rfl (hb hby d_jdk_42m151_6)
  have Fw_2 := F_value_a.same W_2
  have Z_2 : n0 ≤ h_2.size := (Nat.le_trans Z0 (Keep.of_wr W_2).1)
  have K_2 : Keep h0 h_2 [a] := (Keep.refl h0 [a]).wr W_2 (Or.inl (List.mem_of_getElem? (i := 0) rfl))
  have N_2 := Fr.snoc X_2 N0 g_a
  obtain ⟨T_3, h_3, X_3, e_3, W_3, st_3⟩ := putFN X_2 hx hZ hown (hw _ (List.mem_of_getElem? (i := 78) rfl)) Via.refl e_2 (F_coder_a.other W_2 (Or.inr (slot_ne (Or.inr (hw _ (List.mem_of_getElem? (i := 79) rfl))) (Or.inr (hw _ (List.mem_of_getElem? (i := 77) rfl))) (by decide) (t := .byte) (t' := (.array .byte)) (by decide) (by decide)))) (E_a.wr W_2) (Or.inr ⟨(hw _ (List.mem_of_getElem? (i := 79) rfl)), rfl, hnm⟩) (hw _ (List.mem_of_getElem? (i := 66) rfl)) (ty := .byte) (v' := (.int (0 : Int32))) (by decide) rfl rfl (g := (mkF mM 11 #[.val (.ref a), .val (.ref w), .val (.int (0 : Int32))] [(.int (0 : Int32)), (.ref a)])) rfl rfl (hb hby d_jdk_42m151_11)
  have Fw_3 := (F_coder_a.other W_2 (Or.inr (slot_ne (Or.inr (hw _ (List.mem_of_getElem? (i := 79) rfl))) (Or.inr (hw _ (List.mem_of_getElem? (i := 77) rfl))) (by decide) (t := .byte) (t' := (.array .byte)) (by decide) (by decide)))).same W_3
  have Z_3 : n0 ≤ h_3.size := (Nat.le_trans Z_2 (Keep.of_wr W_3).1)
  have K_3 : Keep h0 h_3 [a] := K_2.wr W_3 (Or.inl (List.mem_of_getElem? (i := 0) rfl))
  have N_3 := Fr.snoc X_3 N_2 g_a
  obtain ⟨fs, hr, hrun, hended, hW, hsame⟩ := X_3.leave (v := none) (fun _ => rfl)
  refine ⟨_, _, pre0 _ ?_, hrun, hended, _, _, rfl, ?_, ⟨_, rfl⟩, hW, hsame.mono (by decide) (by decide)⟩
  · show Steps pP.tables eE below (s₁.setTop (mkF mM 0 #[.val (.ref a), .val (.ref w), .val (.int (0 : Int32))] [])) _
    refine XS.aloadN X0.here hx rfl (hb hby d_jdk_42m151_0) rfl rfl ?_
    show Steps pP.tables eE below (s₁.setTop (mkF mM 1 #[.val (.ref a), .val (.ref w), .val (.int (0 : Int32))] [(.ref a)])) _
    refine st_1 _ ?_
    show Steps pP.tables eE below (T_1.setTop (mkF mM 4 #[.val (.ref a), .val (.ref w), .val (.int (0 : Int32))] [])) _
    refine XS.aloadN X_1.here hx rfl (hb hby d_jdk_42m151_4) rfl rfl ?_
    show Steps pP.tables eE below (T_1.setTop (mkF mM 5 #[.val (.ref a), .val (.ref w), .val (.int (0 : Int32))] [(.ref a)])) _
    refine XS.aloadN X_1.here hx rfl (hb hby d_jdk_42m151_5) rfl rfl ?_
    show Steps pP.tables eE below (T_1.setTop (mkF mM 6 #[.val (.ref a), .val (.ref w), .val (.int (0 : Int32))] [(.ref w), (.ref a)])) _
    refine st_2 _ ?_
    show Steps pP.tables eE below (T_2.setTop (mkF mM 9 #[.val (.ref a), .val (.ref w), .val (.int (0 : Int32))] [])) _
    refine XS.aloadN X_2.here hx rfl (hb hby d_jdk_42m151_9) rfl rfl ?_
    show Steps pP.tables eE below (T_2.setTop (mkF mM 10 #[.val (.ref a), .val (.ref w), .val (.int (0 : Int32))] [(.ref a)])) _
    refine XS.iloadN X_2.here hx rfl (hb hby d_jdk_42m151_10) rfl ?_
    show Steps pP.tables eE below (T_2.setTop (mkF mM 11 #[.val (.ref a), .val (.ref w), .val (.int (0 : Int32))] [(.int (0 : Int32)), (.ref a)])) _
    refine st_3 _ ?_
    show Steps pP.tables eE below (T_3.setTop (mkF mM 14 #[.val (.ref a), .val (.ref w), .val (.int (0 : Int32))] [])) _
    exact X_3.returnOut hx Bd.returns (hb hby d_jdk_42m151_14) hr
  · show Q_sinit Z a w h0 n0 _ T_3.heap _
    rw [e_3]
    exact ⟨rfl, N_3, K_3, (Fw_2.other W_3 (Or.inr (slot_ne (Or.inr (hw _ (List.mem_of_getElem? (i := 77) rfl))) (Or.inr (hw _ (List.mem_of_getElem? (i := 79) rfl))) (by decide) (t := (.array .byte)) (t' := .byte) (by decide) (by decide)))), Fw_3, ((E_a.wr W_2).wr W_3)⟩
theorem d_jdk_42m139_0 : decode jdk_42_method_139_code 0 = .ok (.getstatic 38, 3) := by decide +kernel
theorem d_jdk_42m139_3 : decode jdk_42_method_139_code 3 = .ok (.ifCond .eq 23, 3) := by decide +kernel
theorem d_jdk_42m139_6 : decode jdk_42_method_139_code 6 = .ok (.iload_n 0, 1) := by decide +kernel
theorem d_jdk_42m139_7 : decode jdk_42_method_139_code 7 = .ok (.invokestatic 1015, 3) := by decide +kernel
theorem pd_0 : parseMethodDescriptor "(C)Z" = some ⟨[.char], some .boolean⟩ := by decide +kernel
theorem d_jdk_42m139_10 : decode jdk_42_method_139_code 10 = .ok (.ifCond .eq 16, 3) := by decide +kernel
theorem d_jdk_42m139_13 : decode jdk_42_method_139_code 13 = .ok (.new 10, 3) := by decide +kernel
theorem d_jdk_42m139_16 : decode jdk_42_method_139_code 16 = .ok (.dup, 1) := by decide +kernel
theorem d_jdk_42m139_17 : decode jdk_42_method_139_code 17 = .ok (.iload_n 0, 1) := by decide +kernel
theorem d_jdk_42m139_18 : decode jdk_42_method_139_code 18 = .ok (.invokestatic 1018, 3) := by decide +kernel
theorem pd_1 : parseMethodDescriptor "(C)[B" = some ⟨[.char], some (.array .byte)⟩ := by decide +kernel
theorem d_jdk_42m139_21 : decode jdk_42_method_139_code 21 = .ok (.iconst 0, 1) := by decide +kernel
theorem d_jdk_42m139_22 : decode jdk_42_method_139_code 22 = .ok (.invokespecial 209, 3) := by decide +kernel
theorem pd_2 : parseMethodDescriptor "([BB)V" = some ⟨[(.array .byte), .byte], none⟩ := by decide +kernel
theorem d_jdk_42m139_25 : decode jdk_42_method_139_code 25 = .ok (.areturn, 1) := by decide +kernel
theorem ef_valof (mM : MethodId) (x0 : Int32) : entryFrame mM #[(.int x0)] 1 = mkF mM 0 #[.val (.int x0)] [] := by first | (simp [entryFrame, mkF, argsToLocals, Value.category]; done) | rfl
def Q_valof (Z : State) (p : Int32) (cs : Int32) (h0 : Heap) (n0 : Nat) (v_ : Option Value) (h_ : Heap) (L_ : List Loc) : Prop := ∃ b : Addr, ∃ d : Addr, ∃ k : ClassId, v_ = some (.ref b) ∧ Fr n0 L_ ∧ Keep h0 h_ [] ∧ h0.size ≤ b ∧ h0.size ≤ d ∧ Exa Z h_ b "java/lang/String" ∧ Fld Z h_ b "java/lang/String" "value" "[B" (.ref d) ∧ Fld Z h_ b "java/lang/String" "coder" "B" (.int (0 : Int32)) ∧ Arv Z h_ d k .byte (1 : Int32) [(.int (nar .byte (p.toInt8.toInt32)))] (.int (0 : Int32))
set_option maxRecDepth 65536 in
set_option maxHeartbeats 40000000 in
theorem rm_valof (l : Launch) (Z : State) (a0 : Array Value) (hw : ∀ d ∈ tables_1, d.before a0 Z = true) (ws : List Jvm.Cond) (p : Int32) (cs : Int32) (h0 : Heap) (n0 : Nat) (Z0 : n0 ≤ h0.size) (S_String_COMPACT_STRINGS : Sta Z h0 "java/lang/String" "COMPACT_STRINGS" "Z" (.int cs)) (hcs : ¬ cs = 0) (hp : ¬ (255 : Int32) < p) :
    MetFree l (⟨"java/lang/String", "valueOf", "(C)Ljava/lang/String;"⟩ : MethodName) (head1 (Jvm.Cond.code (⟨"java/lang/String", "valueOf", "(C)Ljava/lang/String;"⟩ : MethodName) jdk_42_method_139_code 1 (some (.object "java/lang/String")) :: ws) ({ frames := 2, cells := 2, slots := 5, locals := 27 } : Room)) (fun aa_ U_ => aa_ = #[(.int p)] ∧ Z.Warmed39 U_.vm ∧ U_.heap = h0) (fun _ _ _ _ _ => True) (fun _ U_ o_ U'_ => ∃ v_ L_, o_ = .returned v_ ∧ Q_valof Z p cs h0 n0 v_ U'_.heap L_ ∧ FrameEnd U_ o_ U'_ L_ ({ frames := 2, cells := 2, slots := 5, locals := 27 } : Room).cells ({ frames := 2, cells := 2, slots := 5, locals := 27 } : Room).slots) := by
  refine MetFree.of_bodySF (plainFor_of_name pn_1) hisR ?_
  intro pP eE sS mM argsA below meth cC s₁ Bd hml0 hP hK
  obtain ⟨rfl, hZ, hh⟩ := hP
  have hx := Bd.exec
  have hby := Bd.bytes
  have hml : cC.maxLocals = 1 := hml0
  have hown : sS.vm.findClass "java/lang/String" = some mM.cls := findClass_of_methodNamed Bd.named
  have hnm := (name_of_methodNamed Bd.named Bd.method).1
  have X0 : Stand pP l eE ({ frames := 2, cells := 2, slots := 5, locals := 27 } : Room) sS mM #[(.int p)] below meth cC s₁ [] 0 0 := Stand.of_body Bd
  have e0 : s₁.heap = h0 := by rw [← hh, Bd.state]; rfl
  have N0 := Fr.nil n0
  have pre0 : ∀ t_, Steps pP.tables eE below (s₁.setTop (mkF mM 0 #[.val (.int p)] [])) t_ → Steps pP.tables eE below (s₁.setTop (entryFrame mM #[(.int p)] 1)) t_ := fun t_ k_ => castTop (ef_valof mM p) k_
  obtain ⟨T_1, X_1, e_1, st_1⟩ := getS2 X0 hx hZ hown (host := "") (Or.inl (hw _ (List.mem_of_getElem? (i := 60) rfl))) Via.refl e0 S_String_COMPACT_STRINGS (g := (mkF mM 0 #[.val (.int p)] [])) rfl (hb hby d_jdk_42m139_0)
  obtain ⟨_, _, ⟨T_2, L_2, k_2, n_2⟩, -, X_2, ⟨Lc_2, hQ_2, l_2, y_2, z_2⟩, st_2⟩ := Jvm.LawKit.callS X_1 hx (y := (⟨"java/lang/StringLatin1", "canEncode", "(C)Z"⟩ : MethodName)) hown (mvT hZ (hw _ (List.mem_of_getElem? (i := 61) rfl))) (mvT hZ (hw _ (List.mem_of_getElem? (i := 62) rfl))) (mvT hZ (hw _ (List.mem_of_getElem? (i := 63) rfl))) (mvT hZ (hw _ (List.mem_of_getElem? (i := 64) rfl))) (by decide) (backOf (W := 0) (rm_can l Z a0 hw [] p h0 n0 Z0 hp) hZ (hw _ (List.mem_of_getElem? (i := 64) rfl)) (hw _ (List.mem_of_getElem? (i := 63) rfl)) (by decide) (by decide)) (g := (mkF mM 7 #[.val (.int p)] [(.int p)])) rfl (by rw [hml]; rfl) (argsL := [(.int p)]) (rest := []) (lenOf pd_0 rfl) rfl (by show 2 * 0 + _ ≤ _; exact Nat.le_of_eq rfl) (hb hby d_jdk_42m139_7) (fun _ _ => ⟨rfl, e_1, (by decide : 0 + 0 ≤ _), (by decide : 0 + 0 ≤ _)⟩)
  dsimp only [Pt.U, Pt.locs, Pt.cells, Pt.slots] at X_2 l_2 y_2 z_2 st_2 hQ_2
  subst l_2 y_2 z_2
  obtain ⟨rfl, N_2q, eh_2⟩ := hQ_2
  have N_2 := Fr.app N0 N_2q
  obtain ⟨T_3, h_3, X_3, e_3, E_3, A_3, D_3, -, st_3⟩ := newO X_2 hx hZ hown (hw _ (List.mem_of_getElem? (i := 65) rfl)) (hw _ (List.mem_of_getElem? (i := 66) rfl)) (hw _ (List.mem_of_getElem? (i := 58) rfl)) eh_2 (g := (mkF mM 13 #[.val (.int p)] [])) rfl (hb hby d_jdk_42m139_13) (by decide) (by decide)
  obtain ⟨b_3, g_3⟩ : ∃ z, z = h0.size := ⟨_, rfl⟩
  rw [← g_3] at A_3 D_3 st_3
  have g_b_3 : n0 ≤ b_3 := Nat.le_trans Z0 (Nat.le_of_eq g_3.symm)
  have sz_b_3 : h0.size ≤ b_3 := Nat.le_trans (Keep.refl h0 []).1 (Nat.le_of_eq g_3.symm)
  have Z_3 : n0 ≤ h_3.size := (Nat.le_trans Z0 E_3.1)
  have K_3 : Keep h0 h_3 [] := (Keep.refl h0 []).ext E_3
  have F_value_b_3__3 : Fld Z h_3 b_3 "java/lang/String" "value" "[B" .null := D_3 (Or.inr (hw _ (List.mem_of_getElem? (i := 77) rfl))) (ty := (.array .byte)) (by decide)
  have F_coder_b_3__3 : Fld Z h_3 b_3 "java/lang/String" "coder" "B" (.int (0 : Int32)) := D_3 (Or.inr (hw _ (List.mem_of_getElem? (i := 79) rfl))) (ty := .byte) (by decide)
  obtain ⟨_, _, ⟨T_4, L_4, k_4, n_4⟩, -, X_4, ⟨Lc_4, hQ_4, l_4, y_4, z_4⟩, st_4⟩ := Jvm.LawKit.callS X_3 hx (y := (⟨"java/lang/StringLatin1", "toBytes", "(C)[B"⟩ : MethodName)) hown (mvT hZ (hw _ (List.mem_of_getElem? (i := 67) rfl))) (mvT hZ (hw _ (List.mem_of_getElem? (i := 68) rfl))) (mvT hZ (hw _ (List.mem_of_getElem? (i := 63) rfl))) (mvT hZ (hw _ (List.mem_of_getElem? (i := 69) rfl))) (by decide) (backOf (W := 2) (rm_tob l Z a0 hw [] p h_3 n0 Z_3 ) hZ (hw _ (List.mem_of_getElem? (i := 69) rfl)) (hw _ (List.mem_of_getElem? (i := 63) rfl)) (by decide) (by decide)) (g := (mkF mM 18 #[.val (.int p)] [(.int p), (.ref b_3), (.ref b_3)])) rfl (by rw [hml]; rfl) (argsL := [(.int p)]) (rest := [(.ref b_3), (.ref b_3)]) (lenOf pd_1 rfl) rfl (by show 2 * 0 + _ ≤ _; exact Nat.le_of_eq rfl) (hb hby d_jdk_42m139_18) (fun _ _ => ⟨rfl, e_3, (by decide : 1 + 1 ≤ _), (by decide : 4 + 1 ≤ _)⟩)
  dsimp only [Pt.U, Pt.locs, Pt.cells, Pt.slots] at X_4 l_4 y_4 z_4 st_4 hQ_4
  subst l_4 y_4 z_4
  obtain ⟨b__4, ⟨k__4, ⟨rfl, N_4q, Kc_4, pfsz_b_4, pfV_b_4⟩⟩⟩ := hQ_4
  have Z_4 : n0 ≤ T_4.heap.size := (Nat.le_trans Z_3 Kc_4.1)
  have K_4 : Keep h0 T_4.heap [] := K_3.trans Kc_4 all0
  have sz_b__4 : h0.size ≤ b__4 := Nat.le_trans K_3.1 pfsz_b_4
  have g_b__4 : n0 ≤ b__4 := Nat.le_trans Z_3 pfsz_b_4
  have N_4 := Fr.app N_2 N_4q
  obtain ⟨_, _, ⟨T_5, L_5, k_5, n_5⟩, -, X_5, ⟨Lc_5, hQ_5, l_5, y_5, z_5⟩, st_5⟩ := X_4.specialBack hx (y := (⟨"java/lang/String", "<init>", "([BB)V"⟩ : MethodName)) rfl hown (mvT hZ (hw _ (List.mem_of_getElem? (i := 71) rfl))) (mvT hZ (hw _ (List.mem_of_getElem? (i := 72) rfl))) (mvT hZ (hw _ (List.mem_of_getElem? (i := 74) rfl))) (by decide) (backOf (W := 1) (rm_sinit l Z a0 hw [] b_3 b__4 T_4.heap n0 Z_4 (F_value_b_3__3.keep Kc_4 nin0) (F_coder_b_3__3.keep Kc_4 nin0) (A_3.keep Kc_4) g_b_3) hZ (hw _ (List.mem_of_getElem? (i := 74) rfl)) (hw _ (List.mem_of_getElem? (i := 58) rfl)) (by decide) (by decide)) (g := (mkF mM 22 #[.val (.int p)] [(.int (0 : Int32)), (.ref b__4), (.ref b_3), (.ref b_3)])) rfl (by rw [hml]; rfl) (Steps.refl _) (a := b_3) (argsL := [(.ref b__4), (.int (0 : Int32))]) (rest := [(.ref b_3)]) (lenOf pd_2 rfl) rfl (by show 2 * 0 + _ ≤ _; exact Nat.le_of_eq rfl) (hb hby d_jdk_42m139_22) (fun _ _ => ⟨rfl, rfl, (by decide : 2 + 0 ≤ _), (by decide : 5 + 0 ≤ _)⟩)
  dsimp only [Pt.U, Pt.locs, Pt.cells, Pt.slots] at X_5 l_5 y_5 z_5 st_5 hQ_5
  subst l_5 y_5 z_5
  obtain ⟨rfl, N_5q, Kc_5, pfF_value_a_5, pfF_coder_a_5, pfE_a_5⟩ := hQ_5
  have Z_5 : n0 ≤ T_5.heap.size := (Nat.le_trans Z_4 Kc_5.1)
  have K_5 : Keep h0 T_5.heap [] := K_4.trans Kc_5 (allS (Or.inr sz_b_3) all0)
  have N_5 := Fr.app N_4 N_5q
  obtain ⟨fs, hr, hrun, hended, hW, hsame⟩ := X_5.leave (v := some (.ref b_3)) (fun h => by rw [Bd.returns] at h; cases h)
  refine ⟨_, _, pre0 _ ?_, hrun, hended, _, _, rfl, ?_, ⟨_, rfl⟩, hW, hsame.mono (by decide) (by decide)⟩
  · show Steps pP.tables eE below (s₁.setTop (mkF mM 0 #[.val (.int p)] [])) _
    refine st_1 _ ?_
    show Steps pP.tables eE below (T_1.setTop (mkF mM 3 #[.val (.int p)] [(.int cs)])) _
    refine XS.ifNo X_1.here hx rfl (hb hby d_jdk_42m139_3) rfl (XT.i0_eq_f hcs) ?_
    show Steps pP.tables eE below (T_1.setTop (mkF mM 6 #[.val (.int p)] [])) _
    refine XS.iloadN X_1.here hx rfl (hb hby d_jdk_42m139_6) rfl ?_
    show Steps pP.tables eE below (T_1.setTop (mkF mM 7 #[.val (.int p)] [(.int p)])) _
    refine st_2 _ ?_
    show Steps pP.tables eE below (T_2.setTop (mkF mM 10 #[.val (.int p)] [(.int (1 : Int32))])) _
    refine XS.ifNo X_2.here hx rfl (hb hby d_jdk_42m139_10) rfl (by decide) ?_
    show Steps pP.tables eE below (T_2.setTop (mkF mM 13 #[.val (.int p)] [])) _
    refine st_3 _ ?_
    show Steps pP.tables eE below (T_3.setTop (mkF mM 16 #[.val (.int p)] [(.ref b_3)])) _
    refine XS.dup X_3.here hx rfl (hb hby d_jdk_42m139_16) rfl rfl ?_
    show Steps pP.tables eE below (T_3.setTop (mkF mM 17 #[.val (.int p)] [(.ref b_3), (.ref b_3)])) _
    refine XS.iloadN X_3.here hx rfl (hb hby d_jdk_42m139_17) rfl ?_
    show Steps pP.tables eE below (T_3.setTop (mkF mM 18 #[.val (.int p)] [(.int p), (.ref b_3), (.ref b_3)])) _
    refine st_4 _ ?_
    show Steps pP.tables eE below (T_4.setTop (mkF mM 21 #[.val (.int p)] [(.ref b__4), (.ref b_3), (.ref b_3)])) _
    refine XS.iconst X_4.here hx rfl (hb hby d_jdk_42m139_21) ?_
    show Steps pP.tables eE below (T_4.setTop (mkF mM 22 #[.val (.int p)] [(.int (0 : Int32)), (.ref b__4), (.ref b_3), (.ref b_3)])) _
    refine st_5.trans ?_
    show Steps pP.tables eE below (T_5.setTop (mkF mM 25 #[.val (.int p)] [(.ref b_3)])) _
    exact retOut X_5 hx Bd.returns rfl (Or.inr (Or.inr (Or.inr (Or.inr ⟨rfl, rfl, rfl⟩)))) (hb hby d_jdk_42m139_25) hr
  · show Q_valof Z p cs h0 n0 _ T_5.heap _
    exact ⟨b_3, b__4, k__4, rfl, N_5, K_5, sz_b_3, sz_b__4, pfE_a_5, pfF_value_a_5, pfF_coder_a_5, (pfV_b_4.keep Kc_5 (ninS (Ne.symm (Nat.ne_of_lt (Nat.lt_of_lt_of_le A_3.lt pfsz_b_4))) nin0))⟩
theorem d_jdk_30m1_0 : decode jdk_30_method_1_code 0 = .ok (.aload_n 0, 1) := by decide +kernel
theorem d_jdk_30m1_1 : decode jdk_30_method_1_code 1 = .ok (.invokespecial 1, 3) := by decide +kernel
theorem d_jdk_30m1_4 : decode jdk_30_method_1_code 4 = .ok (.return_, 1) := by decide +kernel
theorem pn_2 : plainName "java/lang/Record" = true := by first | (simp [plainName, overriddenIn]; done) | decide +kernel
theorem ef_rec (mM : MethodId) (x0 : Addr) : entryFrame mM #[(.ref x0)] 1 = mkF mM 0 #[.val (.ref x0)] [] := by first | (simp [entryFrame, mkF, argsToLocals, Value.category]; done) | rfl
def Q_rec (Z : State) (a : Addr) (h0 : Heap) (n0 : Nat) (v_ : Option Value) (h_ : Heap) (L_ : List Loc) : Prop := v_ = none ∧ Fr n0 L_ ∧ h_ = h0
set_option maxRecDepth 65536 in
set_option maxHeartbeats 40000000 in
theorem rm_rec (l : Launch) (Z : State) (a0 : Array Value) (hw : ∀ d ∈ tables_1, d.before a0 Z = true) (ws : List Jvm.Cond) (a : Addr) (h0 : Heap) (n0 : Nat) (Z0 : n0 ≤ h0.size) :
    MetFree l (⟨"java/lang/Record", "<init>", "()V"⟩ : MethodName) (head1 (Jvm.Cond.code (⟨"java/lang/Record", "<init>", "()V"⟩ : MethodName) jdk_30_method_1_code 1 none :: ws) ({ frames := 1, cells := 0, slots := 0, locals := 12 } : Room)) (fun aa_ U_ => aa_ = #[(.ref a)] ∧ Z.Warmed39 U_.vm ∧ U_.heap = h0) (fun _ _ _ _ _ => True) (fun _ U_ o_ U'_ => ∃ v_ L_, o_ = .returned v_ ∧ Q_rec Z a h0 n0 v_ U'_.heap L_ ∧ FrameEnd U_ o_ U'_ L_ ({ frames := 1, cells := 0, slots := 0, locals := 12 } : Room).cells ({ frames := 1, cells := 0, slots := 0, locals := 12 } : Room).slots) := by
  refine MetFree.of_bodySF (plainFor_of_name pn_2) hisR ?_
  intro pP eE sS mM argsA below meth cC s₁ Bd hml0 hP hK
  obtain ⟨rfl, hZ, hh⟩ := hP
  have hx := Bd.exec
  have hby := Bd.bytes
  have hml : cC.maxLocals = 1 := hml0
  have hown : sS.vm.findClass "java/lang/Record" = some mM.cls := findClass_of_methodNamed Bd.named
  have hnm := (name_of_methodNamed Bd.named Bd.method).1
  have X0 : Stand pP l eE ({ frames := 1, cells := 0, slots := 0, locals := 12 } : Room) sS mM #[(.ref a)] below meth cC s₁ [] 0 0 := Stand.of_body Bd
  have e0 : s₁.heap = h0 := by rw [← hh, Bd.state]; rfl
  have N0 := Fr.nil n0
  have pre0 : ∀ t_, Steps pP.tables eE below (s₁.setTop (mkF mM 0 #[.val (.ref a)] [])) t_ → Steps pP.tables eE below (s₁.setTop (entryFrame mM #[(.ref a)] 1)) t_ := fun t_ k_ => castTop (ef_rec mM a) k_
  obtain ⟨T_1, X_1, e_1, st_1⟩ := initO X0 hx hZ hown (hw _ (List.mem_of_getElem? (i := 11) rfl)) (hw _ (List.mem_of_getElem? (i := 12) rfl)) (hw _ (List.mem_of_getElem? (i := 13) rfl)) e0 (g := (mkF mM 1 #[.val (.ref a)] [(.ref a)])) rfl (by rw [hml]; rfl) rfl (hb hby d_jdk_30m1_1) (by decide) (W := 0) (by show 2 * 0 + _ ≤ _; exact Nat.le_of_eq rfl) (by decide)
  obtain ⟨fs, hr, hrun, hended, hW, hsame⟩ := X_1.leave (v := none) (fun _ => rfl)
  refine ⟨_, _, pre0 _ ?_, hrun, hended, _, _, rfl, ?_, ⟨_, rfl⟩, hW, hsame.mono (by decide) (by decide)⟩
  · show Steps pP.tables eE below (s₁.setTop (mkF mM 0 #[.val (.ref a)] [])) _
    refine XS.aloadN X0.here hx rfl (hb hby d_jdk_30m1_0) rfl rfl ?_
    show Steps pP.tables eE below (s₁.setTop (mkF mM 1 #[.val (.ref a)] [(.ref a)])) _
    refine st_1 _ ?_
    show Steps pP.tables eE below (T_1.setTop (mkF mM 4 #[.val (.ref a)] [])) _
    exact X_1.returnOut hx Bd.returns (hb hby d_jdk_30m1_4) hr
  · show Q_rec Z a h0 n0 _ T_1.heap _
    rw [e_1]
    exact ⟨rfl, N0, rfl⟩
theorem d_prog_9m1_0 : decode prog_9_method_1_code 0 = .ok (.aload_n 0, 1) := by decide +kernel
theorem d_prog_9m1_1 : decode prog_9_method_1_code 1 = .ok (.invokespecial 1, 3) := by decide +kernel
theorem pd_3 : parseMethodDescriptor "()V" = some ⟨[], none⟩ := by decide +kernel
theorem d_prog_9m1_4 : decode prog_9_method_1_code 4 = .ok (.aload_n 0, 1) := by decide +kernel
theorem d_prog_9m1_5 : decode prog_9_method_1_code 5 = .ok (.iload_n 1, 1) := by decide +kernel
theorem d_prog_9m1_6 : decode prog_9_method_1_code 6 = .ok (.putfield 7, 3) := by decide +kernel
theorem d_prog_9m1_9 : decode prog_9_method_1_code 9 = .ok (.aload_n 0, 1) := by decide +kernel
theorem d_prog_9m1_10 : decode prog_9_method_1_code 10 = .ok (.lload_n 2, 1) := by decide +kernel
theorem d_prog_9m1_11 : decode prog_9_method_1_code 11 = .ok (.putfield 13, 3) := by decide +kernel
theorem d_prog_9m1_14 : decode prog_9_method_1_code 14 = .ok (.aload_n 0, 1) := by decide +kernel
theorem d_prog_9m1_15 : decode prog_9_method_1_code 15 = .ok (.lload 4, 2) := by decide +kernel
theorem d_prog_9m1_17 : decode prog_9_method_1_code 17 = .ok (.putfield 17, 3) := by decide +kernel
theorem d_prog_9m1_20 : decode prog_9_method_1_code 20 = .ok (.aload_n 0, 1) := by decide +kernel
theorem d_prog_9m1_21 : decode prog_9_method_1_code 21 = .ok (.lload 6, 2) := by decide +kernel
theorem d_prog_9m1_23 : decode prog_9_method_1_code 23 = .ok (.putfield 20, 3) := by decide +kernel
theorem d_prog_9m1_26 : decode prog_9_method_1_code 26 = .ok (.aload_n 0, 1) := by decide +kernel
theorem d_prog_9m1_27 : decode prog_9_method_1_code 27 = .ok (.iload 8, 2) := by decide +kernel
theorem d_prog_9m1_29 : decode prog_9_method_1_code 29 = .ok (.putfield 23, 3) := by decide +kernel
theorem d_prog_9m1_32 : decode prog_9_method_1_code 32 = .ok (.aload_n 0, 1) := by decide +kernel
theorem d_prog_9m1_33 : decode prog_9_method_1_code 33 = .ok (.aload 9, 2) := by decide +kernel
theorem d_prog_9m1_35 : decode prog_9_method_1_code 35 = .ok (.putfield 26, 3) := by decide +kernel
theorem d_prog_9m1_38 : decode prog_9_method_1_code 38 = .ok (.return_, 1) := by decide +kernel
theorem pn_3 : plainName "com/example/rolling_rung/rollingrung/cli/BenchReport$Operation" = true := by first | (simp [plainName, overriddenIn]; done) | decide +kernel
theorem ef_opis (mM : MethodId) (x0 : Addr) (x1 : Int32) (x2 : Int64) (x3 : Int64) (x4 : Int64) (x5 : Int32) (x6 : Addr) : entryFrame mM #[(.ref x0), (.int x1), (.long x2), (.long x3), (.long x4), (.int x5), (.ref x6)] 10 = mkF mM 0 #[.val (.ref x0), .val (.int x1), .val (.long x2), .second, .val (.long x3), .second, .val (.long x4), .second, .val (.int x5), .val (.ref x6)] [] := by first | (simp [entryFrame, mkF, argsToLocals, Value.category]; done) | rfl
def Q_opis (Z : State) (a : Addr) (pw : Int32) (qb : Int64) (qe : Int64) (qv : Int64) (pf : Int32) (w : Addr) (h0 : Heap) (n0 : Nat) (v_ : Option Value) (h_ : Heap) (L_ : List Loc) : Prop := v_ = none ∧ Fr n0 L_ ∧ Keep h0 h_ [a] ∧ Fld Z h_ a "com/example/rolling_rung/rollingrung/cli/BenchReport$Operation" "began" "J" (.long qb) ∧ Fld Z h_ a "com/example/rolling_rung/rollingrung/cli/BenchReport$Operation" "ended" "J" (.long qe) ∧ Exa Z h_ a "com/example/rolling_rung/rollingrung/cli/BenchReport$Operation"
set_option maxRecDepth 65536 in
set_option maxHeartbeats 40000000 in
theorem rm_opis (l : Launch) (Z : State) (a0 : Array Value) (hw : ∀ d ∈ tables_1, d.before a0 Z = true) (ws : List Jvm.Cond) (a : Addr) (pw : Int32) (qb : Int64) (qe : Int64) (qv : Int64) (pf : Int32) (w : Addr) (h0 : Heap) (n0 : Nat) (Z0 : n0 ≤ h0.size) (F_write_a : Fld Z h0 a "com/example/rolling_rung/rollingrung/cli/BenchReport$Operation" "write" "Z" (.int (0 : Int32))) (F_began_a : Fld Z h0 a "com/example/rolling_rung/rollingrung/cli/BenchReport$Operation" "began" "J" (.long (0 : Int64))) (F_ended_a : Fld Z h0 a "com/example/rolling_rung/rollingrung/cli/BenchReport$Operation" "ended" "J" (.long (0 : Int64))) (F_version_a : Fld Z h0 a "com/example/rolling_rung/rollingrung/cli/BenchReport$Operation" "version" "J" (.long (0 : Int64))) (F_fenced_a : Fld Z h0 a "com/example/rolling_rung/rollingrung/cli/BenchReport$Operation" "fenced" "Z" (.int (0 : Int32))) (F_failure_a : Fld Z h0 a "com/example/rolling_rung/rollingrung/cli/BenchReport$Operation" "failure" "Ljava/lang/String;" .null) (E_a : Exa Z h0 a "com/example/rolling_rung/rollingrung/cli/BenchReport$Operation") (g_a : n0 ≤ a) :
    MetFree l (⟨"com/example/rolling_rung/rollingrung/cli/BenchReport$Operation", "<init>", "(ZJJJZLjava/lang/String;)V"⟩ : MethodName) (head1 (Jvm.Cond.code (⟨"com/example/rolling_rung/rollingrung/cli/BenchReport$Operation", "<init>", "(ZJJJZLjava/lang/String;)V"⟩ : MethodName) prog_9_method_1_code 10 none :: ws) ({ frames := 2, cells := 0, slots := 0, locals := 24 } : Room)) (fun aa_ U_ => aa_ = #[(.ref a), (.int pw), (.long qb), (.long qe), (.long qv), (.int pf), (.ref w)] ∧ Z.Warmed39 U_.vm ∧ U_.heap = h0) (fun _ _ _ _ _ => True) (fun _ U_ o_ U'_ => ∃ v_ L_, o_ = .returned v_ ∧ Q_opis Z a pw qb qe qv pf w h0 n0 v_ U'_.heap L_ ∧ FrameEnd U_ o_ U'_ L_ ({ frames := 2, cells := 0, slots := 0, locals := 24 } : Room).cells ({ frames := 2, cells := 0, slots := 0, locals := 24 } : Room).slots) := by
  refine MetFree.of_bodySF (plainFor_of_name pn_3) hisR ?_
  intro pP eE sS mM argsA below meth cC s₁ Bd hml0 hP hK
  obtain ⟨rfl, hZ, hh⟩ := hP
  have hx := Bd.exec
  have hby := Bd.bytes
  have hml : cC.maxLocals = 10 := hml0
  have hown : sS.vm.findClass "com/example/rolling_rung/rollingrung/cli/BenchReport$Operation" = some mM.cls := findClass_of_methodNamed Bd.named
  have hnm := (name_of_methodNamed Bd.named Bd.method).1
  have X0 : Stand pP l eE ({ frames := 2, cells := 0, slots := 0, locals := 24 } : Room) sS mM #[(.ref a), (.int pw), (.long qb), (.long qe), (.long qv), (.int pf), (.ref w)] below meth cC s₁ [] 0 0 := Stand.of_body Bd
  have e0 : s₁.heap = h0 := by rw [← hh, Bd.state]; rfl
  have N0 := Fr.nil n0
  have pre0 : ∀ t_, Steps pP.tables eE below (s₁.setTop (mkF mM 0 #[.val (.ref a), .val (.int pw), .val (.long qb), .second, .val (.long qe), .second, .val (.long qv), .second, .val (.int pf), .val (.ref w)] [])) t_ → Steps pP.tables eE below (s₁.setTop (entryFrame mM #[(.ref a), (.int pw), (.long qb), (.long qe), (.long qv), (.int pf), (.ref w)] 10)) t_ := fun t_ k_ => castTop (ef_opis mM a pw qb qe qv pf w) k_
  obtain ⟨_, _, ⟨T_1, L_1, k_1, n_1⟩, -, X_1, ⟨Lc_1, hQ_1, l_1, y_1, z_1⟩, st_1⟩ := X0.specialBack hx (y := (⟨"java/lang/Record", "<init>", "()V"⟩ : MethodName)) rfl hown (mvT hZ (hw _ (List.mem_of_getElem? (i := 6) rfl))) (mvT hZ (hw _ (List.mem_of_getElem? (i := 7) rfl))) (mvT hZ (hw _ (List.mem_of_getElem? (i := 10) rfl))) (by decide) (backOf (W := 0) (rm_rec l Z a0 hw [] a h0 n0 Z0 ) hZ (hw _ (List.mem_of_getElem? (i := 10) rfl)) (hw _ (List.mem_of_getElem? (i := 9) rfl)) (by decide) (by decide)) (g := (mkF mM 1 #[.val (.ref a), .val (.int pw), .val (.long qb), .second, .val (.long qe), .second, .val (.long qv), .second, .val (.int pf), .val (.ref w)] [(.ref a)])) rfl (by rw [hml]; rfl) (Steps.refl _) (a := a) (argsL := []) (rest := []) (lenOf pd_3 rfl) rfl (by show 2 * 0 + _ ≤ _; exact Nat.le_of_eq rfl) (hb hby d_prog_9m1_1) (fun _ _ => ⟨rfl, e0, (by decide : 0 + 0 ≤ _), (by decide : 0 + 0 ≤ _)⟩)
  dsimp only [Pt.U, Pt.locs, Pt.cells, Pt.slots] at X_1 l_1 y_1 z_1 st_1 hQ_1
  subst l_1 y_1 z_1
  obtain ⟨rfl, N_1q, eh_1⟩ := hQ_1
  have N_1 := Fr.app N0 N_1q
  obtain ⟨T_2, h_2, X_2, e_2, W_2, st_2⟩ := putFN X_1 hx hZ hown (hw _ (List.mem_of_getElem? (i := 14) rfl)) Via.refl eh_1 F_write_a E_a (Or.inr ⟨(hw _ (List.mem_of_getElem? (i := 15) rfl)), rfl, hnm⟩) (hw _ (List.mem_of_getElem? (i := 1) rfl)) (ty := .boolean) (v' := (.int (nar .boolean pw))) (by decide) rfl (fits_nar_bool _) (g := (mkF mM 6 #[.val (.ref a), .val (.int pw), .val (.long qb), .second, .val (.long qe), .second, .val (.long qv), .second, .val (.int pf), .val (.ref w)] [(.int pw), (.ref a)])) rfl rfl (hb hby d_prog_9m1_6)
  have Fw_2 := F_write_a.same W_2
  have Z_2 : n0 ≤ h_2.size := (Nat.le_trans Z0 (Keep.of_wr W_2).1)
  have K_2 : Keep h0 h_2 [a] := (Keep.refl h0 [a]).wr W_2 (Or.inl (List.mem_of_getElem? (i := 0) rfl))
  have N_2 := Fr.snoc X_2 N_1 g_a
  obtain ⟨T_3, h_3, X_3, e_3, W_3, st_3⟩ := putF X_2 hx hZ hown (host := "") (Or.inl (hw _ (List.mem_of_getElem? (i := 16) rfl))) Via.refl e_2 (F_began_a.other W_2 (Or.inr (slot_ne (Or.inr (hw _ (List.mem_of_getElem? (i := 17) rfl))) (Or.inr (hw _ (List.mem_of_getElem? (i := 15) rfl))) (by decide) (t := .long) (t' := .boolean) (by decide) (by decide)))) (E_a.wr W_2) (Or.inr ⟨(hw _ (List.mem_of_getElem? (i := 17) rfl)), rfl, hnm⟩) (hw _ (List.mem_of_getElem? (i := 1) rfl)) (ty := .long) (by decide) rfl rfl (g := (mkF mM 11 #[.val (.ref a), .val (.int pw), .val (.long qb), .second, .val (.long qe), .second, .val (.long qv), .second, .val (.int pf), .val (.ref w)] [(.long qb), (.ref a)])) rfl rfl (hb hby d_prog_9m1_11)
  have Fw_3 := (F_began_a.other W_2 (Or.inr (slot_ne (Or.inr (hw _ (List.mem_of_getElem? (i := 17) rfl))) (Or.inr (hw _ (List.mem_of_getElem? (i := 15) rfl))) (by decide) (t := .long) (t' := .boolean) (by decide) (by decide)))).same W_3
  have Z_3 : n0 ≤ h_3.size := (Nat.le_trans Z_2 (Keep.of_wr W_3).1)
  have K_3 : Keep h0 h_3 [a] := K_2.wr W_3 (Or.inl (List.mem_of_getElem? (i := 0) rfl))
  have N_3 := Fr.snoc X_3 N_2 g_a
  obtain ⟨T_4, h_4, X_4, e_4, W_4, st_4⟩ := putF X_3 hx hZ hown (host := "") (Or.inl (hw _ (List.mem_of_getElem? (i := 18) rfl))) Via.refl e_3 ((F_ended_a.other W_2 (Or.inr (slot_ne (Or.inr (hw _ (List.mem_of_getElem? (i := 19) rfl))) (Or.inr (hw _ (List.mem_of_getElem? (i := 15) rfl))) (by decide) (t := .long) (t' := .boolean) (by decide) (by decide)))).other W_3 (Or.inr (slot_ne (Or.inr (hw _ (List.mem_of_getElem? (i := 19) rfl))) (Or.inr (hw _ (List.mem_of_getElem? (i := 17) rfl))) (by decide) (t := .long) (t' := .long) (by decide) (by decide)))) ((E_a.wr W_2).wr W_3) (Or.inr ⟨(hw _ (List.mem_of_getElem? (i := 19) rfl)), rfl, hnm⟩) (hw _ (List.mem_of_getElem? (i := 1) rfl)) (ty := .long) (by decide) rfl rfl (g := (mkF mM 17 #[.val (.ref a), .val (.int pw), .val (.long qb), .second, .val (.long qe), .second, .val (.long qv), .second, .val (.int pf), .val (.ref w)] [(.long qe), (.ref a)])) rfl rfl (hb hby d_prog_9m1_17)
  have Fw_4 := ((F_ended_a.other W_2 (Or.inr (slot_ne (Or.inr (hw _ (List.mem_of_getElem? (i := 19) rfl))) (Or.inr (hw _ (List.mem_of_getElem? (i := 15) rfl))) (by decide) (t := .long) (t' := .boolean) (by decide) (by decide)))).other W_3 (Or.inr (slot_ne (Or.inr (hw _ (List.mem_of_getElem? (i := 19) rfl))) (Or.inr (hw _ (List.mem_of_getElem? (i := 17) rfl))) (by decide) (t := .long) (t' := .long) (by decide) (by decide)))).same W_4
  have Z_4 : n0 ≤ h_4.size := (Nat.le_trans Z_3 (Keep.of_wr W_4).1)
  have K_4 : Keep h0 h_4 [a] := K_3.wr W_4 (Or.inl (List.mem_of_getElem? (i := 0) rfl))
  have N_4 := Fr.snoc X_4 N_3 g_a
  obtain ⟨T_5, h_5, X_5, e_5, W_5, st_5⟩ := putF X_4 hx hZ hown (host := "") (Or.inl (hw _ (List.mem_of_getElem? (i := 20) rfl))) Via.refl e_4 (((F_version_a.other W_2 (Or.inr (slot_ne (Or.inr (hw _ (List.mem_of_getElem? (i := 21) rfl))) (Or.inr (hw _ (List.mem_of_getElem? (i := 15) rfl))) (by decide) (t := .long) (t' := .boolean) (by decide) (by decide)))).other W_3 (Or.inr (slot_ne (Or.inr (hw _ (List.mem_of_getElem? (i := 21) rfl))) (Or.inr (hw _ (List.mem_of_getElem? (i := 17) rfl))) (by decide) (t := .long) (t' := .long) (by decide) (by decide)))).other W_4 (Or.inr (slot_ne (Or.inr (hw _ (List.mem_of_getElem? (i := 21) rfl))) (Or.inr (hw _ (List.mem_of_getElem? (i := 19) rfl))) (by decide) (t := .long) (t' := .long) (by decide) (by decide)))) (((E_a.wr W_2).wr W_3).wr W_4) (Or.inr ⟨(hw _ (List.mem_of_getElem? (i := 21) rfl)), rfl, hnm⟩) (hw _ (List.mem_of_getElem? (i := 1) rfl)) (ty := .long) (by decide) rfl rfl (g := (mkF mM 23 #[.val (.ref a), .val (.int pw), .val (.long qb), .second, .val (.long qe), .second, .val (.long qv), .second, .val (.int pf), .val (.ref w)] [(.long qv), (.ref a)])) rfl rfl (hb hby d_prog_9m1_23)
  have Fw_5 := (((F_version_a.other W_2 (Or.inr (slot_ne (Or.inr (hw _ (List.mem_of_getElem? (i := 21) rfl))) (Or.inr (hw _ (List.mem_of_getElem? (i := 15) rfl))) (by decide) (t := .long) (t' := .boolean) (by decide) (by decide)))).other W_3 (Or.inr (slot_ne (Or.inr (hw _ (List.mem_of_getElem? (i := 21) rfl))) (Or.inr (hw _ (List.mem_of_getElem? (i := 17) rfl))) (by decide) (t := .long) (t' := .long) (by decide) (by decide)))).other W_4 (Or.inr (slot_ne (Or.inr (hw _ (List.mem_of_getElem? (i := 21) rfl))) (Or.inr (hw _ (List.mem_of_getElem? (i := 19) rfl))) (by decide) (t := .long) (t' := .long) (by decide) (by decide)))).same W_5
  have Z_5 : n0 ≤ h_5.size := (Nat.le_trans Z_4 (Keep.of_wr W_5).1)
  have K_5 : Keep h0 h_5 [a] := K_4.wr W_5 (Or.inl (List.mem_of_getElem? (i := 0) rfl))
  have N_5 := Fr.snoc X_5 N_4 g_a
  obtain ⟨T_6, h_6, X_6, e_6, W_6, st_6⟩ := putFN X_5 hx hZ hown (hw _ (List.mem_of_getElem? (i := 22) rfl)) Via.refl e_5 ((((F_fenced_a.other W_2 (Or.inr (slot_ne (Or.inr (hw _ (List.mem_of_getElem? (i := 23) rfl))) (Or.inr (hw _ (List.mem_of_getElem? (i := 15) rfl))) (by decide) (t := .boolean) (t' := .boolean) (by decide) (by decide)))).other W_3 (Or.inr (slot_ne (Or.inr (hw _ (List.mem_of_getElem? (i := 23) rfl))) (Or.inr (hw _ (List.mem_of_getElem? (i := 17) rfl))) (by decide) (t := .boolean) (t' := .long) (by decide) (by decide)))).other W_4 (Or.inr (slot_ne (Or.inr (hw _ (List.mem_of_getElem? (i := 23) rfl))) (Or.inr (hw _ (List.mem_of_getElem? (i := 19) rfl))) (by decide) (t := .boolean) (t' := .long) (by decide) (by decide)))).other W_5 (Or.inr (slot_ne (Or.inr (hw _ (List.mem_of_getElem? (i := 23) rfl))) (Or.inr (hw _ (List.mem_of_getElem? (i := 21) rfl))) (by decide) (t := .boolean) (t' := .long) (by decide) (by decide)))) ((((E_a.wr W_2).wr W_3).wr W_4).wr W_5) (Or.inr ⟨(hw _ (List.mem_of_getElem? (i := 23) rfl)), rfl, hnm⟩) (hw _ (List.mem_of_getElem? (i := 1) rfl)) (ty := .boolean) (v' := (.int (nar .boolean pf))) (by decide) rfl (fits_nar_bool _) (g := (mkF mM 29 #[.val (.ref a), .val (.int pw), .val (.long qb), .second, .val (.long qe), .second, .val (.long qv), .second, .val (.int pf), .val (.ref w)] [(.int pf), (.ref a)])) rfl rfl (hb hby d_prog_9m1_29)
  have Fw_6 := ((((F_fenced_a.other W_2 (Or.inr (slot_ne (Or.inr (hw _ (List.mem_of_getElem? (i := 23) rfl))) (Or.inr (hw _ (List.mem_of_getElem? (i := 15) rfl))) (by decide) (t := .boolean) (t' := .boolean) (by decide) (by decide)))).other W_3 (Or.inr (slot_ne (Or.inr (hw _ (List.mem_of_getElem? (i := 23) rfl))) (Or.inr (hw _ (List.mem_of_getElem? (i := 17) rfl))) (by decide) (t := .boolean) (t' := .long) (by decide) (by decide)))).other W_4 (Or.inr (slot_ne (Or.inr (hw _ (List.mem_of_getElem? (i := 23) rfl))) (Or.inr (hw _ (List.mem_of_getElem? (i := 19) rfl))) (by decide) (t := .boolean) (t' := .long) (by decide) (by decide)))).other W_5 (Or.inr (slot_ne (Or.inr (hw _ (List.mem_of_getElem? (i := 23) rfl))) (Or.inr (hw _ (List.mem_of_getElem? (i := 21) rfl))) (by decide) (t := .boolean) (t' := .long) (by decide) (by decide)))).same W_6
  have Z_6 : n0 ≤ h_6.size := (Nat.le_trans Z_5 (Keep.of_wr W_6).1)
  have K_6 : Keep h0 h_6 [a] := K_5.wr W_6 (Or.inl (List.mem_of_getElem? (i := 0) rfl))
  have N_6 := Fr.snoc X_6 N_5 g_a
  obtain ⟨T_7, h_7, X_7, e_7, W_7, st_7⟩ := putF X_6 hx hZ hown (host := "") (Or.inl (hw _ (List.mem_of_getElem? (i := 24) rfl))) Via.refl e_6 (((((F_failure_a.other W_2 (Or.inr (slot_ne (Or.inr (hw _ (List.mem_of_getElem? (i := 25) rfl))) (Or.inr (hw _ (List.mem_of_getElem? (i := 15) rfl))) (by decide) (t := (.object "java/lang/String")) (t' := .boolean) (by decide) (by decide)))).other W_3 (Or.inr (slot_ne (Or.inr (hw _ (List.mem_of_getElem? (i := 25) rfl))) (Or.inr (hw _ (List.mem_of_getElem? (i := 17) rfl))) (by decide) (t := (.object "java/lang/String")) (t' := .long) (by decide) (by decide)))).other W_4 (Or.inr (slot_ne (Or.inr (hw _ (List.mem_of_getElem? (i := 25) rfl))) (Or.inr (hw _ (List.mem_of_getElem? (i := 19) rfl))) (by decide) (t := (.object "java/lang/String")) (t' := .long) (by decide) (by decide)))).other W_5 (Or.inr (slot_ne (Or.inr (hw _ (List.mem_of_getElem? (i := 25) rfl))) (Or.inr (hw _ (List.mem_of_getElem? (i := 21) rfl))) (by decide) (t := (.object "java/lang/String")) (t' := .long) (by decide) (by decide)))).other W_6 (Or.inr (slot_ne (Or.inr (hw _ (List.mem_of_getElem? (i := 25) rfl))) (Or.inr (hw _ (List.mem_of_getElem? (i := 23) rfl))) (by decide) (t := (.object "java/lang/String")) (t' := .boolean) (by decide) (by decide)))) (((((E_a.wr W_2).wr W_3).wr W_4).wr W_5).wr W_6) (Or.inr ⟨(hw _ (List.mem_of_getElem? (i := 25) rfl)), rfl, hnm⟩) (hw _ (List.mem_of_getElem? (i := 1) rfl)) (ty := (.object "java/lang/String")) (by decide) rfl rfl (g := (mkF mM 35 #[.val (.ref a), .val (.int pw), .val (.long qb), .second, .val (.long qe), .second, .val (.long qv), .second, .val (.int pf), .val (.ref w)] [(.ref w), (.ref a)])) rfl rfl (hb hby d_prog_9m1_35)
  have Fw_7 := (((((F_failure_a.other W_2 (Or.inr (slot_ne (Or.inr (hw _ (List.mem_of_getElem? (i := 25) rfl))) (Or.inr (hw _ (List.mem_of_getElem? (i := 15) rfl))) (by decide) (t := (.object "java/lang/String")) (t' := .boolean) (by decide) (by decide)))).other W_3 (Or.inr (slot_ne (Or.inr (hw _ (List.mem_of_getElem? (i := 25) rfl))) (Or.inr (hw _ (List.mem_of_getElem? (i := 17) rfl))) (by decide) (t := (.object "java/lang/String")) (t' := .long) (by decide) (by decide)))).other W_4 (Or.inr (slot_ne (Or.inr (hw _ (List.mem_of_getElem? (i := 25) rfl))) (Or.inr (hw _ (List.mem_of_getElem? (i := 19) rfl))) (by decide) (t := (.object "java/lang/String")) (t' := .long) (by decide) (by decide)))).other W_5 (Or.inr (slot_ne (Or.inr (hw _ (List.mem_of_getElem? (i := 25) rfl))) (Or.inr (hw _ (List.mem_of_getElem? (i := 21) rfl))) (by decide) (t := (.object "java/lang/String")) (t' := .long) (by decide) (by decide)))).other W_6 (Or.inr (slot_ne (Or.inr (hw _ (List.mem_of_getElem? (i := 25) rfl))) (Or.inr (hw _ (List.mem_of_getElem? (i := 23) rfl))) (by decide) (t := (.object "java/lang/String")) (t' := .boolean) (by decide) (by decide)))).same W_7
  have Z_7 : n0 ≤ h_7.size := (Nat.le_trans Z_6 (Keep.of_wr W_7).1)
  have K_7 : Keep h0 h_7 [a] := K_6.wr W_7 (Or.inl (List.mem_of_getElem? (i := 0) rfl))
  have N_7 := Fr.snoc X_7 N_6 g_a
  obtain ⟨fs, hr, hrun, hended, hW, hsame⟩ := X_7.leave (v := none) (fun _ => rfl)
  refine ⟨_, _, pre0 _ ?_, hrun, hended, _, _, rfl, ?_, ⟨_, rfl⟩, hW, hsame.mono (by decide) (by decide)⟩
  · show Steps pP.tables eE below (s₁.setTop (mkF mM 0 #[.val (.ref a), .val (.int pw), .val (.long qb), .second, .val (.long qe), .second, .val (.long qv), .second, .val (.int pf), .val (.ref w)] [])) _
    refine XS.aloadN X0.here hx rfl (hb hby d_prog_9m1_0) rfl rfl ?_
    show Steps pP.tables eE below (s₁.setTop (mkF mM 1 #[.val (.ref a), .val (.int pw), .val (.long qb), .second, .val (.long qe), .second, .val (.long qv), .second, .val (.int pf), .val (.ref w)] [(.ref a)])) _
    refine st_1.trans ?_
    show Steps pP.tables eE below (T_1.setTop (mkF mM 4 #[.val (.ref a), .val (.int pw), .val (.long qb), .second, .val (.long qe), .second, .val (.long qv), .second, .val (.int pf), .val (.ref w)] [])) _
    refine XS.aloadN X_1.here hx rfl (hb hby d_prog_9m1_4) rfl rfl ?_
    show Steps pP.tables eE below (T_1.setTop (mkF mM 5 #[.val (.ref a), .val (.int pw), .val (.long qb), .second, .val (.long qe), .second, .val (.long qv), .second, .val (.int pf), .val (.ref w)] [(.ref a)])) _
    refine XS.iloadN X_1.here hx rfl (hb hby d_prog_9m1_5) rfl ?_
    show Steps pP.tables eE below (T_1.setTop (mkF mM 6 #[.val (.ref a), .val (.int pw), .val (.long qb), .second, .val (.long qe), .second, .val (.long qv), .second, .val (.int pf), .val (.ref w)] [(.int pw), (.ref a)])) _
    refine st_2 _ ?_
    show Steps pP.tables eE below (T_2.setTop (mkF mM 9 #[.val (.ref a), .val (.int pw), .val (.long qb), .second, .val (.long qe), .second, .val (.long qv), .second, .val (.int pf), .val (.ref w)] [])) _
    refine XS.aloadN X_2.here hx rfl (hb hby d_prog_9m1_9) rfl rfl ?_
    show Steps pP.tables eE below (T_2.setTop (mkF mM 10 #[.val (.ref a), .val (.int pw), .val (.long qb), .second, .val (.long qe), .second, .val (.long qv), .second, .val (.int pf), .val (.ref w)] [(.ref a)])) _
    refine XT.lloadN X_2.here hx rfl (hb hby d_prog_9m1_10) rfl ?_
    show Steps pP.tables eE below (T_2.setTop (mkF mM 11 #[.val (.ref a), .val (.int pw), .val (.long qb), .second, .val (.long qe), .second, .val (.long qv), .second, .val (.int pf), .val (.ref w)] [(.long qb), (.ref a)])) _
    refine st_3 _ ?_
    show Steps pP.tables eE below (T_3.setTop (mkF mM 14 #[.val (.ref a), .val (.int pw), .val (.long qb), .second, .val (.long qe), .second, .val (.long qv), .second, .val (.int pf), .val (.ref w)] [])) _
    refine XS.aloadN X_3.here hx rfl (hb hby d_prog_9m1_14) rfl rfl ?_
    show Steps pP.tables eE below (T_3.setTop (mkF mM 15 #[.val (.ref a), .val (.int pw), .val (.long qb), .second, .val (.long qe), .second, .val (.long qv), .second, .val (.int pf), .val (.ref w)] [(.ref a)])) _
    refine XT.lload X_3.here hx rfl (hb hby d_prog_9m1_15) rfl ?_
    show Steps pP.tables eE below (T_3.setTop (mkF mM 17 #[.val (.ref a), .val (.int pw), .val (.long qb), .second, .val (.long qe), .second, .val (.long qv), .second, .val (.int pf), .val (.ref w)] [(.long qe), (.ref a)])) _
    refine st_4 _ ?_
    show Steps pP.tables eE below (T_4.setTop (mkF mM 20 #[.val (.ref a), .val (.int pw), .val (.long qb), .second, .val (.long qe), .second, .val (.long qv), .second, .val (.int pf), .val (.ref w)] [])) _
    refine XS.aloadN X_4.here hx rfl (hb hby d_prog_9m1_20) rfl rfl ?_
    show Steps pP.tables eE below (T_4.setTop (mkF mM 21 #[.val (.ref a), .val (.int pw), .val (.long qb), .second, .val (.long qe), .second, .val (.long qv), .second, .val (.int pf), .val (.ref w)] [(.ref a)])) _
    refine XT.lload X_4.here hx rfl (hb hby d_prog_9m1_21) rfl ?_
    show Steps pP.tables eE below (T_4.setTop (mkF mM 23 #[.val (.ref a), .val (.int pw), .val (.long qb), .second, .val (.long qe), .second, .val (.long qv), .second, .val (.int pf), .val (.ref w)] [(.long qv), (.ref a)])) _
    refine st_5 _ ?_
    show Steps pP.tables eE below (T_5.setTop (mkF mM 26 #[.val (.ref a), .val (.int pw), .val (.long qb), .second, .val (.long qe), .second, .val (.long qv), .second, .val (.int pf), .val (.ref w)] [])) _
    refine XS.aloadN X_5.here hx rfl (hb hby d_prog_9m1_26) rfl rfl ?_
    show Steps pP.tables eE below (T_5.setTop (mkF mM 27 #[.val (.ref a), .val (.int pw), .val (.long qb), .second, .val (.long qe), .second, .val (.long qv), .second, .val (.int pf), .val (.ref w)] [(.ref a)])) _
    refine XS.iload X_5.here hx rfl (hb hby d_prog_9m1_27) rfl ?_
    show Steps pP.tables eE below (T_5.setTop (mkF mM 29 #[.val (.ref a), .val (.int pw), .val (.long qb), .second, .val (.long qe), .second, .val (.long qv), .second, .val (.int pf), .val (.ref w)] [(.int pf), (.ref a)])) _
    refine st_6 _ ?_
    show Steps pP.tables eE below (T_6.setTop (mkF mM 32 #[.val (.ref a), .val (.int pw), .val (.long qb), .second, .val (.long qe), .second, .val (.long qv), .second, .val (.int pf), .val (.ref w)] [])) _
    refine XS.aloadN X_6.here hx rfl (hb hby d_prog_9m1_32) rfl rfl ?_
    show Steps pP.tables eE below (T_6.setTop (mkF mM 33 #[.val (.ref a), .val (.int pw), .val (.long qb), .second, .val (.long qe), .second, .val (.long qv), .second, .val (.int pf), .val (.ref w)] [(.ref a)])) _
    refine XS.aload X_6.here hx rfl (hb hby d_prog_9m1_33) rfl rfl ?_
    show Steps pP.tables eE below (T_6.setTop (mkF mM 35 #[.val (.ref a), .val (.int pw), .val (.long qb), .second, .val (.long qe), .second, .val (.long qv), .second, .val (.int pf), .val (.ref w)] [(.ref w), (.ref a)])) _
    refine st_7 _ ?_
    show Steps pP.tables eE below (T_7.setTop (mkF mM 38 #[.val (.ref a), .val (.int pw), .val (.long qb), .second, .val (.long qe), .second, .val (.long qv), .second, .val (.int pf), .val (.ref w)] [])) _
    exact X_7.returnOut hx Bd.returns (hb hby d_prog_9m1_38) hr
  · show Q_opis Z a pw qb qe qv pf w h0 n0 _ T_7.heap _
    rw [e_7]
    exact ⟨rfl, N_7, K_7, ((((Fw_3.other W_4 (Or.inr (slot_ne (Or.inr (hw _ (List.mem_of_getElem? (i := 17) rfl))) (Or.inr (hw _ (List.mem_of_getElem? (i := 19) rfl))) (by decide) (t := .long) (t' := .long) (by decide) (by decide)))).other W_5 (Or.inr (slot_ne (Or.inr (hw _ (List.mem_of_getElem? (i := 17) rfl))) (Or.inr (hw _ (List.mem_of_getElem? (i := 21) rfl))) (by decide) (t := .long) (t' := .long) (by decide) (by decide)))).other W_6 (Or.inr (slot_ne (Or.inr (hw _ (List.mem_of_getElem? (i := 17) rfl))) (Or.inr (hw _ (List.mem_of_getElem? (i := 23) rfl))) (by decide) (t := .long) (t' := .boolean) (by decide) (by decide)))).other W_7 (Or.inr (slot_ne (Or.inr (hw _ (List.mem_of_getElem? (i := 17) rfl))) (Or.inr (hw _ (List.mem_of_getElem? (i := 25) rfl))) (by decide) (t := .long) (t' := (.object "java/lang/String")) (by decide) (by decide)))), (((Fw_4.other W_5 (Or.inr (slot_ne (Or.inr (hw _ (List.mem_of_getElem? (i := 19) rfl))) (Or.inr (hw _ (List.mem_of_getElem? (i := 21) rfl))) (by decide) (t := .long) (t' := .long) (by decide) (by decide)))).other W_6 (Or.inr (slot_ne (Or.inr (hw _ (List.mem_of_getElem? (i := 19) rfl))) (Or.inr (hw _ (List.mem_of_getElem? (i := 23) rfl))) (by decide) (t := .long) (t' := .boolean) (by decide) (by decide)))).other W_7 (Or.inr (slot_ne (Or.inr (hw _ (List.mem_of_getElem? (i := 19) rfl))) (Or.inr (hw _ (List.mem_of_getElem? (i := 25) rfl))) (by decide) (t := .long) (t' := (.object "java/lang/String")) (by decide) (by decide)))), ((((((E_a.wr W_2).wr W_3).wr W_4).wr W_5).wr W_6).wr W_7)⟩
theorem ef_opin (mM : MethodId) (x0 : Addr) (x1 : Int32) (x2 : Int64) (x3 : Int64) (x4 : Int64) (x5 : Int32) : entryFrame mM #[(.ref x0), (.int x1), (.long x2), (.long x3), (.long x4), (.int x5), .null] 10 = mkF mM 0 #[.val (.ref x0), .val (.int x1), .val (.long x2), .second, .val (.long x3), .second, .val (.long x4), .second, .val (.int x5), .val .null] [] := by first | (simp [entryFrame, mkF, argsToLocals, Value.category]; done) | rfl
def Q_opin (Z : State) (a : Addr) (pw : Int32) (qb : Int64) (qe : Int64) (qv : Int64) (pf : Int32) (h0 : Heap) (n0 : Nat) (v_ : Option Value) (h_ : Heap) (L_ : List Loc) : Prop := v_ = none ∧ Fr n0 L_ ∧ Keep h0 h_ [a] ∧ Fld Z h_ a "com/example/rolling_rung/rollingrung/cli/BenchReport$Operation" "began" "J" (.long qb) ∧ Fld Z h_ a "com/example/rolling_rung/rollingrung/cli/BenchReport$Operation" "ended" "J" (.long qe) ∧ Exa Z h_ a "com/example/rolling_rung/rollingrung/cli/BenchReport$Operation"
set_option maxRecDepth 65536 in
set_option maxHeartbeats 40000000 in
theorem rm_opin (l : Launch) (Z : State) (a0 : Array Value) (hw : ∀ d ∈ tables_1, d.before a0 Z = true) (ws : List Jvm.Cond) (a : Addr) (pw : Int32) (qb : Int64) (qe : Int64) (qv : Int64) (pf : Int32) (h0 : Heap) (n0 : Nat) (Z0 : n0 ≤ h0.size) (F_write_a : Fld Z h0 a "com/example/rolling_rung/rollingrung/cli/BenchReport$Operation" "write" "Z" (.int (0 : Int32))) (F_began_a : Fld Z h0 a "com/example/rolling_rung/rollingrung/cli/BenchReport$Operation" "began" "J" (.long (0 : Int64))) (F_ended_a : Fld Z h0 a "com/example/rolling_rung/rollingrung/cli/BenchReport$Operation" "ended" "J" (.long (0 : Int64))) (F_version_a : Fld Z h0 a "com/example/rolling_rung/rollingrung/cli/BenchReport$Operation" "version" "J" (.long (0 : Int64))) (F_fenced_a : Fld Z h0 a "com/example/rolling_rung/rollingrung/cli/BenchReport$Operation" "fenced" "Z" (.int (0 : Int32))) (F_failure_a : Fld Z h0 a "com/example/rolling_rung/rollingrung/cli/BenchReport$Operation" "failure" "Ljava/lang/String;" .null) (E_a : Exa Z h0 a "com/example/rolling_rung/rollingrung/cli/BenchReport$Operation") (g_a : n0 ≤ a) :
    MetFree l (⟨"com/example/rolling_rung/rollingrung/cli/BenchReport$Operation", "<init>", "(ZJJJZLjava/lang/String;)V"⟩ : MethodName) (head1 (Jvm.Cond.code (⟨"com/example/rolling_rung/rollingrung/cli/BenchReport$Operation", "<init>", "(ZJJJZLjava/lang/String;)V"⟩ : MethodName) prog_9_method_1_code 10 none :: ws) ({ frames := 2, cells := 0, slots := 0, locals := 24 } : Room)) (fun aa_ U_ => aa_ = #[(.ref a), (.int pw), (.long qb), (.long qe), (.long qv), (.int pf), .null] ∧ Z.Warmed39 U_.vm ∧ U_.heap = h0) (fun _ _ _ _ _ => True) (fun _ U_ o_ U'_ => ∃ v_ L_, o_ = .returned v_ ∧ Q_opin Z a pw qb qe qv pf h0 n0 v_ U'_.heap L_ ∧ FrameEnd U_ o_ U'_ L_ ({ frames := 2, cells := 0, slots := 0, locals := 24 } : Room).cells ({ frames := 2, cells := 0, slots := 0, locals := 24 } : Room).slots) := by
  refine MetFree.of_bodySF (plainFor_of_name pn_3) hisR ?_
  intro pP eE sS mM argsA below meth cC s₁ Bd hml0 hP hK
  obtain ⟨rfl, hZ, hh⟩ := hP
  have hx := Bd.exec
  have hby := Bd.bytes
  have hml : cC.maxLocals = 10 := hml0
  have hown : sS.vm.findClass "com/example/rolling_rung/rollingrung/cli/BenchReport$Operation" = some mM.cls := findClass_of_methodNamed Bd.named
  have hnm := (name_of_methodNamed Bd.named Bd.method).1
  have X0 : Stand pP l eE ({ frames := 2, cells := 0, slots := 0, locals := 24 } : Room) sS mM #[(.ref a), (.int pw), (.long qb), (.long qe), (.long qv), (.int pf), .null] below meth cC s₁ [] 0 0 := Stand.of_body Bd
  have e0 : s₁.heap = h0 := by rw [← hh, Bd.state]; rfl
  have N0 := Fr.nil n0
  have pre0 : ∀ t_, Steps pP.tables eE below (s₁.setTop (mkF mM 0 #[.val (.ref a), .val (.int pw), .val (.long qb), .second, .val (.long qe), .second, .val (.long qv), .second, .val (.int pf), .val .null] [])) t_ → Steps pP.tables eE below (s₁.setTop (entryFrame mM #[(.ref a), (.int pw), (.long qb), (.long qe), (.long qv), (.int pf), .null] 10)) t_ := fun t_ k_ => castTop (ef_opin mM a pw qb qe qv pf) k_
  obtain ⟨_, _, ⟨T_1, L_1, k_1, n_1⟩, -, X_1, ⟨Lc_1, hQ_1, l_1, y_1, z_1⟩, st_1⟩ := X0.specialBack hx (y := (⟨"java/lang/Record", "<init>", "()V"⟩ : MethodName)) rfl hown (mvT hZ (hw _ (List.mem_of_getElem? (i := 6) rfl))) (mvT hZ (hw _ (List.mem_of_getElem? (i := 7) rfl))) (mvT hZ (hw _ (List.mem_of_getElem? (i := 10) rfl))) (by decide) (backOf (W := 0) (rm_rec l Z a0 hw [] a h0 n0 Z0 ) hZ (hw _ (List.mem_of_getElem? (i := 10) rfl)) (hw _ (List.mem_of_getElem? (i := 9) rfl)) (by decide) (by decide)) (g := (mkF mM 1 #[.val (.ref a), .val (.int pw), .val (.long qb), .second, .val (.long qe), .second, .val (.long qv), .second, .val (.int pf), .val .null] [(.ref a)])) rfl (by rw [hml]; rfl) (Steps.refl _) (a := a) (argsL := []) (rest := []) (lenOf pd_3 rfl) rfl (by show 2 * 0 + _ ≤ _; exact Nat.le_of_eq rfl) (hb hby d_prog_9m1_1) (fun _ _ => ⟨rfl, e0, (by decide : 0 + 0 ≤ _), (by decide : 0 + 0 ≤ _)⟩)
  dsimp only [Pt.U, Pt.locs, Pt.cells, Pt.slots] at X_1 l_1 y_1 z_1 st_1 hQ_1
  subst l_1 y_1 z_1
  obtain ⟨rfl, N_1q, eh_1⟩ := hQ_1
  have N_1 := Fr.app N0 N_1q
  obtain ⟨T_2, h_2, X_2, e_2, W_2, st_2⟩ := putFN X_1 hx hZ hown (hw _ (List.mem_of_getElem? (i := 14) rfl)) Via.refl eh_1 F_write_a E_a (Or.inr ⟨(hw _ (List.mem_of_getElem? (i := 15) rfl)), rfl, hnm⟩) (hw _ (List.mem_of_getElem? (i := 1) rfl)) (ty := .boolean) (v' := (.int (nar .boolean pw))) (by decide) rfl (fits_nar_bool _) (g := (mkF mM 6 #[.val (.ref a), .val (.int pw), .val (.long qb), .second, .val (.long qe), .second, .val (.long qv), .second, .val (.int pf), .val .null] [(.int pw), (.ref a)])) rfl rfl (hb hby d_prog_9m1_6)
  have Fw_2 := F_write_a.same W_2
  have Z_2 : n0 ≤ h_2.size := (Nat.le_trans Z0 (Keep.of_wr W_2).1)
  have K_2 : Keep h0 h_2 [a] := (Keep.refl h0 [a]).wr W_2 (Or.inl (List.mem_of_getElem? (i := 0) rfl))
  have N_2 := Fr.snoc X_2 N_1 g_a
  obtain ⟨T_3, h_3, X_3, e_3, W_3, st_3⟩ := putF X_2 hx hZ hown (host := "") (Or.inl (hw _ (List.mem_of_getElem? (i := 16) rfl))) Via.refl e_2 (F_began_a.other W_2 (Or.inr (slot_ne (Or.inr (hw _ (List.mem_of_getElem? (i := 17) rfl))) (Or.inr (hw _ (List.mem_of_getElem? (i := 15) rfl))) (by decide) (t := .long) (t' := .boolean) (by decide) (by decide)))) (E_a.wr W_2) (Or.inr ⟨(hw _ (List.mem_of_getElem? (i := 17) rfl)), rfl, hnm⟩) (hw _ (List.mem_of_getElem? (i := 1) rfl)) (ty := .long) (by decide) rfl rfl (g := (mkF mM 11 #[.val (.ref a), .val (.int pw), .val (.long qb), .second, .val (.long qe), .second, .val (.long qv), .second, .val (.int pf), .val .null] [(.long qb), (.ref a)])) rfl rfl (hb hby d_prog_9m1_11)
  have Fw_3 := (F_began_a.other W_2 (Or.inr (slot_ne (Or.inr (hw _ (List.mem_of_getElem? (i := 17) rfl))) (Or.inr (hw _ (List.mem_of_getElem? (i := 15) rfl))) (by decide) (t := .long) (t' := .boolean) (by decide) (by decide)))).same W_3
  have Z_3 : n0 ≤ h_3.size := (Nat.le_trans Z_2 (Keep.of_wr W_3).1)
  have K_3 : Keep h0 h_3 [a] := K_2.wr W_3 (Or.inl (List.mem_of_getElem? (i := 0) rfl))
  have N_3 := Fr.snoc X_3 N_2 g_a
  obtain ⟨T_4, h_4, X_4, e_4, W_4, st_4⟩ := putF X_3 hx hZ hown (host := "") (Or.inl (hw _ (List.mem_of_getElem? (i := 18) rfl))) Via.refl e_3 ((F_ended_a.other W_2 (Or.inr (slot_ne (Or.inr (hw _ (List.mem_of_getElem? (i := 19) rfl))) (Or.inr (hw _ (List.mem_of_getElem? (i := 15) rfl))) (by decide) (t := .long) (t' := .boolean) (by decide) (by decide)))).other W_3 (Or.inr (slot_ne (Or.inr (hw _ (List.mem_of_getElem? (i := 19) rfl))) (Or.inr (hw _ (List.mem_of_getElem? (i := 17) rfl))) (by decide) (t := .long) (t' := .long) (by decide) (by decide)))) ((E_a.wr W_2).wr W_3) (Or.inr ⟨(hw _ (List.mem_of_getElem? (i := 19) rfl)), rfl, hnm⟩) (hw _ (List.mem_of_getElem? (i := 1) rfl)) (ty := .long) (by decide) rfl rfl (g := (mkF mM 17 #[.val (.ref a), .val (.int pw), .val (.long qb), .second, .val (.long qe), .second, .val (.long qv), .second, .val (.int pf), .val .null] [(.long qe), (.ref a)])) rfl rfl (hb hby d_prog_9m1_17)
  have Fw_4 := ((F_ended_a.other W_2 (Or.inr (slot_ne (Or.inr (hw _ (List.mem_of_getElem? (i := 19) rfl))) (Or.inr (hw _ (List.mem_of_getElem? (i := 15) rfl))) (by decide) (t := .long) (t' := .boolean) (by decide) (by decide)))).other W_3 (Or.inr (slot_ne (Or.inr (hw _ (List.mem_of_getElem? (i := 19) rfl))) (Or.inr (hw _ (List.mem_of_getElem? (i := 17) rfl))) (by decide) (t := .long) (t' := .long) (by decide) (by decide)))).same W_4
  have Z_4 : n0 ≤ h_4.size := (Nat.le_trans Z_3 (Keep.of_wr W_4).1)
  have K_4 : Keep h0 h_4 [a] := K_3.wr W_4 (Or.inl (List.mem_of_getElem? (i := 0) rfl))
  have N_4 := Fr.snoc X_4 N_3 g_a
  obtain ⟨T_5, h_5, X_5, e_5, W_5, st_5⟩ := putF X_4 hx hZ hown (host := "") (Or.inl (hw _ (List.mem_of_getElem? (i := 20) rfl))) Via.refl e_4 (((F_version_a.other W_2 (Or.inr (slot_ne (Or.inr (hw _ (List.mem_of_getElem? (i := 21) rfl))) (Or.inr (hw _ (List.mem_of_getElem? (i := 15) rfl))) (by decide) (t := .long) (t' := .boolean) (by decide) (by decide)))).other W_3 (Or.inr (slot_ne (Or.inr (hw _ (List.mem_of_getElem? (i := 21) rfl))) (Or.inr (hw _ (List.mem_of_getElem? (i := 17) rfl))) (by decide) (t := .long) (t' := .long) (by decide) (by decide)))).other W_4 (Or.inr (slot_ne (Or.inr (hw _ (List.mem_of_getElem? (i := 21) rfl))) (Or.inr (hw _ (List.mem_of_getElem? (i := 19) rfl))) (by decide) (t := .long) (t' := .long) (by decide) (by decide)))) (((E_a.wr W_2).wr W_3).wr W_4) (Or.inr ⟨(hw _ (List.mem_of_getElem? (i := 21) rfl)), rfl, hnm⟩) (hw _ (List.mem_of_getElem? (i := 1) rfl)) (ty := .long) (by decide) rfl rfl (g := (mkF mM 23 #[.val (.ref a), .val (.int pw), .val (.long qb), .second, .val (.long qe), .second, .val (.long qv), .second, .val (.int pf), .val .null] [(.long qv), (.ref a)])) rfl rfl (hb hby d_prog_9m1_23)
  have Fw_5 := (((F_version_a.other W_2 (Or.inr (slot_ne (Or.inr (hw _ (List.mem_of_getElem? (i := 21) rfl))) (Or.inr (hw _ (List.mem_of_getElem? (i := 15) rfl))) (by decide) (t := .long) (t' := .boolean) (by decide) (by decide)))).other W_3 (Or.inr (slot_ne (Or.inr (hw _ (List.mem_of_getElem? (i := 21) rfl))) (Or.inr (hw _ (List.mem_of_getElem? (i := 17) rfl))) (by decide) (t := .long) (t' := .long) (by decide) (by decide)))).other W_4 (Or.inr (slot_ne (Or.inr (hw _ (List.mem_of_getElem? (i := 21) rfl))) (Or.inr (hw _ (List.mem_of_getElem? (i := 19) rfl))) (by decide) (t := .long) (t' := .long) (by decide) (by decide)))).same W_5
  have Z_5 : n0 ≤ h_5.size := (Nat.le_trans Z_4 (Keep.of_wr W_5).1)
  have K_5 : Keep h0 h_5 [a] := K_4.wr W_5 (Or.inl (List.mem_of_getElem? (i := 0) rfl))
  have N_5 := Fr.snoc X_5 N_4 g_a
  obtain ⟨T_6, h_6, X_6, e_6, W_6, st_6⟩ := putFN X_5 hx hZ hown (hw _ (List.mem_of_getElem? (i := 22) rfl)) Via.refl e_5 ((((F_fenced_a.other W_2 (Or.inr (slot_ne (Or.inr (hw _ (List.mem_of_getElem? (i := 23) rfl))) (Or.inr (hw _ (List.mem_of_getElem? (i := 15) rfl))) (by decide) (t := .boolean) (t' := .boolean) (by decide) (by decide)))).other W_3 (Or.inr (slot_ne (Or.inr (hw _ (List.mem_of_getElem? (i := 23) rfl))) (Or.inr (hw _ (List.mem_of_getElem? (i := 17) rfl))) (by decide) (t := .boolean) (t' := .long) (by decide) (by decide)))).other W_4 (Or.inr (slot_ne (Or.inr (hw _ (List.mem_of_getElem? (i := 23) rfl))) (Or.inr (hw _ (List.mem_of_getElem? (i := 19) rfl))) (by decide) (t := .boolean) (t' := .long) (by decide) (by decide)))).other W_5 (Or.inr (slot_ne (Or.inr (hw _ (List.mem_of_getElem? (i := 23) rfl))) (Or.inr (hw _ (List.mem_of_getElem? (i := 21) rfl))) (by decide) (t := .boolean) (t' := .long) (by decide) (by decide)))) ((((E_a.wr W_2).wr W_3).wr W_4).wr W_5) (Or.inr ⟨(hw _ (List.mem_of_getElem? (i := 23) rfl)), rfl, hnm⟩) (hw _ (List.mem_of_getElem? (i := 1) rfl)) (ty := .boolean) (v' := (.int (nar .boolean pf))) (by decide) rfl (fits_nar_bool _) (g := (mkF mM 29 #[.val (.ref a), .val (.int pw), .val (.long qb), .second, .val (.long qe), .second, .val (.long qv), .second, .val (.int pf), .val .null] [(.int pf), (.ref a)])) rfl rfl (hb hby d_prog_9m1_29)
  have Fw_6 := ((((F_fenced_a.other W_2 (Or.inr (slot_ne (Or.inr (hw _ (List.mem_of_getElem? (i := 23) rfl))) (Or.inr (hw _ (List.mem_of_getElem? (i := 15) rfl))) (by decide) (t := .boolean) (t' := .boolean) (by decide) (by decide)))).other W_3 (Or.inr (slot_ne (Or.inr (hw _ (List.mem_of_getElem? (i := 23) rfl))) (Or.inr (hw _ (List.mem_of_getElem? (i := 17) rfl))) (by decide) (t := .boolean) (t' := .long) (by decide) (by decide)))).other W_4 (Or.inr (slot_ne (Or.inr (hw _ (List.mem_of_getElem? (i := 23) rfl))) (Or.inr (hw _ (List.mem_of_getElem? (i := 19) rfl))) (by decide) (t := .boolean) (t' := .long) (by decide) (by decide)))).other W_5 (Or.inr (slot_ne (Or.inr (hw _ (List.mem_of_getElem? (i := 23) rfl))) (Or.inr (hw _ (List.mem_of_getElem? (i := 21) rfl))) (by decide) (t := .boolean) (t' := .long) (by decide) (by decide)))).same W_6
  have Z_6 : n0 ≤ h_6.size := (Nat.le_trans Z_5 (Keep.of_wr W_6).1)
  have K_6 : Keep h0 h_6 [a] := K_5.wr W_6 (Or.inl (List.mem_of_getElem? (i := 0) rfl))
  have N_6 := Fr.snoc X_6 N_5 g_a
  obtain ⟨T_7, h_7, X_7, e_7, W_7, st_7⟩ := putF X_6 hx hZ hown (host := "") (Or.inl (hw _ (List.mem_of_getElem? (i := 24) rfl))) Via.refl e_6 (((((F_failure_a.other W_2 (Or.inr (slot_ne (Or.inr (hw _ (List.mem_of_getElem? (i := 25) rfl))) (Or.inr (hw _ (List.mem_of_getElem? (i := 15) rfl))) (by decide) (t := (.object "java/lang/String")) (t' := .boolean) (by decide) (by decide)))).other W_3 (Or.inr (slot_ne (Or.inr (hw _ (List.mem_of_getElem? (i := 25) rfl))) (Or.inr (hw _ (List.mem_of_getElem? (i := 17) rfl))) (by decide) (t := (.object "java/lang/String")) (t' := .long) (by decide) (by decide)))).other W_4 (Or.inr (slot_ne (Or.inr (hw _ (List.mem_of_getElem? (i := 25) rfl))) (Or.inr (hw _ (List.mem_of_getElem? (i := 19) rfl))) (by decide) (t := (.object "java/lang/String")) (t' := .long) (by decide) (by decide)))).other W_5 (Or.inr (slot_ne (Or.inr (hw _ (List.mem_of_getElem? (i := 25) rfl))) (Or.inr (hw _ (List.mem_of_getElem? (i := 21) rfl))) (by decide) (t := (.object "java/lang/String")) (t' := .long) (by decide) (by decide)))).other W_6 (Or.inr (slot_ne (Or.inr (hw _ (List.mem_of_getElem? (i := 25) rfl))) (Or.inr (hw _ (List.mem_of_getElem? (i := 23) rfl))) (by decide) (t := (.object "java/lang/String")) (t' := .boolean) (by decide) (by decide)))) (((((E_a.wr W_2).wr W_3).wr W_4).wr W_5).wr W_6) (Or.inr ⟨(hw _ (List.mem_of_getElem? (i := 25) rfl)), rfl, hnm⟩) (hw _ (List.mem_of_getElem? (i := 1) rfl)) (ty := (.object "java/lang/String")) (by decide) rfl rfl (g := (mkF mM 35 #[.val (.ref a), .val (.int pw), .val (.long qb), .second, .val (.long qe), .second, .val (.long qv), .second, .val (.int pf), .val .null] [.null, (.ref a)])) rfl rfl (hb hby d_prog_9m1_35)
  have Fw_7 := (((((F_failure_a.other W_2 (Or.inr (slot_ne (Or.inr (hw _ (List.mem_of_getElem? (i := 25) rfl))) (Or.inr (hw _ (List.mem_of_getElem? (i := 15) rfl))) (by decide) (t := (.object "java/lang/String")) (t' := .boolean) (by decide) (by decide)))).other W_3 (Or.inr (slot_ne (Or.inr (hw _ (List.mem_of_getElem? (i := 25) rfl))) (Or.inr (hw _ (List.mem_of_getElem? (i := 17) rfl))) (by decide) (t := (.object "java/lang/String")) (t' := .long) (by decide) (by decide)))).other W_4 (Or.inr (slot_ne (Or.inr (hw _ (List.mem_of_getElem? (i := 25) rfl))) (Or.inr (hw _ (List.mem_of_getElem? (i := 19) rfl))) (by decide) (t := (.object "java/lang/String")) (t' := .long) (by decide) (by decide)))).other W_5 (Or.inr (slot_ne (Or.inr (hw _ (List.mem_of_getElem? (i := 25) rfl))) (Or.inr (hw _ (List.mem_of_getElem? (i := 21) rfl))) (by decide) (t := (.object "java/lang/String")) (t' := .long) (by decide) (by decide)))).other W_6 (Or.inr (slot_ne (Or.inr (hw _ (List.mem_of_getElem? (i := 25) rfl))) (Or.inr (hw _ (List.mem_of_getElem? (i := 23) rfl))) (by decide) (t := (.object "java/lang/String")) (t' := .boolean) (by decide) (by decide)))).same W_7
  have Z_7 : n0 ≤ h_7.size := (Nat.le_trans Z_6 (Keep.of_wr W_7).1)
  have K_7 : Keep h0 h_7 [a] := K_6.wr W_7 (Or.inl (List.mem_of_getElem? (i := 0) rfl))
  have N_7 := Fr.snoc X_7 N_6 g_a
  obtain ⟨fs, hr, hrun, hended, hW, hsame⟩ := X_7.leave (v := none) (fun _ => rfl)
  refine ⟨_, _, pre0 _ ?_, hrun, hended, _, _, rfl, ?_, ⟨_, rfl⟩, hW, hsame.mono (by decide) (by decide)⟩
  · show Steps pP.tables eE below (s₁.setTop (mkF mM 0 #[.val (.ref a), .val (.int pw), .val (.long qb), .second, .val (.long qe), .second, .val (.long qv), .second, .val (.int pf), .val .null] [])) _
    refine XS.aloadN X0.here hx rfl (hb hby d_prog_9m1_0) rfl rfl ?_
    show Steps pP.tables eE below (s₁.setTop (mkF mM 1 #[.val (.ref a), .val (.int pw), .val (.long qb), .second, .val (.long qe), .second, .val (.long qv), .second, .val (.int pf), .val .null] [(.ref a)])) _
    refine st_1.trans ?_
    show Steps pP.tables eE below (T_1.setTop (mkF mM 4 #[.val (.ref a), .val (.int pw), .val (.long qb), .second, .val (.long qe), .second, .val (.long qv), .second, .val (.int pf), .val .null] [])) _
    refine XS.aloadN X_1.here hx rfl (hb hby d_prog_9m1_4) rfl rfl ?_
    show Steps pP.tables eE below (T_1.setTop (mkF mM 5 #[.val (.ref a), .val (.int pw), .val (.long qb), .second, .val (.long qe), .second, .val (.long qv), .second, .val (.int pf), .val .null] [(.ref a)])) _
    refine XS.iloadN X_1.here hx rfl (hb hby d_prog_9m1_5) rfl ?_
    show Steps pP.tables eE below (T_1.setTop (mkF mM 6 #[.val (.ref a), .val (.int pw), .val (.long qb), .second, .val (.long qe), .second, .val (.long qv), .second, .val (.int pf), .val .null] [(.int pw), (.ref a)])) _
    refine st_2 _ ?_
    show Steps pP.tables eE below (T_2.setTop (mkF mM 9 #[.val (.ref a), .val (.int pw), .val (.long qb), .second, .val (.long qe), .second, .val (.long qv), .second, .val (.int pf), .val .null] [])) _
    refine XS.aloadN X_2.here hx rfl (hb hby d_prog_9m1_9) rfl rfl ?_
    show Steps pP.tables eE below (T_2.setTop (mkF mM 10 #[.val (.ref a), .val (.int pw), .val (.long qb), .second, .val (.long qe), .second, .val (.long qv), .second, .val (.int pf), .val .null] [(.ref a)])) _
    refine XT.lloadN X_2.here hx rfl (hb hby d_prog_9m1_10) rfl ?_
    show Steps pP.tables eE below (T_2.setTop (mkF mM 11 #[.val (.ref a), .val (.int pw), .val (.long qb), .second, .val (.long qe), .second, .val (.long qv), .second, .val (.int pf), .val .null] [(.long qb), (.ref a)])) _
    refine st_3 _ ?_
    show Steps pP.tables eE below (T_3.setTop (mkF mM 14 #[.val (.ref a), .val (.int pw), .val (.long qb), .second, .val (.long qe), .second, .val (.long qv), .second, .val (.int pf), .val .null] [])) _
    refine XS.aloadN X_3.here hx rfl (hb hby d_prog_9m1_14) rfl rfl ?_
    show Steps pP.tables eE below (T_3.setTop (mkF mM 15 #[.val (.ref a), .val (.int pw), .val (.long qb), .second, .val (.long qe), .second, .val (.long qv), .second, .val (.int pf), .val .null] [(.ref a)])) _
    refine XT.lload X_3.here hx rfl (hb hby d_prog_9m1_15) rfl ?_
    show Steps pP.tables eE below (T_3.setTop (mkF mM 17 #[.val (.ref a), .val (.int pw), .val (.long qb), .second, .val (.long qe), .second, .val (.long qv), .second, .val (.int pf), .val .null] [(.long qe), (.ref a)])) _
    refine st_4 _ ?_
    show Steps pP.tables eE below (T_4.setTop (mkF mM 20 #[.val (.ref a), .val (.int pw), .val (.long qb), .second, .val (.long qe), .second, .val (.long qv), .second, .val (.int pf), .val .null] [])) _
    refine XS.aloadN X_4.here hx rfl (hb hby d_prog_9m1_20) rfl rfl ?_
    show Steps pP.tables eE below (T_4.setTop (mkF mM 21 #[.val (.ref a), .val (.int pw), .val (.long qb), .second, .val (.long qe), .second, .val (.long qv), .second, .val (.int pf), .val .null] [(.ref a)])) _
    refine XT.lload X_4.here hx rfl (hb hby d_prog_9m1_21) rfl ?_
    show Steps pP.tables eE below (T_4.setTop (mkF mM 23 #[.val (.ref a), .val (.int pw), .val (.long qb), .second, .val (.long qe), .second, .val (.long qv), .second, .val (.int pf), .val .null] [(.long qv), (.ref a)])) _
    refine st_5 _ ?_
    show Steps pP.tables eE below (T_5.setTop (mkF mM 26 #[.val (.ref a), .val (.int pw), .val (.long qb), .second, .val (.long qe), .second, .val (.long qv), .second, .val (.int pf), .val .null] [])) _
    refine XS.aloadN X_5.here hx rfl (hb hby d_prog_9m1_26) rfl rfl ?_
    show Steps pP.tables eE below (T_5.setTop (mkF mM 27 #[.val (.ref a), .val (.int pw), .val (.long qb), .second, .val (.long qe), .second, .val (.long qv), .second, .val (.int pf), .val .null] [(.ref a)])) _
    refine XS.iload X_5.here hx rfl (hb hby d_prog_9m1_27) rfl ?_
    show Steps pP.tables eE below (T_5.setTop (mkF mM 29 #[.val (.ref a), .val (.int pw), .val (.long qb), .second, .val (.long qe), .second, .val (.long qv), .second, .val (.int pf), .val .null] [(.int pf), (.ref a)])) _
    refine st_6 _ ?_
    show Steps pP.tables eE below (T_6.setTop (mkF mM 32 #[.val (.ref a), .val (.int pw), .val (.long qb), .second, .val (.long qe), .second, .val (.long qv), .second, .val (.int pf), .val .null] [])) _
    refine XS.aloadN X_6.here hx rfl (hb hby d_prog_9m1_32) rfl rfl ?_
    show Steps pP.tables eE below (T_6.setTop (mkF mM 33 #[.val (.ref a), .val (.int pw), .val (.long qb), .second, .val (.long qe), .second, .val (.long qv), .second, .val (.int pf), .val .null] [(.ref a)])) _
    refine XS.aload X_6.here hx rfl (hb hby d_prog_9m1_33) rfl rfl ?_
    show Steps pP.tables eE below (T_6.setTop (mkF mM 35 #[.val (.ref a), .val (.int pw), .val (.long qb), .second, .val (.long qe), .second, .val (.long qv), .second, .val (.int pf), .val .null] [.null, (.ref a)])) _
    refine st_7 _ ?_
    show Steps pP.tables eE below (T_7.setTop (mkF mM 38 #[.val (.ref a), .val (.int pw), .val (.long qb), .second, .val (.long qe), .second, .val (.long qv), .second, .val (.int pf), .val .null] [])) _
    exact X_7.returnOut hx Bd.returns (hb hby d_prog_9m1_38) hr
  · show Q_opin Z a pw qb qe qv pf h0 n0 _ T_7.heap _
    rw [e_7]
    exact ⟨rfl, N_7, K_7, ((((Fw_3.other W_4 (Or.inr (slot_ne (Or.inr (hw _ (List.mem_of_getElem? (i := 17) rfl))) (Or.inr (hw _ (List.mem_of_getElem? (i := 19) rfl))) (by decide) (t := .long) (t' := .long) (by decide) (by decide)))).other W_5 (Or.inr (slot_ne (Or.inr (hw _ (List.mem_of_getElem? (i := 17) rfl))) (Or.inr (hw _ (List.mem_of_getElem? (i := 21) rfl))) (by decide) (t := .long) (t' := .long) (by decide) (by decide)))).other W_6 (Or.inr (slot_ne (Or.inr (hw _ (List.mem_of_getElem? (i := 17) rfl))) (Or.inr (hw _ (List.mem_of_getElem? (i := 23) rfl))) (by decide) (t := .long) (t' := .boolean) (by decide) (by decide)))).other W_7 (Or.inr (slot_ne (Or.inr (hw _ (List.mem_of_getElem? (i := 17) rfl))) (Or.inr (hw _ (List.mem_of_getElem? (i := 25) rfl))) (by decide) (t := .long) (t' := (.object "java/lang/String")) (by decide) (by decide)))), (((Fw_4.other W_5 (Or.inr (slot_ne (Or.inr (hw _ (List.mem_of_getElem? (i := 19) rfl))) (Or.inr (hw _ (List.mem_of_getElem? (i := 21) rfl))) (by decide) (t := .long) (t' := .long) (by decide) (by decide)))).other W_6 (Or.inr (slot_ne (Or.inr (hw _ (List.mem_of_getElem? (i := 19) rfl))) (Or.inr (hw _ (List.mem_of_getElem? (i := 23) rfl))) (by decide) (t := .long) (t' := .boolean) (by decide) (by decide)))).other W_7 (Or.inr (slot_ne (Or.inr (hw _ (List.mem_of_getElem? (i := 19) rfl))) (Or.inr (hw _ (List.mem_of_getElem? (i := 25) rfl))) (by decide) (t := .long) (t' := (.object "java/lang/String")) (by decide) (by decide)))), ((((((E_a.wr W_2).wr W_3).wr W_4).wr W_5).wr W_6).wr W_7)⟩
theorem d_prog_7m1_0 : decode prog_7_method_1_code 0 = .ok (.aload_n 0, 1) := by decide +kernel
theorem d_prog_7m1_1 : decode prog_7_method_1_code 1 = .ok (.invokespecial 1, 3) := by decide +kernel
theorem d_prog_7m1_4 : decode prog_7_method_1_code 4 = .ok (.aload_n 0, 1) := by decide +kernel
theorem d_prog_7m1_5 : decode prog_7_method_1_code 5 = .ok (.lload_n 1, 1) := by decide +kernel
theorem d_prog_7m1_6 : decode prog_7_method_1_code 6 = .ok (.putfield 7, 3) := by decide +kernel
theorem d_prog_7m1_9 : decode prog_7_method_1_code 9 = .ok (.aload_n 0, 1) := by decide +kernel
theorem d_prog_7m1_10 : decode prog_7_method_1_code 10 = .ok (.lload_n 3, 1) := by decide +kernel
theorem d_prog_7m1_11 : decode prog_7_method_1_code 11 = .ok (.putfield 13, 3) := by decide +kernel
theorem d_prog_7m1_14 : decode prog_7_method_1_code 14 = .ok (.return_, 1) := by decide +kernel
theorem pn_4 : plainName "com/example/rolling_rung/rollingrung/cli/BenchReport$Change" = true := by first | (simp [plainName, overriddenIn]; done) | decide +kernel
theorem ef_chi (mM : MethodId) (x0 : Addr) (x1 : Int64) (x2 : Int64) : entryFrame mM #[(.ref x0), (.long x1), (.long x2)] 5 = mkF mM 0 #[.val (.ref x0), .val (.long x1), .second, .val (.long x2), .second] [] := by first | (simp [entryFrame, mkF, argsToLocals, Value.category]; done) | rfl
def Q_chi (Z : State) (a : Addr) (q1 : Int64) (q2 : Int64) (h0 : Heap) (n0 : Nat) (v_ : Option Value) (h_ : Heap) (L_ : List Loc) : Prop := v_ = none ∧ Fr n0 L_ ∧ Keep h0 h_ [a] ∧ Fld Z h_ a "com/example/rolling_rung/rollingrung/cli/BenchReport$Change" "firstRung" "J" (.long q1) ∧ Fld Z h_ a "com/example/rolling_rung/rollingrung/cli/BenchReport$Change" "lastRung" "J" (.long q2) ∧ Exa Z h_ a "com/example/rolling_rung/rollingrung/cli/BenchReport$Change"
set_option maxRecDepth 65536 in
set_option maxHeartbeats 40000000 in
theorem rm_chi (l : Launch) (Z : State) (a0 : Array Value) (hw : ∀ d ∈ tables_1, d.before a0 Z = true) (ws : List Jvm.Cond) (a : Addr) (q1 : Int64) (q2 : Int64) (h0 : Heap) (n0 : Nat) (Z0 : n0 ≤ h0.size) (F_firstRung_a : Fld Z h0 a "com/example/rolling_rung/rollingrung/cli/BenchReport$Change" "firstRung" "J" (.long (0 : Int64))) (F_lastRung_a : Fld Z h0 a "com/example/rolling_rung/rollingrung/cli/BenchReport$Change" "lastRung" "J" (.long (0 : Int64))) (E_a : Exa Z h0 a "com/example/rolling_rung/rollingrung/cli/BenchReport$Change") (g_a : n0 ≤ a) :
    MetFree l (⟨"com/example/rolling_rung/rollingrung/cli/BenchReport$Change", "<init>", "(JJ)V"⟩ : MethodName) (head1 (Jvm.Cond.code (⟨"com/example/rolling_rung/rollingrung/cli/BenchReport$Change", "<init>", "(JJ)V"⟩ : MethodName) prog_7_method_1_code 5 none :: ws) ({ frames := 2, cells := 0, slots := 0, locals := 24 } : Room)) (fun aa_ U_ => aa_ = #[(.ref a), (.long q1), (.long q2)] ∧ Z.Warmed39 U_.vm ∧ U_.heap = h0) (fun _ _ _ _ _ => True) (fun _ U_ o_ U'_ => ∃ v_ L_, o_ = .returned v_ ∧ Q_chi Z a q1 q2 h0 n0 v_ U'_.heap L_ ∧ FrameEnd U_ o_ U'_ L_ ({ frames := 2, cells := 0, slots := 0, locals := 24 } : Room).cells ({ frames := 2, cells := 0, slots := 0, locals := 24 } : Room).slots) := by
  refine MetFree.of_bodySF (plainFor_of_name pn_4) hisR ?_
  intro pP eE sS mM argsA below meth cC s₁ Bd hml0 hP hK
  obtain ⟨rfl, hZ, hh⟩ := hP
  have hx := Bd.exec
  have hby := Bd.bytes
  have hml : cC.maxLocals = 5 := hml0
  have hown : sS.vm.findClass "com/example/rolling_rung/rollingrung/cli/BenchReport$Change" = some mM.cls := findClass_of_methodNamed Bd.named
  have hnm := (name_of_methodNamed Bd.named Bd.method).1
  have X0 : Stand pP l eE ({ frames := 2, cells := 0, slots := 0, locals := 24 } : Room) sS mM #[(.ref a), (.long q1), (.long q2)] below meth cC s₁ [] 0 0 := Stand.of_body Bd
  have e0 : s₁.heap = h0 := by rw [← hh, Bd.state]; rfl
  have N0 := Fr.nil n0
  have pre0 : ∀ t_, Steps pP.tables eE below (s₁.setTop (mkF mM 0 #[.val (.ref a), .val (.long q1), .second, .val (.long q2), .second] [])) t_ → Steps pP.tables eE below (s₁.setTop (entryFrame mM #[(.ref a), (.long q1), (.long q2)] 5)) t_ := fun t_ k_ => castTop (ef_chi mM a q1 q2) k_
  obtain ⟨_, _, ⟨T_1, L_1, k_1, n_1⟩, -, X_1, ⟨Lc_1, hQ_1, l_1, y_1, z_1⟩, st_1⟩ := X0.specialBack hx (y := (⟨"java/lang/Record", "<init>", "()V"⟩ : MethodName)) rfl hown (mvT hZ (hw _ (List.mem_of_getElem? (i := 32) rfl))) (mvT hZ (hw _ (List.mem_of_getElem? (i := 7) rfl))) (mvT hZ (hw _ (List.mem_of_getElem? (i := 10) rfl))) (by decide) (backOf (W := 0) (rm_rec l Z a0 hw [] a h0 n0 Z0 ) hZ (hw _ (List.mem_of_getElem? (i := 10) rfl)) (hw _ (List.mem_of_getElem? (i := 9) rfl)) (by decide) (by decide)) (g := (mkF mM 1 #[.val (.ref a), .val (.long q1), .second, .val (.long q2), .second] [(.ref a)])) rfl (by rw [hml]; rfl) (Steps.refl _) (a := a) (argsL := []) (rest := []) (lenOf pd_3 rfl) rfl (by show 2 * 0 + _ ≤ _; exact Nat.le_of_eq rfl) (hb hby d_prog_7m1_1) (fun _ _ => ⟨rfl, e0, (by decide : 0 + 0 ≤ _), (by decide : 0 + 0 ≤ _)⟩)
  dsimp only [Pt.U, Pt.locs, Pt.cells, Pt.slots] at X_1 l_1 y_1 z_1 st_1 hQ_1
  subst l_1 y_1 z_1
  obtain ⟨rfl, N_1q, eh_1⟩ := hQ_1
  have N_1 := Fr.app N0 N_1q
  obtain ⟨T_2, h_2, X_2, e_2, W_2, st_2⟩ := putF X_1 hx hZ hown (host := "") (Or.inl (hw _ (List.mem_of_getElem? (i := 33) rfl))) Via.refl eh_1 F_firstRung_a E_a (Or.inr ⟨(hw _ (List.mem_of_getElem? (i := 34) rfl)), rfl, hnm⟩) (hw _ (List.mem_of_getElem? (i := 27) rfl)) (ty := .long) (by decide) rfl rfl (g := (mkF mM 6 #[.val (.ref a), .val (.long q1), .second, .val (.long q2), .second] [(.long q1), (.ref a)])) rfl rfl (hb hby d_prog_7m1_6)
  have Fw_2 := F_firstRung_a.same W_2
  have Z_2 : n0 ≤ h_2.size := (Nat.le_trans Z0 (Keep.of_wr W_2).1)
  have K_2 : Keep h0 h_2 [a] := (Keep.refl h0 [a]).wr W_2 (Or.inl (List.mem_of_getElem? (i := 0) rfl))
  have N_2 := Fr.snoc X_2 N_1 g_a
  obtain ⟨T_3, h_3, X_3, e_3, W_3, st_3⟩ := putF X_2 hx hZ hown (host := "") (Or.inl (hw _ (List.mem_of_getElem? (i := 35) rfl))) Via.refl e_2 (F_lastRung_a.other W_2 (Or.inr (slot_ne (Or.inr (hw _ (List.mem_of_getElem? (i := 36) rfl))) (Or.inr (hw _ (List.mem_of_getElem? (i := 34) rfl))) (by decide) (t := .long) (t' := .long) (by decide) (by decide)))) (E_a.wr W_2) (Or.inr ⟨(hw _ (List.mem_of_getElem? (i := 36) rfl)), rfl, hnm⟩) (hw _ (List.mem_of_getElem? (i := 27) rfl)) (ty := .long) (by decide) rfl rfl (g := (mkF mM 11 #[.val (.ref a), .val (.long q1), .second, .val (.long q2), .second] [(.long q2), (.ref a)])) rfl rfl (hb hby d_prog_7m1_11)
  have Fw_3 := (F_lastRung_a.other W_2 (Or.inr (slot_ne (Or.inr (hw _ (List.mem_of_getElem? (i := 36) rfl))) (Or.inr (hw _ (List.mem_of_getElem? (i := 34) rfl))) (by decide) (t := .long) (t' := .long) (by decide) (by decide)))).same W_3
  have Z_3 : n0 ≤ h_3.size := (Nat.le_trans Z_2 (Keep.of_wr W_3).1)
  have K_3 : Keep h0 h_3 [a] := K_2.wr W_3 (Or.inl (List.mem_of_getElem? (i := 0) rfl))
  have N_3 := Fr.snoc X_3 N_2 g_a
  obtain ⟨fs, hr, hrun, hended, hW, hsame⟩ := X_3.leave (v := none) (fun _ => rfl)
  refine ⟨_, _, pre0 _ ?_, hrun, hended, _, _, rfl, ?_, ⟨_, rfl⟩, hW, hsame.mono (by decide) (by decide)⟩
  · show Steps pP.tables eE below (s₁.setTop (mkF mM 0 #[.val (.ref a), .val (.long q1), .second, .val (.long q2), .second] [])) _
    refine XS.aloadN X0.here hx rfl (hb hby d_prog_7m1_0) rfl rfl ?_
    show Steps pP.tables eE below (s₁.setTop (mkF mM 1 #[.val (.ref a), .val (.long q1), .second, .val (.long q2), .second] [(.ref a)])) _
    refine st_1.trans ?_
    show Steps pP.tables eE below (T_1.setTop (mkF mM 4 #[.val (.ref a), .val (.long q1), .second, .val (.long q2), .second] [])) _
    refine XS.aloadN X_1.here hx rfl (hb hby d_prog_7m1_4) rfl rfl ?_
    show Steps pP.tables eE below (T_1.setTop (mkF mM 5 #[.val (.ref a), .val (.long q1), .second, .val (.long q2), .second] [(.ref a)])) _
    refine XT.lloadN X_1.here hx rfl (hb hby d_prog_7m1_5) rfl ?_
    show Steps pP.tables eE below (T_1.setTop (mkF mM 6 #[.val (.ref a), .val (.long q1), .second, .val (.long q2), .second] [(.long q1), (.ref a)])) _
    refine st_2 _ ?_
    show Steps pP.tables eE below (T_2.setTop (mkF mM 9 #[.val (.ref a), .val (.long q1), .second, .val (.long q2), .second] [])) _
    refine XS.aloadN X_2.here hx rfl (hb hby d_prog_7m1_9) rfl rfl ?_
    show Steps pP.tables eE below (T_2.setTop (mkF mM 10 #[.val (.ref a), .val (.long q1), .second, .val (.long q2), .second] [(.ref a)])) _
    refine XT.lloadN X_2.here hx rfl (hb hby d_prog_7m1_10) rfl ?_
    show Steps pP.tables eE below (T_2.setTop (mkF mM 11 #[.val (.ref a), .val (.long q1), .second, .val (.long q2), .second] [(.long q2), (.ref a)])) _
    refine st_3 _ ?_
    show Steps pP.tables eE below (T_3.setTop (mkF mM 14 #[.val (.ref a), .val (.long q1), .second, .val (.long q2), .second] [])) _
    exact X_3.returnOut hx Bd.returns (hb hby d_prog_7m1_14) hr
  · show Q_chi Z a q1 q2 h0 n0 _ T_3.heap _
    rw [e_3]
    exact ⟨rfl, N_3, K_3, (Fw_2.other W_3 (Or.inr (slot_ne (Or.inr (hw _ (List.mem_of_getElem? (i := 34) rfl))) (Or.inr (hw _ (List.mem_of_getElem? (i := 36) rfl))) (by decide) (t := .long) (t' := .long) (by decide) (by decide)))), Fw_3, ((E_a.wr W_2).wr W_3)⟩
def Q_max (Z : State) (x : Int64) (y : Int64) (h0 : Heap) (n0 : Nat) (v_ : Option Value) (h_ : Heap) (L_ : List Loc) : Prop := v_ = some (.long (own_maxL x y)) ∧ Fr n0 L_ ∧ h_ = h0
theorem d_jdk_29m66_0 : decode jdk_29_method_66_code 0 = .ok (.lload_n 0, 1) := by decide +kernel
theorem d_jdk_29m66_1 : decode jdk_29_method_66_code 1 = .ok (.lload_n 2, 1) := by decide +kernel
theorem d_jdk_29m66_2 : decode jdk_29_method_66_code 2 = .ok (.lcmp, 1) := by decide +kernel
theorem d_jdk_29m66_3 : decode jdk_29_method_66_code 3 = .ok (.ifCond .lt 7, 3) := by decide +kernel
theorem d_jdk_29m66_10 : decode jdk_29_method_66_code 10 = .ok (.lload_n 2, 1) := by decide +kernel
theorem d_jdk_29m66_11 : decode jdk_29_method_66_code 11 = .ok (.lreturn, 1) := by decide +kernel
theorem ef_maxA (mM : MethodId) (x0 : Int64) (x1 : Int64) : entryFrame mM #[(.long x0), (.long x1)] 4 = mkF mM 0 #[.val (.long x0), .second, .val (.long x1), .second] [] := by first | (simp [entryFrame, mkF, argsToLocals, Value.category]; done) | rfl
set_option maxRecDepth 65536 in
set_option maxHeartbeats 40000000 in
theorem rm_maxA (l : Launch) (Z : State) (a0 : Array Value) (hw : ∀ d ∈ tables_1, d.before a0 Z = true) (ws : List Jvm.Cond) (x : Int64) (y : Int64) (h0 : Heap) (n0 : Nat) (Z0 : n0 ≤ h0.size) (h1 : x < y) :
    MetFree l (⟨"java/lang/Math", "max", "(JJ)J"⟩ : MethodName) (head1 (Jvm.Cond.code (⟨"java/lang/Math", "max", "(JJ)J"⟩ : MethodName) jdk_29_method_66_code 4 (some .long) :: ws) ({ frames := 0, cells := 0, slots := 0, locals := 0 } : Room)) (fun aa_ U_ => aa_ = #[(.long x), (.long y)] ∧ Z.Warmed39 U_.vm ∧ U_.heap = h0) (fun _ _ _ _ _ => True) (fun _ U_ o_ U'_ => ∃ v_ L_, o_ = .returned v_ ∧ Q_max Z x y h0 n0 v_ U'_.heap L_ ∧ FrameEnd U_ o_ U'_ L_ ({ frames := 0, cells := 0, slots := 0, locals := 0 } : Room).cells ({ frames := 0, cells := 0, slots := 0, locals := 0 } : Room).slots) := by
  refine MetFree.of_bodySF (Jvm.Free.JP.mathPlain rfl (by decide +kernel)) hisR ?_
  intro pP eE sS mM argsA below meth cC s₁ Bd hml0 hP hK
  obtain ⟨rfl, hZ, hh⟩ := hP
  have hx := Bd.exec
  have hby := Bd.bytes
  have hml : cC.maxLocals = 4 := hml0
  have hown : sS.vm.findClass "java/lang/Math" = some mM.cls := findClass_of_methodNamed Bd.named
  have hnm := (name_of_methodNamed Bd.named Bd.method).1
  have X0 : Stand pP l eE ({ frames := 0, cells := 0, slots := 0, locals := 0 } : Room) sS mM #[(.long x), (.long y)] below meth cC s₁ [] 0 0 := Stand.of_body Bd
  have e0 : s₁.heap = h0 := by rw [← hh, Bd.state]; rfl
  have N0 := Fr.nil n0
  have pre0 : ∀ t_, Steps pP.tables eE below (s₁.setTop (mkF mM 0 #[.val (.long x), .second, .val (.long y), .second] [])) t_ → Steps pP.tables eE below (s₁.setTop (entryFrame mM #[(.long x), (.long y)] 4)) t_ := fun t_ k_ => castTop (ef_maxA mM x y) k_
  obtain ⟨fs, hr, hrun, hended, hW, hsame⟩ := X0.leave (v := some (.long y)) (fun h => by rw [Bd.returns] at h; cases h)
  refine ⟨_, _, pre0 _ ?_, hrun, hended, _, _, rfl, ?_, ⟨_, rfl⟩, hW, hsame.mono (by decide) (by decide)⟩
  · show Steps pP.tables eE below (s₁.setTop (mkF mM 0 #[.val (.long x), .second, .val (.long y), .second] [])) _
    refine XT.lloadN X0.here hx rfl (hb hby d_jdk_29m66_0) rfl ?_
    show Steps pP.tables eE below (s₁.setTop (mkF mM 1 #[.val (.long x), .second, .val (.long y), .second] [(.long x)])) _
    refine XT.lloadN X0.here hx rfl (hb hby d_jdk_29m66_1) rfl ?_
    show Steps pP.tables eE below (s₁.setTop (mkF mM 2 #[.val (.long x), .second, .val (.long y), .second] [(.long y), (.long x)])) _
    refine XT.lcmp X0.here hx rfl (hb hby d_jdk_29m66_2) rfl ?_
    show Steps pP.tables eE below (s₁.setTop (mkF mM 3 #[.val (.long x), .second, .val (.long y), .second] [(.int (XT.cmpL x y))])) _
    refine XS.ifYes X0.here hx rfl (pc0 := 3) (pc' := 10) rfl (hb hby d_jdk_29m66_3) rfl (XT.ll_lt_t h1) (by decide) (by decide) ?_
    show Steps pP.tables eE below (s₁.setTop (mkF mM 10 #[.val (.long x), .second, .val (.long y), .second] [])) _
    refine XT.lloadN X0.here hx rfl (hb hby d_jdk_29m66_10) rfl ?_
    show Steps pP.tables eE below (s₁.setTop (mkF mM 11 #[.val (.long x), .second, .val (.long y), .second] [(.long y)])) _
    exact X0.lreturnOut hx Bd.returns (hb hby d_jdk_29m66_11) hr
  · show Q_max Z x y h0 n0 _ s₁.heap _
    rw [e0]
    exact ⟨(congrArg (fun z => some (Value.long z)) (if_pos h1).symm), N0, rfl⟩
theorem d_jdk_29m66_6 : decode jdk_29_method_66_code 6 = .ok (.lload_n 0, 1) := by decide +kernel
theorem d_jdk_29m66_7 : decode jdk_29_method_66_code 7 = .ok (.goto 4, 3) := by decide +kernel
theorem ef_maxB (mM : MethodId) (x0 : Int64) (x1 : Int64) : entryFrame mM #[(.long x0), (.long x1)] 4 = mkF mM 0 #[.val (.long x0), .second, .val (.long x1), .second] [] := by first | (simp [entryFrame, mkF, argsToLocals, Value.category]; done) | rfl
set_option maxRecDepth 65536 in
set_option maxHeartbeats 40000000 in
theorem rm_maxB (l : Launch) (Z : State) (a0 : Array Value) (hw : ∀ d ∈ tables_1, d.before a0 Z = true) (ws : List Jvm.Cond) (x : Int64) (y : Int64) (h0 : Heap) (n0 : Nat) (Z0 : n0 ≤ h0.size) (h1 : ¬ x < y) :
    MetFree l (⟨"java/lang/Math", "max", "(JJ)J"⟩ : MethodName) (head1 (Jvm.Cond.code (⟨"java/lang/Math", "max", "(JJ)J"⟩ : MethodName) jdk_29_method_66_code 4 (some .long) :: ws) ({ frames := 0, cells := 0, slots := 0, locals := 0 } : Room)) (fun aa_ U_ => aa_ = #[(.long x), (.long y)] ∧ Z.Warmed39 U_.vm ∧ U_.heap = h0) (fun _ _ _ _ _ => True) (fun _ U_ o_ U'_ => ∃ v_ L_, o_ = .returned v_ ∧ Q_max Z x y h0 n0 v_ U'_.heap L_ ∧ FrameEnd U_ o_ U'_ L_ ({ frames := 0, cells := 0, slots := 0, locals := 0 } : Room).cells ({ frames := 0, cells := 0, slots := 0, locals := 0 } : Room).slots) := by
  refine MetFree.of_bodySF (Jvm.Free.JP.mathPlain rfl (by decide +kernel)) hisR ?_
  intro pP eE sS mM argsA below meth cC s₁ Bd hml0 hP hK
  obtain ⟨rfl, hZ, hh⟩ := hP
  have hx := Bd.exec
  have hby := Bd.bytes
  have hml : cC.maxLocals = 4 := hml0
  have hown : sS.vm.findClass "java/lang/Math" = some mM.cls := findClass_of_methodNamed Bd.named
  have hnm := (name_of_methodNamed Bd.named Bd.method).1
  have X0 : Stand pP l eE ({ frames := 0, cells := 0, slots := 0, locals := 0 } : Room) sS mM #[(.long x), (.long y)] below meth cC s₁ [] 0 0 := Stand.of_body Bd
  have e0 : s₁.heap = h0 := by rw [← hh, Bd.state]; rfl
  have N0 := Fr.nil n0
  have pre0 : ∀ t_, Steps pP.tables eE below (s₁.setTop (mkF mM 0 #[.val (.long x), .second, .val (.long y), .second] [])) t_ → Steps pP.tables eE below (s₁.setTop (entryFrame mM #[(.long x), (.long y)] 4)) t_ := fun t_ k_ => castTop (ef_maxB mM x y) k_
  obtain ⟨fs, hr, hrun, hended, hW, hsame⟩ := X0.leave (v := some (.long x)) (fun h => by rw [Bd.returns] at h; cases h)
  refine ⟨_, _, pre0 _ ?_, hrun, hended, _, _, rfl, ?_, ⟨_, rfl⟩, hW, hsame.mono (by decide) (by decide)⟩
  · show Steps pP.tables eE below (s₁.setTop (mkF mM 0 #[.val (.long x), .second, .val (.long y), .second] [])) _
    refine XT.lloadN X0.here hx rfl (hb hby d_jdk_29m66_0) rfl ?_
    show Steps pP.tables eE below (s₁.setTop (mkF mM 1 #[.val (.long x), .second, .val (.long y), .second] [(.long x)])) _
    refine XT.lloadN X0.here hx rfl (hb hby d_jdk_29m66_1) rfl ?_
    show Steps pP.tables eE below (s₁.setTop (mkF mM 2 #[.val (.long x), .second, .val (.long y), .second] [(.long y), (.long x)])) _
    refine XT.lcmp X0.here hx rfl (hb hby d_jdk_29m66_2) rfl ?_
    show Steps pP.tables eE below (s₁.setTop (mkF mM 3 #[.val (.long x), .second, .val (.long y), .second] [(.int (XT.cmpL x y))])) _
    refine XS.ifNo X0.here hx rfl (hb hby d_jdk_29m66_3) rfl (XT.ll_lt_f h1) ?_
    show Steps pP.tables eE below (s₁.setTop (mkF mM 6 #[.val (.long x), .second, .val (.long y), .second] [])) _
    refine XT.lloadN X0.here hx rfl (hb hby d_jdk_29m66_6) rfl ?_
    show Steps pP.tables eE below (s₁.setTop (mkF mM 7 #[.val (.long x), .second, .val (.long y), .second] [(.long x)])) _
    refine XS.goto X0.here hx rfl (pc0 := 7) (pc' := 11) rfl (hb hby d_jdk_29m66_7) (by decide) (by decide) ?_
    show Steps pP.tables eE below (s₁.setTop (mkF mM 11 #[.val (.long x), .second, .val (.long y), .second] [(.long x)])) _
    exact X0.lreturnOut hx Bd.returns (hb hby d_jdk_29m66_11) hr
  · show Q_max Z x y h0 n0 _ s₁.heap _
    rw [e0]
    exact ⟨(congrArg (fun z => some (Value.long z)) (if_neg h1).symm), N0, rfl⟩
set_option maxRecDepth 65536 in
set_option maxHeartbeats 40000000 in
theorem rm_max (l : Launch) (Z : State) (a0 : Array Value) (hw : ∀ d ∈ tables_1, d.before a0 Z = true) (ws : List Jvm.Cond) (x : Int64) (y : Int64) (h0 : Heap) (n0 : Nat) (Z0 : n0 ≤ h0.size) :
    MetFree l (⟨"java/lang/Math", "max", "(JJ)J"⟩ : MethodName) (head1 (Jvm.Cond.code (⟨"java/lang/Math", "max", "(JJ)J"⟩ : MethodName) jdk_29_method_66_code 4 (some .long) :: ws) ({ frames := 0, cells := 0, slots := 0, locals := 0 } : Room)) (fun aa_ U_ => aa_ = #[(.long x), (.long y)] ∧ Z.Warmed39 U_.vm ∧ U_.heap = h0) (fun _ _ _ _ _ => True) (fun _ U_ o_ U'_ => ∃ v_ L_, o_ = .returned v_ ∧ Q_max Z x y h0 n0 v_ U'_.heap L_ ∧ FrameEnd U_ o_ U'_ L_ ({ frames := 0, cells := 0, slots := 0, locals := 0 } : Room).cells ({ frames := 0, cells := 0, slots := 0, locals := 0 } : Room).slots) := by
  by_cases h1 : x < y
  · exact rm_maxA l Z a0 hw ws x y h0 n0 Z0 h1
  · exact rm_maxB l Z a0 hw ws x y h0 n0 Z0 h1
def Q_min (Z : State) (x : Int64) (y : Int64) (h0 : Heap) (n0 : Nat) (v_ : Option Value) (h_ : Heap) (L_ : List Loc) : Prop := v_ = some (.long (own_minL x y)) ∧ Fr n0 L_ ∧ h_ = h0
theorem d_jdk_29m70_0 : decode jdk_29_method_70_code 0 = .ok (.lload_n 0, 1) := by decide +kernel
theorem d_jdk_29m70_1 : decode jdk_29_method_70_code 1 = .ok (.lload_n 2, 1) := by decide +kernel
theorem d_jdk_29m70_2 : decode jdk_29_method_70_code 2 = .ok (.lcmp, 1) := by decide +kernel
theorem d_jdk_29m70_3 : decode jdk_29_method_70_code 3 = .ok (.ifCond .gt 7, 3) := by decide +kernel
theorem d_jdk_29m70_10 : decode jdk_29_method_70_code 10 = .ok (.lload_n 2, 1) := by decide +kernel
theorem d_jdk_29m70_11 : decode jdk_29_method_70_code 11 = .ok (.lreturn, 1) := by decide +kernel
theorem ef_minA (mM : MethodId) (x0 : Int64) (x1 : Int64) : entryFrame mM #[(.long x0), (.long x1)] 4 = mkF mM 0 #[.val (.long x0), .second, .val (.long x1), .second] [] := by first | (simp [entryFrame, mkF, argsToLocals, Value.category]; done) | rfl
set_option maxRecDepth 65536 in
set_option maxHeartbeats 40000000 in
theorem rm_minA (l : Launch) (Z : State) (a0 : Array Value) (hw : ∀ d ∈ tables_1, d.before a0 Z = true) (ws : List Jvm.Cond) (x : Int64) (y : Int64) (h0 : Heap) (n0 : Nat) (Z0 : n0 ≤ h0.size) (h1 : y < x) :
    MetFree l (⟨"java/lang/Math", "min", "(JJ)J"⟩ : MethodName) (head1 (Jvm.Cond.code (⟨"java/lang/Math", "min", "(JJ)J"⟩ : MethodName) jdk_29_method_70_code 4 (some .long) :: ws) ({ frames := 0, cells := 0, slots := 0, locals := 0 } : Room)) (fun aa_ U_ => aa_ = #[(.long x), (.long y)] ∧ Z.Warmed39 U_.vm ∧ U_.heap = h0) (fun _ _ _ _ _ => True) (fun _ U_ o_ U'_ => ∃ v_ L_, o_ = .returned v_ ∧ Q_min Z x y h0 n0 v_ U'_.heap L_ ∧ FrameEnd U_ o_ U'_ L_ ({ frames := 0, cells := 0, slots := 0, locals := 0 } : Room).cells ({ frames := 0, cells := 0, slots := 0, locals := 0 } : Room).slots) := by
  refine MetFree.of_bodySF (Jvm.Free.JP.mathPlain rfl (by decide +kernel)) hisR ?_
  intro pP eE sS mM argsA below meth cC s₁ Bd hml0 hP hK
  obtain ⟨rfl, hZ, hh⟩ := hP
  have hx := Bd.exec
  have hby := Bd.bytes
  have hml : cC.maxLocals = 4 := hml0
  have hown : sS.vm.findClass "java/lang/Math" = some mM.cls := findClass_of_methodNamed Bd.named
  have hnm := (name_of_methodNamed Bd.named Bd.method).1
  have X0 : Stand pP l eE ({ frames := 0, cells := 0, slots := 0, locals := 0 } : Room) sS mM #[(.long x), (.long y)] below meth cC s₁ [] 0 0 := Stand.of_body Bd
  have e0 : s₁.heap = h0 := by rw [← hh, Bd.state]; rfl
  have N0 := Fr.nil n0
  have pre0 : ∀ t_, Steps pP.tables eE below (s₁.setTop (mkF mM 0 #[.val (.long x), .second, .val (.long y), .second] [])) t_ → Steps pP.tables eE below (s₁.setTop (entryFrame mM #[(.long x), (.long y)] 4)) t_ := fun t_ k_ => castTop (ef_minA mM x y) k_
  obtain ⟨fs, hr, hrun, hended, hW, hsame⟩ := X0.leave (v := some (.long y)) (fun h => by rw [Bd.returns] at h; cases h)
  refine ⟨_, _, pre0 _ ?_, hrun, hended, _, _, rfl, ?_, ⟨_, rfl⟩, hW, hsame.mono (by decide) (by decide)⟩
  · show Steps pP.tables eE below (s₁.setTop (mkF mM 0 #[.val (.long x), .second, .val (.long y), .second] [])) _
    refine XT.lloadN X0.here hx rfl (hb hby d_jdk_29m70_0) rfl ?_
    show Steps pP.tables eE below (s₁.setTop (mkF mM 1 #[.val (.long x), .second, .val (.long y), .second] [(.long x)])) _
    refine XT.lloadN X0.here hx rfl (hb hby d_jdk_29m70_1) rfl ?_
    show Steps pP.tables eE below (s₁.setTop (mkF mM 2 #[.val (.long x), .second, .val (.long y), .second] [(.long y), (.long x)])) _
    refine XT.lcmp X0.here hx rfl (hb hby d_jdk_29m70_2) rfl ?_
    show Steps pP.tables eE below (s₁.setTop (mkF mM 3 #[.val (.long x), .second, .val (.long y), .second] [(.int (XT.cmpL x y))])) _
    refine XS.ifYes X0.here hx rfl (pc0 := 3) (pc' := 10) rfl (hb hby d_jdk_29m70_3) rfl (XT.ll_gt_t h1) (by decide) (by decide) ?_
    show Steps pP.tables eE below (s₁.setTop (mkF mM 10 #[.val (.long x), .second, .val (.long y), .second] [])) _
    refine XT.lloadN X0.here hx rfl (hb hby d_jdk_29m70_10) rfl ?_
    show Steps pP.tables eE below (s₁.setTop (mkF mM 11 #[.val (.long x), .second, .val (.long y), .second] [(.long y)])) _
    exact X0.lreturnOut hx Bd.returns (hb hby d_jdk_29m70_11) hr
  · show Q_min Z x y h0 n0 _ s₁.heap _
    rw [e0]
    exact ⟨(congrArg (fun z => some (Value.long z)) (if_pos h1).symm), N0, rfl⟩
theorem d_jdk_29m70_6 : decode jdk_29_method_70_code 6 = .ok (.lload_n 0, 1) := by decide +kernel
theorem d_jdk_29m70_7 : decode jdk_29_method_70_code 7 = .ok (.goto 4, 3) := by decide +kernel
theorem ef_minB (mM : MethodId) (x0 : Int64) (x1 : Int64) : entryFrame mM #[(.long x0), (.long x1)] 4 = mkF mM 0 #[.val (.long x0), .second, .val (.long x1), .second] [] := by first | (simp [entryFrame, mkF, argsToLocals, Value.category]; done) | rfl
set_option maxRecDepth 65536 in
set_option maxHeartbeats 40000000 in
theorem rm_minB (l : Launch) (Z : State) (a0 : Array Value) (hw : ∀ d ∈ tables_1, d.before a0 Z = true) (ws : List Jvm.Cond) (x : Int64) (y : Int64) (h0 : Heap) (n0 : Nat) (Z0 : n0 ≤ h0.size) (h1 : ¬ y < x) :
    MetFree l (⟨"java/lang/Math", "min", "(JJ)J"⟩ : MethodName) (head1 (Jvm.Cond.code (⟨"java/lang/Math", "min", "(JJ)J"⟩ : MethodName) jdk_29_method_70_code 4 (some .long) :: ws) ({ frames := 0, cells := 0, slots := 0, locals := 0 } : Room)) (fun aa_ U_ => aa_ = #[(.long x), (.long y)] ∧ Z.Warmed39 U_.vm ∧ U_.heap = h0) (fun _ _ _ _ _ => True) (fun _ U_ o_ U'_ => ∃ v_ L_, o_ = .returned v_ ∧ Q_min Z x y h0 n0 v_ U'_.heap L_ ∧ FrameEnd U_ o_ U'_ L_ ({ frames := 0, cells := 0, slots := 0, locals := 0 } : Room).cells ({ frames := 0, cells := 0, slots := 0, locals := 0 } : Room).slots) := by
  refine MetFree.of_bodySF (Jvm.Free.JP.mathPlain rfl (by decide +kernel)) hisR ?_
  intro pP eE sS mM argsA below meth cC s₁ Bd hml0 hP hK
  obtain ⟨rfl, hZ, hh⟩ := hP
  have hx := Bd.exec
  have hby := Bd.bytes
  have hml : cC.maxLocals = 4 := hml0
  have hown : sS.vm.findClass "java/lang/Math" = some mM.cls := findClass_of_methodNamed Bd.named
  have hnm := (name_of_methodNamed Bd.named Bd.method).1
  have X0 : Stand pP l eE ({ frames := 0, cells := 0, slots := 0, locals := 0 } : Room) sS mM #[(.long x), (.long y)] below meth cC s₁ [] 0 0 := Stand.of_body Bd
  have e0 : s₁.heap = h0 := by rw [← hh, Bd.state]; rfl
  have N0 := Fr.nil n0
  have pre0 : ∀ t_, Steps pP.tables eE below (s₁.setTop (mkF mM 0 #[.val (.long x), .second, .val (.long y), .second] [])) t_ → Steps pP.tables eE below (s₁.setTop (entryFrame mM #[(.long x), (.long y)] 4)) t_ := fun t_ k_ => castTop (ef_minB mM x y) k_
  obtain ⟨fs, hr, hrun, hended, hW, hsame⟩ := X0.leave (v := some (.long x)) (fun h => by rw [Bd.returns] at h; cases h)
  refine ⟨_, _, pre0 _ ?_, hrun, hended, _, _, rfl, ?_, ⟨_, rfl⟩, hW, hsame.mono (by decide) (by decide)⟩
  · show Steps pP.tables eE below (s₁.setTop (mkF mM 0 #[.val (.long x), .second, .val (.long y), .second] [])) _
    refine XT.lloadN X0.here hx rfl (hb hby d_jdk_29m70_0) rfl ?_
    show Steps pP.tables eE below (s₁.setTop (mkF mM 1 #[.val (.long x), .second, .val (.long y), .second] [(.long x)])) _
    refine XT.lloadN X0.here hx rfl (hb hby d_jdk_29m70_1) rfl ?_
    show Steps pP.tables eE below (s₁.setTop (mkF mM 2 #[.val (.long x), .second, .val (.long y), .second] [(.long y), (.long x)])) _
    refine XT.lcmp X0.here hx rfl (hb hby d_jdk_29m70_2) rfl ?_
    show Steps pP.tables eE below (s₁.setTop (mkF mM 3 #[.val (.long x), .second, .val (.long y), .second] [(.int (XT.cmpL x y))])) _
    refine XS.ifNo X0.here hx rfl (hb hby d_jdk_29m70_3) rfl (XT.ll_gt_f h1) ?_
    show Steps pP.tables eE below (s₁.setTop (mkF mM 6 #[.val (.long x), .second, .val (.long y), .second] [])) _
    refine XT.lloadN X0.here hx rfl (hb hby d_jdk_29m70_6) rfl ?_
    show Steps pP.tables eE below (s₁.setTop (mkF mM 7 #[.val (.long x), .second, .val (.long y), .second] [(.long x)])) _
    refine XS.goto X0.here hx rfl (pc0 := 7) (pc' := 11) rfl (hb hby d_jdk_29m70_7) (by decide) (by decide) ?_
    show Steps pP.tables eE below (s₁.setTop (mkF mM 11 #[.val (.long x), .second, .val (.long y), .second] [(.long x)])) _
    exact X0.lreturnOut hx Bd.returns (hb hby d_jdk_29m70_11) hr
  · show Q_min Z x y h0 n0 _ s₁.heap _
    rw [e0]
    exact ⟨(congrArg (fun z => some (Value.long z)) (if_neg h1).symm), N0, rfl⟩
set_option maxRecDepth 65536 in
set_option maxHeartbeats 40000000 in
theorem rm_min (l : Launch) (Z : State) (a0 : Array Value) (hw : ∀ d ∈ tables_1, d.before a0 Z = true) (ws : List Jvm.Cond) (x : Int64) (y : Int64) (h0 : Heap) (n0 : Nat) (Z0 : n0 ≤ h0.size) :
    MetFree l (⟨"java/lang/Math", "min", "(JJ)J"⟩ : MethodName) (head1 (Jvm.Cond.code (⟨"java/lang/Math", "min", "(JJ)J"⟩ : MethodName) jdk_29_method_70_code 4 (some .long) :: ws) ({ frames := 0, cells := 0, slots := 0, locals := 0 } : Room)) (fun aa_ U_ => aa_ = #[(.long x), (.long y)] ∧ Z.Warmed39 U_.vm ∧ U_.heap = h0) (fun _ _ _ _ _ => True) (fun _ U_ o_ U'_ => ∃ v_ L_, o_ = .returned v_ ∧ Q_min Z x y h0 n0 v_ U'_.heap L_ ∧ FrameEnd U_ o_ U'_ L_ ({ frames := 0, cells := 0, slots := 0, locals := 0 } : Room).cells ({ frames := 0, cells := 0, slots := 0, locals := 0 } : Room).slots) := by
  by_cases h1 : y < x
  · exact rm_minA l Z a0 hw ws x y h0 n0 Z0 h1
  · exact rm_minB l Z a0 hw ws x y h0 n0 Z0 h1
theorem d_prog_9m6_0 : decode prog_9_method_6_code 0 = .ok (.aload_n 0, 1) := by decide +kernel
theorem d_prog_9m6_1 : decode prog_9_method_6_code 1 = .ok (.getfield 13, 3) := by decide +kernel
theorem d_prog_9m6_4 : decode prog_9_method_6_code 4 = .ok (.lreturn, 1) := by decide +kernel
theorem ef_began (mM : MethodId) (x0 : Addr) : entryFrame mM #[(.ref x0)] 1 = mkF mM 0 #[.val (.ref x0)] [] := by first | (simp [entryFrame, mkF, argsToLocals, Value.category]; done) | rfl
def Q_began (Z : State) (a : Addr) (q : Int64) (h0 : Heap) (n0 : Nat) (v_ : Option Value) (h_ : Heap) (L_ : List Loc) : Prop := v_ = some (.long q) ∧ Fr n0 L_ ∧ h_ = h0
set_option maxRecDepth 65536 in
set_option maxHeartbeats 40000000 in
theorem rm_began (l : Launch) (Z : State) (a0 : Array Value) (hw : ∀ d ∈ tables_1, d.before a0 Z = true) (ws : List Jvm.Cond) (a : Addr) (q : Int64) (h0 : Heap) (n0 : Nat) (Z0 : n0 ≤ h0.size) (F_began_a : Fld Z h0 a "com/example/rolling_rung/rollingrung/cli/BenchReport$Operation" "began" "J" (.long q)) :
    MetFree l (⟨"com/example/rolling_rung/rollingrung/cli/BenchReport$Operation", "began", "()J"⟩ : MethodName) (head1 (Jvm.Cond.code (⟨"com/example/rolling_rung/rollingrung/cli/BenchReport$Operation", "began", "()J"⟩ : MethodName) prog_9_method_6_code 1 (some .long) :: ws) ({ frames := 0, cells := 0, slots := 0, locals := 0 } : Room)) (fun aa_ U_ => aa_ = #[(.ref a)] ∧ Z.Warmed39 U_.vm ∧ U_.heap = h0) (fun _ _ _ _ _ => True) (fun _ U_ o_ U'_ => ∃ v_ L_, o_ = .returned v_ ∧ Q_began Z a q h0 n0 v_ U'_.heap L_ ∧ FrameEnd U_ o_ U'_ L_ ({ frames := 0, cells := 0, slots := 0, locals := 0 } : Room).cells ({ frames := 0, cells := 0, slots := 0, locals := 0 } : Room).slots) := by
  refine MetFree.of_bodySF (plainFor_of_name pn_3) hisR ?_
  intro pP eE sS mM argsA below meth cC s₁ Bd hml0 hP hK
  obtain ⟨rfl, hZ, hh⟩ := hP
  have hx := Bd.exec
  have hby := Bd.bytes
  have hml : cC.maxLocals = 1 := hml0
  have hown : sS.vm.findClass "com/example/rolling_rung/rollingrung/cli/BenchReport$Operation" = some mM.cls := findClass_of_methodNamed Bd.named
  have hnm := (name_of_methodNamed Bd.named Bd.method).1
  have X0 : Stand pP l eE ({ frames := 0, cells := 0, slots := 0, locals := 0 } : Room) sS mM #[(.ref a)] below meth cC s₁ [] 0 0 := Stand.of_body Bd
  have e0 : s₁.heap = h0 := by rw [← hh, Bd.state]; rfl
  have N0 := Fr.nil n0
  have pre0 : ∀ t_, Steps pP.tables eE below (s₁.setTop (mkF mM 0 #[.val (.ref a)] [])) t_ → Steps pP.tables eE below (s₁.setTop (entryFrame mM #[(.ref a)] 1)) t_ := fun t_ k_ => castTop (ef_began mM a) k_
  obtain ⟨T_1, X_1, e_1, st_1⟩ := getF X0 hx hZ hown (host := "") (Or.inl (hw _ (List.mem_of_getElem? (i := 16) rfl))) Via.refl e0 F_began_a (g := (mkF mM 1 #[.val (.ref a)] [(.ref a)])) rfl rfl (hb hby d_prog_9m6_1)
  obtain ⟨fs, hr, hrun, hended, hW, hsame⟩ := X_1.leave (v := some (.long q)) (fun h => by rw [Bd.returns] at h; cases h)
  refine ⟨_, _, pre0 _ ?_, hrun, hended, _, _, rfl, ?_, ⟨_, rfl⟩, hW, hsame.mono (by decide) (by decide)⟩
  · show Steps pP.tables eE below (s₁.setTop (mkF mM 0 #[.val (.ref a)] [])) _
    refine XS.aloadN X0.here hx rfl (hb hby d_prog_9m6_0) rfl rfl ?_
    show Steps pP.tables eE below (s₁.setTop (mkF mM 1 #[.val (.ref a)] [(.ref a)])) _
    refine st_1 _ ?_
    show Steps pP.tables eE below (T_1.setTop (mkF mM 4 #[.val (.ref a)] [(.long q)])) _
    exact X_1.lreturnOut hx Bd.returns (hb hby d_prog_9m6_4) hr
  · show Q_began Z a q h0 n0 _ T_1.heap _
    rw [e_1]
    exact ⟨rfl, N0, rfl⟩
theorem d_prog_9m7_0 : decode prog_9_method_7_code 0 = .ok (.aload_n 0, 1) := by decide +kernel
theorem d_prog_9m7_1 : decode prog_9_method_7_code 1 = .ok (.getfield 17, 3) := by decide +kernel
theorem d_prog_9m7_4 : decode prog_9_method_7_code 4 = .ok (.lreturn, 1) := by decide +kernel
theorem ef_ended (mM : MethodId) (x0 : Addr) : entryFrame mM #[(.ref x0)] 1 = mkF mM 0 #[.val (.ref x0)] [] := by first | (simp [entryFrame, mkF, argsToLocals, Value.category]; done) | rfl
def Q_ended (Z : State) (a : Addr) (q : Int64) (h0 : Heap) (n0 : Nat) (v_ : Option Value) (h_ : Heap) (L_ : List Loc) : Prop := v_ = some (.long q) ∧ Fr n0 L_ ∧ h_ = h0
set_option maxRecDepth 65536 in
set_option maxHeartbeats 40000000 in
theorem rm_ended (l : Launch) (Z : State) (a0 : Array Value) (hw : ∀ d ∈ tables_1, d.before a0 Z = true) (ws : List Jvm.Cond) (a : Addr) (q : Int64) (h0 : Heap) (n0 : Nat) (Z0 : n0 ≤ h0.size) (F_ended_a : Fld Z h0 a "com/example/rolling_rung/rollingrung/cli/BenchReport$Operation" "ended" "J" (.long q)) :
    MetFree l (⟨"com/example/rolling_rung/rollingrung/cli/BenchReport$Operation", "ended", "()J"⟩ : MethodName) (head1 (Jvm.Cond.code (⟨"com/example/rolling_rung/rollingrung/cli/BenchReport$Operation", "ended", "()J"⟩ : MethodName) prog_9_method_7_code 1 (some .long) :: ws) ({ frames := 0, cells := 0, slots := 0, locals := 0 } : Room)) (fun aa_ U_ => aa_ = #[(.ref a)] ∧ Z.Warmed39 U_.vm ∧ U_.heap = h0) (fun _ _ _ _ _ => True) (fun _ U_ o_ U'_ => ∃ v_ L_, o_ = .returned v_ ∧ Q_ended Z a q h0 n0 v_ U'_.heap L_ ∧ FrameEnd U_ o_ U'_ L_ ({ frames := 0, cells := 0, slots := 0, locals := 0 } : Room).cells ({ frames := 0, cells := 0, slots := 0, locals := 0 } : Room).slots) := by
  refine MetFree.of_bodySF (plainFor_of_name pn_3) hisR ?_
  intro pP eE sS mM argsA below meth cC s₁ Bd hml0 hP hK
  obtain ⟨rfl, hZ, hh⟩ := hP
  have hx := Bd.exec
  have hby := Bd.bytes
  have hml : cC.maxLocals = 1 := hml0
  have hown : sS.vm.findClass "com/example/rolling_rung/rollingrung/cli/BenchReport$Operation" = some mM.cls := findClass_of_methodNamed Bd.named
  have hnm := (name_of_methodNamed Bd.named Bd.method).1
  have X0 : Stand pP l eE ({ frames := 0, cells := 0, slots := 0, locals := 0 } : Room) sS mM #[(.ref a)] below meth cC s₁ [] 0 0 := Stand.of_body Bd
  have e0 : s₁.heap = h0 := by rw [← hh, Bd.state]; rfl
  have N0 := Fr.nil n0
  have pre0 : ∀ t_, Steps pP.tables eE below (s₁.setTop (mkF mM 0 #[.val (.ref a)] [])) t_ → Steps pP.tables eE below (s₁.setTop (entryFrame mM #[(.ref a)] 1)) t_ := fun t_ k_ => castTop (ef_ended mM a) k_
  obtain ⟨T_1, X_1, e_1, st_1⟩ := getF X0 hx hZ hown (host := "") (Or.inl (hw _ (List.mem_of_getElem? (i := 18) rfl))) Via.refl e0 F_ended_a (g := (mkF mM 1 #[.val (.ref a)] [(.ref a)])) rfl rfl (hb hby d_prog_9m7_1)
  obtain ⟨fs, hr, hrun, hended, hW, hsame⟩ := X_1.leave (v := some (.long q)) (fun h => by rw [Bd.returns] at h; cases h)
  refine ⟨_, _, pre0 _ ?_, hrun, hended, _, _, rfl, ?_, ⟨_, rfl⟩, hW, hsame.mono (by decide) (by decide)⟩
  · show Steps pP.tables eE below (s₁.setTop (mkF mM 0 #[.val (.ref a)] [])) _
    refine XS.aloadN X0.here hx rfl (hb hby d_prog_9m7_0) rfl rfl ?_
    show Steps pP.tables eE below (s₁.setTop (mkF mM 1 #[.val (.ref a)] [(.ref a)])) _
    refine st_1 _ ?_
    show Steps pP.tables eE below (T_1.setTop (mkF mM 4 #[.val (.ref a)] [(.long q)])) _
    exact X_1.lreturnOut hx Bd.returns (hb hby d_prog_9m7_4) hr
  · show Q_ended Z a q h0 n0 _ T_1.heap _
    rw [e_1]
    exact ⟨rfl, N0, rfl⟩
def Q_sp (Z : State) (c : Addr) (o : Addr) (q1 : Int64) (q2 : Int64) (qb : Int64) (qe : Int64) (h0 : Heap) (n0 : Nat) (v_ : Option Value) (h_ : Heap) (L_ : List Loc) : Prop := v_ = some (.int (own_sp q1 q2 qb qe)) ∧ Fr n0 L_ ∧ h_ = h0
theorem d_prog_7m2_0 : decode prog_7_method_2_code 0 = .ok (.aload_n 1, 1) := by decide +kernel
theorem d_prog_7m2_1 : decode prog_7_method_2_code 1 = .ok (.invokevirtual 16, 3) := by decide +kernel
theorem pd_4 : parseMethodDescriptor "()J" = some ⟨[], some .long⟩ := by decide +kernel
theorem d_prog_7m2_4 : decode prog_7_method_2_code 4 = .ok (.aload_n 0, 1) := by decide +kernel
theorem d_prog_7m2_5 : decode prog_7_method_2_code 5 = .ok (.getfield 7, 3) := by decide +kernel
theorem d_prog_7m2_8 : decode prog_7_method_2_code 8 = .ok (.lcmp, 1) := by decide +kernel
theorem d_prog_7m2_9 : decode prog_7_method_2_code 9 = .ok (.ifCond .le 19, 3) := by decide +kernel
theorem d_prog_7m2_28 : decode prog_7_method_2_code 28 = .ok (.iconst 0, 1) := by decide +kernel
theorem d_prog_7m2_29 : decode prog_7_method_2_code 29 = .ok (.ireturn, 1) := by decide +kernel
theorem ef_spA (mM : MethodId) (x0 : Addr) (x1 : Addr) : entryFrame mM #[(.ref x0), (.ref x1)] 2 = mkF mM 0 #[.val (.ref x0), .val (.ref x1)] [] := by first | (simp [entryFrame, mkF, argsToLocals, Value.category]; done) | rfl
set_option maxRecDepth 65536 in
set_option maxHeartbeats 40000000 in
theorem rm_spA (l : Launch) (Z : State) (a0 : Array Value) (hw : ∀ d ∈ tables_1, d.before a0 Z = true) (ws : List Jvm.Cond) (c : Addr) (o : Addr) (q1 : Int64) (q2 : Int64) (qb : Int64) (qe : Int64) (h0 : Heap) (n0 : Nat) (Z0 : n0 ≤ h0.size) (F_firstRung_c : Fld Z h0 c "com/example/rolling_rung/rollingrung/cli/BenchReport$Change" "firstRung" "J" (.long q1)) (F_lastRung_c : Fld Z h0 c "com/example/rolling_rung/rollingrung/cli/BenchReport$Change" "lastRung" "J" (.long q2)) (E_o : Exa Z h0 o "com/example/rolling_rung/rollingrung/cli/BenchReport$Operation") (F_began_o : Fld Z h0 o "com/example/rolling_rung/rollingrung/cli/BenchReport$Operation" "began" "J" (.long qb)) (F_ended_o : Fld Z h0 o "com/example/rolling_rung/rollingrung/cli/BenchReport$Operation" "ended" "J" (.long qe)) (h1 : ¬ q1 < qb) :
    MetFree l (⟨"com/example/rolling_rung/rollingrung/cli/BenchReport$Change", "spans", "(Lcom/example/rolling_rung/rollingrung/cli/BenchReport$Operation;)Z"⟩ : MethodName) (head1 (Jvm.Cond.code (⟨"com/example/rolling_rung/rollingrung/cli/BenchReport$Change", "spans", "(Lcom/example/rolling_rung/rollingrung/cli/BenchReport$Operation;)Z"⟩ : MethodName) prog_7_method_2_code 2 (some .boolean) :: ws) ({ frames := 1, cells := 0, slots := 0, locals := 12 } : Room)) (fun aa_ U_ => aa_ = #[(.ref c), (.ref o)] ∧ Z.Warmed39 U_.vm ∧ U_.heap = h0) (fun _ _ _ _ _ => True) (fun _ U_ o_ U'_ => ∃ v_ L_, o_ = .returned v_ ∧ Q_sp Z c o q1 q2 qb qe h0 n0 v_ U'_.heap L_ ∧ FrameEnd U_ o_ U'_ L_ ({ frames := 1, cells := 0, slots := 0, locals := 12 } : Room).cells ({ frames := 1, cells := 0, slots := 0, locals := 12 } : Room).slots) := by
  refine MetFree.of_bodySF (plainFor_of_name pn_4) hisR ?_
  intro pP eE sS mM argsA below meth cC s₁ Bd hml0 hP hK
  obtain ⟨rfl, hZ, hh⟩ := hP
  have hx := Bd.exec
  have hby := Bd.bytes
  have hml : cC.maxLocals = 2 := hml0
  have hown : sS.vm.findClass "com/example/rolling_rung/rollingrung/cli/BenchReport$Change" = some mM.cls := findClass_of_methodNamed Bd.named
  have hnm := (name_of_methodNamed Bd.named Bd.method).1
  have X0 : Stand pP l eE ({ frames := 1, cells := 0, slots := 0, locals := 12 } : Room) sS mM #[(.ref c), (.ref o)] below meth cC s₁ [] 0 0 := Stand.of_body Bd
  have e0 : s₁.heap = h0 := by rw [← hh, Bd.state]; rfl
  have N0 := Fr.nil n0
  have pre0 : ∀ t_, Steps pP.tables eE below (s₁.setTop (mkF mM 0 #[.val (.ref c), .val (.ref o)] [])) t_ → Steps pP.tables eE below (s₁.setTop (entryFrame mM #[(.ref c), (.ref o)] 2)) t_ := fun t_ k_ => castTop (ef_spA mM c o) k_
  obtain ⟨cq_1, kq_1, q_1a, q_1b, q_1c⟩ := isOf hZ e0 E_o
  obtain ⟨_, _, ⟨T_1, L_1, k_1, n_1⟩, -, X_1, ⟨Lc_1, hQ_1, l_1, y_1, z_1⟩, st_1⟩ := X0.virtualBack hx (y := (⟨"com/example/rolling_rung/rollingrung/cli/BenchReport$Operation", "began", "()J"⟩ : MethodName)) (z := (⟨"com/example/rolling_rung/rollingrung/cli/BenchReport$Operation", "began", "()J"⟩ : MethodName)) hown (mvT hZ (hw _ (List.mem_of_getElem? (i := 49) rfl))) (mvT hZ (hw _ (List.mem_of_getElem? (i := 50) rfl))) (notFace_of_selects (args := #[]) (mvT hZ (hw _ (List.mem_of_getElem? (i := 52) rfl)))) (mvT hZ (hw _ (List.mem_of_getElem? (i := 52) rfl))) (mvT hZ (hw _ (List.mem_of_getElem? (i := 51) rfl))) (by decide) (backOf (W := 0) (rm_began l Z a0 hw [] o qb h0 n0 Z0 F_began_o) hZ (hw _ (List.mem_of_getElem? (i := 53) rfl)) (hw _ (List.mem_of_getElem? (i := 2) rfl)) (by decide) (by decide)) q_1a q_1c (g := (mkF mM 1 #[.val (.ref c), .val (.ref o)] [(.ref o)])) rfl (by rw [hml]; rfl) (Steps.refl _) (argsL := []) (rest := []) (lenOf pd_4 rfl) rfl (by show 2 * 0 + _ ≤ _; exact Nat.le_of_eq rfl) (hb hby d_prog_7m2_1) (fun _ _ => ⟨rfl, e0, (by decide : 0 + 0 ≤ _), (by decide : 0 + 0 ≤ _)⟩)
  dsimp only [Pt.U, Pt.locs, Pt.cells, Pt.slots] at X_1 l_1 y_1 z_1 st_1 hQ_1
  subst l_1 y_1 z_1
  obtain ⟨rfl, N_1q, eh_1⟩ := hQ_1
  have N_1 := Fr.app N0 N_1q
  obtain ⟨T_2, X_2, e_2, st_2⟩ := getF X_1 hx hZ hown (host := "") (Or.inl (hw _ (List.mem_of_getElem? (i := 33) rfl))) Via.refl eh_1 F_firstRung_c (g := (mkF mM 5 #[.val (.ref c), .val (.ref o)] [(.ref c), (.long qb)])) rfl rfl (hb hby d_prog_7m2_5)
  obtain ⟨fs, hr, hrun, hended, hW, hsame⟩ := X_2.leave (v := some (.int (0 : Int32))) (fun h => by rw [Bd.returns] at h; cases h)
  refine ⟨_, _, pre0 _ ?_, hrun, hended, _, _, rfl, ?_, ⟨_, rfl⟩, hW, hsame.mono (by decide) (by decide)⟩
  · show Steps pP.tables eE below (s₁.setTop (mkF mM 0 #[.val (.ref c), .val (.ref o)] [])) _
    refine XS.aloadN X0.here hx rfl (hb hby d_prog_7m2_0) rfl rfl ?_
    show Steps pP.tables eE below (s₁.setTop (mkF mM 1 #[.val (.ref c), .val (.ref o)] [(.ref o)])) _
    refine st_1.trans ?_
    show Steps pP.tables eE below (T_1.setTop (mkF mM 4 #[.val (.ref c), .val (.ref o)] [(.long qb)])) _
    refine XS.aloadN X_1.here hx rfl (hb hby d_prog_7m2_4) rfl rfl ?_
    show Steps pP.tables eE below (T_1.setTop (mkF mM 5 #[.val (.ref c), .val (.ref o)] [(.ref c), (.long qb)])) _
    refine st_2 _ ?_
    show Steps pP.tables eE below (T_2.setTop (mkF mM 8 #[.val (.ref c), .val (.ref o)] [(.long q1), (.long qb)])) _
    refine XT.lcmp X_2.here hx rfl (hb hby d_prog_7m2_8) rfl ?_
    show Steps pP.tables eE below (T_2.setTop (mkF mM 9 #[.val (.ref c), .val (.ref o)] [(.int (XT.cmpL qb q1))])) _
    refine XS.ifYes X_2.here hx rfl (pc0 := 9) (pc' := 28) rfl (hb hby d_prog_7m2_9) rfl (XT.ll_le_t h1) (by decide) (by decide) ?_
    show Steps pP.tables eE below (T_2.setTop (mkF mM 28 #[.val (.ref c), .val (.ref o)] [])) _
    refine XS.iconst X_2.here hx rfl (hb hby d_prog_7m2_28) ?_
    show Steps pP.tables eE below (T_2.setTop (mkF mM 29 #[.val (.ref c), .val (.ref o)] [(.int (0 : Int32))])) _
    exact retN X_2 hx (t := .boolean) Bd.returns (by simp) (hb hby d_prog_7m2_29) hr
  · show Q_sp Z c o q1 q2 qb qe h0 n0 _ T_2.heap _
    rw [e_2]
    exact ⟨(congrArg (fun z => some (Value.int z)) (if_neg (fun q => h1 q.1)).symm), N_1, rfl⟩
theorem d_prog_7m2_12 : decode prog_7_method_2_code 12 = .ok (.aload_n 1, 1) := by decide +kernel
theorem d_prog_7m2_13 : decode prog_7_method_2_code 13 = .ok (.invokevirtual 22, 3) := by decide +kernel
theorem d_prog_7m2_16 : decode prog_7_method_2_code 16 = .ok (.aload_n 0, 1) := by decide +kernel
theorem d_prog_7m2_17 : decode prog_7_method_2_code 17 = .ok (.getfield 13, 3) := by decide +kernel
theorem d_prog_7m2_20 : decode prog_7_method_2_code 20 = .ok (.lcmp, 1) := by decide +kernel
theorem d_prog_7m2_21 : decode prog_7_method_2_code 21 = .ok (.ifCond .ge 7, 3) := by decide +kernel
theorem ef_spB (mM : MethodId) (x0 : Addr) (x1 : Addr) : entryFrame mM #[(.ref x0), (.ref x1)] 2 = mkF mM 0 #[.val (.ref x0), .val (.ref x1)] [] := by first | (simp [entryFrame, mkF, argsToLocals, Value.category]; done) | rfl
set_option maxRecDepth 65536 in
set_option maxHeartbeats 40000000 in
theorem rm_spB (l : Launch) (Z : State) (a0 : Array Value) (hw : ∀ d ∈ tables_1, d.before a0 Z = true) (ws : List Jvm.Cond) (c : Addr) (o : Addr) (q1 : Int64) (q2 : Int64) (qb : Int64) (qe : Int64) (h0 : Heap) (n0 : Nat) (Z0 : n0 ≤ h0.size) (F_firstRung_c : Fld Z h0 c "com/example/rolling_rung/rollingrung/cli/BenchReport$Change" "firstRung" "J" (.long q1)) (F_lastRung_c : Fld Z h0 c "com/example/rolling_rung/rollingrung/cli/BenchReport$Change" "lastRung" "J" (.long q2)) (E_o : Exa Z h0 o "com/example/rolling_rung/rollingrung/cli/BenchReport$Operation") (F_began_o : Fld Z h0 o "com/example/rolling_rung/rollingrung/cli/BenchReport$Operation" "began" "J" (.long qb)) (F_ended_o : Fld Z h0 o "com/example/rolling_rung/rollingrung/cli/BenchReport$Operation" "ended" "J" (.long qe)) (h1 : q1 < qb) (h2 : ¬ qe < q2) :
    MetFree l (⟨"com/example/rolling_rung/rollingrung/cli/BenchReport$Change", "spans", "(Lcom/example/rolling_rung/rollingrung/cli/BenchReport$Operation;)Z"⟩ : MethodName) (head1 (Jvm.Cond.code (⟨"com/example/rolling_rung/rollingrung/cli/BenchReport$Change", "spans", "(Lcom/example/rolling_rung/rollingrung/cli/BenchReport$Operation;)Z"⟩ : MethodName) prog_7_method_2_code 2 (some .boolean) :: ws) ({ frames := 1, cells := 0, slots := 0, locals := 12 } : Room)) (fun aa_ U_ => aa_ = #[(.ref c), (.ref o)] ∧ Z.Warmed39 U_.vm ∧ U_.heap = h0) (fun _ _ _ _ _ => True) (fun _ U_ o_ U'_ => ∃ v_ L_, o_ = .returned v_ ∧ Q_sp Z c o q1 q2 qb qe h0 n0 v_ U'_.heap L_ ∧ FrameEnd U_ o_ U'_ L_ ({ frames := 1, cells := 0, slots := 0, locals := 12 } : Room).cells ({ frames := 1, cells := 0, slots := 0, locals := 12 } : Room).slots) := by
  refine MetFree.of_bodySF (plainFor_of_name pn_4) hisR ?_
  intro pP eE sS mM argsA below meth cC s₁ Bd hml0 hP hK
  obtain ⟨rfl, hZ, hh⟩ := hP
  have hx := Bd.exec
  have hby := Bd.bytes
  have hml : cC.maxLocals = 2 := hml0
  have hown : sS.vm.findClass "com/example/rolling_rung/rollingrung/cli/BenchReport$Change" = some mM.cls := findClass_of_methodNamed Bd.named
  have hnm := (name_of_methodNamed Bd.named Bd.method).1
  have X0 : Stand pP l eE ({ frames := 1, cells := 0, slots := 0, locals := 12 } : Room) sS mM #[(.ref c), (.ref o)] below meth cC s₁ [] 0 0 := Stand.of_body Bd
  have e0 : s₁.heap = h0 := by rw [← hh, Bd.state]; rfl
  have N0 := Fr.nil n0
  have pre0 : ∀ t_, Steps pP.tables eE below (s₁.setTop (mkF mM 0 #[.val (.ref c), .val (.ref o)] [])) t_ → Steps pP.tables eE below (s₁.setTop (entryFrame mM #[(.ref c), (.ref o)] 2)) t_ := fun t_ k_ => castTop (ef_spB mM c o) k_
  obtain ⟨cq_1, kq_1, q_1a, q_1b, q_1c⟩ := isOf hZ e0 E_o
  obtain ⟨_, _, ⟨T_1, L_1, k_1, n_1⟩, -, X_1, ⟨Lc_1, hQ_1, l_1, y_1, z_1⟩, st_1⟩ := X0.virtualBack hx (y := (⟨"com/example/rolling_rung/rollingrung/cli/BenchReport$Operation", "began", "()J"⟩ : MethodName)) (z := (⟨"com/example/rolling_rung/rollingrung/cli/BenchReport$Operation", "began", "()J"⟩ : MethodName)) hown (mvT hZ (hw _ (List.mem_of_getElem? (i := 49) rfl))) (mvT hZ (hw _ (List.mem_of_getElem? (i := 50) rfl))) (notFace_of_selects (args := #[]) (mvT hZ (hw _ (List.mem_of_getElem? (i := 52) rfl)))) (mvT hZ (hw _ (List.mem_of_getElem? (i := 52) rfl))) (mvT hZ (hw _ (List.mem_of_getElem? (i := 51) rfl))) (by decide) (backOf (W := 0) (rm_began l Z a0 hw [] o qb h0 n0 Z0 F_began_o) hZ (hw _ (List.mem_of_getElem? (i := 53) rfl)) (hw _ (List.mem_of_getElem? (i := 2) rfl)) (by decide) (by decide)) q_1a q_1c (g := (mkF mM 1 #[.val (.ref c), .val (.ref o)] [(.ref o)])) rfl (by rw [hml]; rfl) (Steps.refl _) (argsL := []) (rest := []) (lenOf pd_4 rfl) rfl (by show 2 * 0 + _ ≤ _; exact Nat.le_of_eq rfl) (hb hby d_prog_7m2_1) (fun _ _ => ⟨rfl, e0, (by decide : 0 + 0 ≤ _), (by decide : 0 + 0 ≤ _)⟩)
  dsimp only [Pt.U, Pt.locs, Pt.cells, Pt.slots] at X_1 l_1 y_1 z_1 st_1 hQ_1
  subst l_1 y_1 z_1
  obtain ⟨rfl, N_1q, eh_1⟩ := hQ_1
  have N_1 := Fr.app N0 N_1q
  obtain ⟨T_2, X_2, e_2, st_2⟩ := getF X_1 hx hZ hown (host := "") (Or.inl (hw _ (List.mem_of_getElem? (i := 33) rfl))) Via.refl eh_1 F_firstRung_c (g := (mkF mM 5 #[.val (.ref c), .val (.ref o)] [(.ref c), (.long qb)])) rfl rfl (hb hby d_prog_7m2_5)
  obtain ⟨cq_3, kq_3, q_3a, q_3b, q_3c⟩ := isOf hZ e_2 E_o
  obtain ⟨_, _, ⟨T_3, L_3, k_3, n_3⟩, -, X_3, ⟨Lc_3, hQ_3, l_3, y_3, z_3⟩, st_3⟩ := X_2.virtualBack hx (y := (⟨"com/example/rolling_rung/rollingrung/cli/BenchReport$Operation", "ended", "()J"⟩ : MethodName)) (z := (⟨"com/example/rolling_rung/rollingrung/cli/BenchReport$Operation", "ended", "()J"⟩ : MethodName)) hown (mvT hZ (hw _ (List.mem_of_getElem? (i := 80) rfl))) (mvT hZ (hw _ (List.mem_of_getElem? (i := 81) rfl))) (notFace_of_selects (args := #[]) (mvT hZ (hw _ (List.mem_of_getElem? (i := 83) rfl)))) (mvT hZ (hw _ (List.mem_of_getElem? (i := 83) rfl))) (mvT hZ (hw _ (List.mem_of_getElem? (i := 82) rfl))) (by decide) (backOf (W := 0) (rm_ended l Z a0 hw [] o qe h0 n0 Z0 F_ended_o) hZ (hw _ (List.mem_of_getElem? (i := 84) rfl)) (hw _ (List.mem_of_getElem? (i := 2) rfl)) (by decide) (by decide)) q_3a q_3c (g := (mkF mM 13 #[.val (.ref c), .val (.ref o)] [(.ref o)])) rfl (by rw [hml]; rfl) (Steps.refl _) (argsL := []) (rest := []) (lenOf pd_4 rfl) rfl (by show 2 * 0 + _ ≤ _; exact Nat.le_of_eq rfl) (hb hby d_prog_7m2_13) (fun _ _ => ⟨rfl, e_2, (by decide : 0 + 0 ≤ _), (by decide : 0 + 0 ≤ _)⟩)
  dsimp only [Pt.U, Pt.locs, Pt.cells, Pt.slots] at X_3 l_3 y_3 z_3 st_3 hQ_3
  subst l_3 y_3 z_3
  obtain ⟨rfl, N_3q, eh_3⟩ := hQ_3
  have N_3 := Fr.app N_1 N_3q
  obtain ⟨T_4, X_4, e_4, st_4⟩ := getF X_3 hx hZ hown (host := "") (Or.inl (hw _ (List.mem_of_getElem? (i := 35) rfl))) Via.refl eh_3 F_lastRung_c (g := (mkF mM 17 #[.val (.ref c), .val (.ref o)] [(.ref c), (.long qe)])) rfl rfl (hb hby d_prog_7m2_17)
  obtain ⟨fs, hr, hrun, hended, hW, hsame⟩ := X_4.leave (v := some (.int (0 : Int32))) (fun h => by rw [Bd.returns] at h; cases h)
  refine ⟨_, _, pre0 _ ?_, hrun, hended, _, _, rfl, ?_, ⟨_, rfl⟩, hW, hsame.mono (by decide) (by decide)⟩
  · show Steps pP.tables eE below (s₁.setTop (mkF mM 0 #[.val (.ref c), .val (.ref o)] [])) _
    refine XS.aloadN X0.here hx rfl (hb hby d_prog_7m2_0) rfl rfl ?_
    show Steps pP.tables eE below (s₁.setTop (mkF mM 1 #[.val (.ref c), .val (.ref o)] [(.ref o)])) _
    refine st_1.trans ?_
    show Steps pP.tables eE below (T_1.setTop (mkF mM 4 #[.val (.ref c), .val (.ref o)] [(.long qb)])) _
    refine XS.aloadN X_1.here hx rfl (hb hby d_prog_7m2_4) rfl rfl ?_
    show Steps pP.tables eE below (T_1.setTop (mkF mM 5 #[.val (.ref c), .val (.ref o)] [(.ref c), (.long qb)])) _
    refine st_2 _ ?_
    show Steps pP.tables eE below (T_2.setTop (mkF mM 8 #[.val (.ref c), .val (.ref o)] [(.long q1), (.long qb)])) _
    refine XT.lcmp X_2.here hx rfl (hb hby d_prog_7m2_8) rfl ?_
    show Steps pP.tables eE below (T_2.setTop (mkF mM 9 #[.val (.ref c), .val (.ref o)] [(.int (XT.cmpL qb q1))])) _
    refine XS.ifNo X_2.here hx rfl (hb hby d_prog_7m2_9) rfl (XT.ll_le_f h1) ?_
    show Steps pP.tables eE below (T_2.setTop (mkF mM 12 #[.val (.ref c), .val (.ref o)] [])) _
    refine XS.aloadN X_2.here hx rfl (hb hby d_prog_7m2_12) rfl rfl ?_
    show Steps pP.tables eE below (T_2.setTop (mkF mM 13 #[.val (.ref c), .val (.ref o)] [(.ref o)])) _
    refine st_3.trans ?_
    show Steps pP.tables eE below (T_3.setTop (mkF mM 16 #[.val (.ref c), .val (.ref o)] [(.long qe)])) _
    refine XS.aloadN X_3.here hx rfl (hb hby d_prog_7m2_16) rfl rfl ?_
    show Steps pP.tables eE below (T_3.setTop (mkF mM 17 #[.val (.ref c), .val (.ref o)] [(.ref c), (.long qe)])) _
    refine st_4 _ ?_
    show Steps pP.tables eE below (T_4.setTop (mkF mM 20 #[.val (.ref c), .val (.ref o)] [(.long q2), (.long qe)])) _
    refine XT.lcmp X_4.here hx rfl (hb hby d_prog_7m2_20) rfl ?_
    show Steps pP.tables eE below (T_4.setTop (mkF mM 21 #[.val (.ref c), .val (.ref o)] [(.int (XT.cmpL qe q2))])) _
    refine XS.ifYes X_4.here hx rfl (pc0 := 21) (pc' := 28) rfl (hb hby d_prog_7m2_21) rfl (XT.ll_ge_t h2) (by decide) (by decide) ?_
    show Steps pP.tables eE below (T_4.setTop (mkF mM 28 #[.val (.ref c), .val (.ref o)] [])) _
    refine XS.iconst X_4.here hx rfl (hb hby d_prog_7m2_28) ?_
    show Steps pP.tables eE below (T_4.setTop (mkF mM 29 #[.val (.ref c), .val (.ref o)] [(.int (0 : Int32))])) _
    exact retN X_4 hx (t := .boolean) Bd.returns (by simp) (hb hby d_prog_7m2_29) hr
  · show Q_sp Z c o q1 q2 qb qe h0 n0 _ T_4.heap _
    rw [e_4]
    exact ⟨(congrArg (fun z => some (Value.int z)) (if_neg (fun q => h2 q.2)).symm), N_3, rfl⟩
theorem d_prog_7m2_24 : decode prog_7_method_2_code 24 = .ok (.iconst 1, 1) := by decide +kernel
theorem d_prog_7m2_25 : decode prog_7_method_2_code 25 = .ok (.goto 4, 3) := by decide +kernel
theorem ef_spC (mM : MethodId) (x0 : Addr) (x1 : Addr) : entryFrame mM #[(.ref x0), (.ref x1)] 2 = mkF mM 0 #[.val (.ref x0), .val (.ref x1)] [] := by first | (simp [entryFrame, mkF, argsToLocals, Value.category]; done) | rfl
set_option maxRecDepth 65536 in
set_option maxHeartbeats 40000000 in
theorem rm_spC (l : Launch) (Z : State) (a0 : Array Value) (hw : ∀ d ∈ tables_1, d.before a0 Z = true) (ws : List Jvm.Cond) (c : Addr) (o : Addr) (q1 : Int64) (q2 : Int64) (qb : Int64) (qe : Int64) (h0 : Heap) (n0 : Nat) (Z0 : n0 ≤ h0.size) (F_firstRung_c : Fld Z h0 c "com/example/rolling_rung/rollingrung/cli/BenchReport$Change" "firstRung" "J" (.long q1)) (F_lastRung_c : Fld Z h0 c "com/example/rolling_rung/rollingrung/cli/BenchReport$Change" "lastRung" "J" (.long q2)) (E_o : Exa Z h0 o "com/example/rolling_rung/rollingrung/cli/BenchReport$Operation") (F_began_o : Fld Z h0 o "com/example/rolling_rung/rollingrung/cli/BenchReport$Operation" "began" "J" (.long qb)) (F_ended_o : Fld Z h0 o "com/example/rolling_rung/rollingrung/cli/BenchReport$Operation" "ended" "J" (.long qe)) (h1 : q1 < qb) (h2 : qe < q2) :
    MetFree l (⟨"com/example/rolling_rung/rollingrung/cli/BenchReport$Change", "spans", "(Lcom/example/rolling_rung/rollingrung/cli/BenchReport$Operation;)Z"⟩ : MethodName) (head1 (Jvm.Cond.code (⟨"com/example/rolling_rung/rollingrung/cli/BenchReport$Change", "spans", "(Lcom/example/rolling_rung/rollingrung/cli/BenchReport$Operation;)Z"⟩ : MethodName) prog_7_method_2_code 2 (some .boolean) :: ws) ({ frames := 1, cells := 0, slots := 0, locals := 12 } : Room)) (fun aa_ U_ => aa_ = #[(.ref c), (.ref o)] ∧ Z.Warmed39 U_.vm ∧ U_.heap = h0) (fun _ _ _ _ _ => True) (fun _ U_ o_ U'_ => ∃ v_ L_, o_ = .returned v_ ∧ Q_sp Z c o q1 q2 qb qe h0 n0 v_ U'_.heap L_ ∧ FrameEnd U_ o_ U'_ L_ ({ frames := 1, cells := 0, slots := 0, locals := 12 } : Room).cells ({ frames := 1, cells := 0, slots := 0, locals := 12 } : Room).slots) := by
  refine MetFree.of_bodySF (plainFor_of_name pn_4) hisR ?_
  intro pP eE sS mM argsA below meth cC s₁ Bd hml0 hP hK
  obtain ⟨rfl, hZ, hh⟩ := hP
  have hx := Bd.exec
  have hby := Bd.bytes
  have hml : cC.maxLocals = 2 := hml0
  have hown : sS.vm.findClass "com/example/rolling_rung/rollingrung/cli/BenchReport$Change" = some mM.cls := findClass_of_methodNamed Bd.named
  have hnm := (name_of_methodNamed Bd.named Bd.method).1
  have X0 : Stand pP l eE ({ frames := 1, cells := 0, slots := 0, locals := 12 } : Room) sS mM #[(.ref c), (.ref o)] below meth cC s₁ [] 0 0 := Stand.of_body Bd
  have e0 : s₁.heap = h0 := by rw [← hh, Bd.state]; rfl
  have N0 := Fr.nil n0
  have pre0 : ∀ t_, Steps pP.tables eE below (s₁.setTop (mkF mM 0 #[.val (.ref c), .val (.ref o)] [])) t_ → Steps pP.tables eE below (s₁.setTop (entryFrame mM #[(.ref c), (.ref o)] 2)) t_ := fun t_ k_ => castTop (ef_spC mM c o) k_
  obtain ⟨cq_1, kq_1, q_1a, q_1b, q_1c⟩ := isOf hZ e0 E_o
  obtain ⟨_, _, ⟨T_1, L_1, k_1, n_1⟩, -, X_1, ⟨Lc_1, hQ_1, l_1, y_1, z_1⟩, st_1⟩ := X0.virtualBack hx (y := (⟨"com/example/rolling_rung/rollingrung/cli/BenchReport$Operation", "began", "()J"⟩ : MethodName)) (z := (⟨"com/example/rolling_rung/rollingrung/cli/BenchReport$Operation", "began", "()J"⟩ : MethodName)) hown (mvT hZ (hw _ (List.mem_of_getElem? (i := 49) rfl))) (mvT hZ (hw _ (List.mem_of_getElem? (i := 50) rfl))) (notFace_of_selects (args := #[]) (mvT hZ (hw _ (List.mem_of_getElem? (i := 52) rfl)))) (mvT hZ (hw _ (List.mem_of_getElem? (i := 52) rfl))) (mvT hZ (hw _ (List.mem_of_getElem? (i := 51) rfl))) (by decide) (backOf (W := 0) (rm_began l Z a0 hw [] o qb h0 n0 Z0 F_began_o) hZ (hw _ (List.mem_of_getElem? (i := 53) rfl)) (hw _ (List.mem_of_getElem? (i := 2) rfl)) (by decide) (by decide)) q_1a q_1c (g := (mkF mM 1 #[.val (.ref c), .val (.ref o)] [(.ref o)])) rfl (by rw [hml]; rfl) (Steps.refl _) (argsL := []) (rest := []) (lenOf pd_4 rfl) rfl (by show 2 * 0 + _ ≤ _; exact Nat.le_of_eq rfl) (hb hby d_prog_7m2_1) (fun _ _ => ⟨rfl, e0, (by decide : 0 + 0 ≤ _), (by decide : 0 + 0 ≤ _)⟩)
  dsimp only [Pt.U, Pt.locs, Pt.cells, Pt.slots] at X_1 l_1 y_1 z_1 st_1 hQ_1
  subst l_1 y_1 z_1
  obtain ⟨rfl, N_1q, eh_1⟩ := hQ_1
  have N_1 := Fr.app N0 N_1q
  obtain ⟨T_2, X_2, e_2, st_2⟩ := getF X_1 hx hZ hown (host := "") (Or.inl (hw _ (List.mem_of_getElem? (i := 33) rfl))) Via.refl eh_1 F_firstRung_c (g := (mkF mM 5 #[.val (.ref c), .val (.ref o)] [(.ref c), (.long qb)])) rfl rfl (hb hby d_prog_7m2_5)
  obtain ⟨cq_3, kq_3, q_3a, q_3b, q_3c⟩ := isOf hZ e_2 E_o
  obtain ⟨_, _, ⟨T_3, L_3, k_3, n_3⟩, -, X_3, ⟨Lc_3, hQ_3, l_3, y_3, z_3⟩, st_3⟩ := X_2.virtualBack hx (y := (⟨"com/example/rolling_rung/rollingrung/cli/BenchReport$Operation", "ended", "()J"⟩ : MethodName)) (z := (⟨"com/example/rolling_rung/rollingrung/cli/BenchReport$Operation", "ended", "()J"⟩ : MethodName)) hown (mvT hZ (hw _ (List.mem_of_getElem? (i := 80) rfl))) (mvT hZ (hw _ (List.mem_of_getElem? (i := 81) rfl))) (notFace_of_selects (args := #[]) (mvT hZ (hw _ (List.mem_of_getElem? (i := 83) rfl)))) (mvT hZ (hw _ (List.mem_of_getElem? (i := 83) rfl))) (mvT hZ (hw _ (List.mem_of_getElem? (i := 82) rfl))) (by decide) (backOf (W := 0) (rm_ended l Z a0 hw [] o qe h0 n0 Z0 F_ended_o) hZ (hw _ (List.mem_of_getElem? (i := 84) rfl)) (hw _ (List.mem_of_getElem? (i := 2) rfl)) (by decide) (by decide)) q_3a q_3c (g := (mkF mM 13 #[.val (.ref c), .val (.ref o)] [(.ref o)])) rfl (by rw [hml]; rfl) (Steps.refl _) (argsL := []) (rest := []) (lenOf pd_4 rfl) rfl (by show 2 * 0 + _ ≤ _; exact Nat.le_of_eq rfl) (hb hby d_prog_7m2_13) (fun _ _ => ⟨rfl, e_2, (by decide : 0 + 0 ≤ _), (by decide : 0 + 0 ≤ _)⟩)
  dsimp only [Pt.U, Pt.locs, Pt.cells, Pt.slots] at X_3 l_3 y_3 z_3 st_3 hQ_3
  subst l_3 y_3 z_3
  obtain ⟨rfl, N_3q, eh_3⟩ := hQ_3
  have N_3 := Fr.app N_1 N_3q
  obtain ⟨T_4, X_4, e_4, st_4⟩ := getF X_3 hx hZ hown (host := "") (Or.inl (hw _ (List.mem_of_getElem? (i := 35) rfl))) Via.refl eh_3 F_lastRung_c (g := (mkF mM 17 #[.val (.ref c), .val (.ref o)] [(.ref c), (.long qe)])) rfl rfl (hb hby d_prog_7m2_17)
  obtain ⟨fs, hr, hrun, hended, hW, hsame⟩ := X_4.leave (v := some (.int (1 : Int32))) (fun h => by rw [Bd.returns] at h; cases h)
  refine ⟨_, _, pre0 _ ?_, hrun, hended, _, _, rfl, ?_, ⟨_, rfl⟩, hW, hsame.mono (by decide) (by decide)⟩
  · show Steps pP.tables eE below (s₁.setTop (mkF mM 0 #[.val (.ref c), .val (.ref o)] [])) _
    refine XS.aloadN X0.here hx rfl (hb hby d_prog_7m2_0) rfl rfl ?_
    show Steps pP.tables eE below (s₁.setTop (mkF mM 1 #[.val (.ref c), .val (.ref o)] [(.ref o)])) _
    refine st_1.trans ?_
    show Steps pP.tables eE below (T_1.setTop (mkF mM 4 #[.val (.ref c), .val (.ref o)] [(.long qb)])) _
    refine XS.aloadN X_1.here hx rfl (hb hby d_prog_7m2_4) rfl rfl ?_
    show Steps pP.tables eE below (T_1.setTop (mkF mM 5 #[.val (.ref c), .val (.ref o)] [(.ref c), (.long qb)])) _
    refine st_2 _ ?_
    show Steps pP.tables eE below (T_2.setTop (mkF mM 8 #[.val (.ref c), .val (.ref o)] [(.long q1), (.long qb)])) _
    refine XT.lcmp X_2.here hx rfl (hb hby d_prog_7m2_8) rfl ?_
    show Steps pP.tables eE below (T_2.setTop (mkF mM 9 #[.val (.ref c), .val (.ref o)] [(.int (XT.cmpL qb q1))])) _
    refine XS.ifNo X_2.here hx rfl (hb hby d_prog_7m2_9) rfl (XT.ll_le_f h1) ?_
    show Steps pP.tables eE below (T_2.setTop (mkF mM 12 #[.val (.ref c), .val (.ref o)] [])) _
    refine XS.aloadN X_2.here hx rfl (hb hby d_prog_7m2_12) rfl rfl ?_
    show Steps pP.tables eE below (T_2.setTop (mkF mM 13 #[.val (.ref c), .val (.ref o)] [(.ref o)])) _
    refine st_3.trans ?_
    show Steps pP.tables eE below (T_3.setTop (mkF mM 16 #[.val (.ref c), .val (.ref o)] [(.long qe)])) _
    refine XS.aloadN X_3.here hx rfl (hb hby d_prog_7m2_16) rfl rfl ?_
    show Steps pP.tables eE below (T_3.setTop (mkF mM 17 #[.val (.ref c), .val (.ref o)] [(.ref c), (.long qe)])) _
    refine st_4 _ ?_
    show Steps pP.tables eE below (T_4.setTop (mkF mM 20 #[.val (.ref c), .val (.ref o)] [(.long q2), (.long qe)])) _
    refine XT.lcmp X_4.here hx rfl (hb hby d_prog_7m2_20) rfl ?_
    show Steps pP.tables eE below (T_4.setTop (mkF mM 21 #[.val (.ref c), .val (.ref o)] [(.int (XT.cmpL qe q2))])) _
    refine XS.ifNo X_4.here hx rfl (hb hby d_prog_7m2_21) rfl (XT.ll_ge_f h2) ?_
    show Steps pP.tables eE below (T_4.setTop (mkF mM 24 #[.val (.ref c), .val (.ref o)] [])) _
    refine XS.iconst X_4.here hx rfl (hb hby d_prog_7m2_24) ?_
    show Steps pP.tables eE below (T_4.setTop (mkF mM 25 #[.val (.ref c), .val (.ref o)] [(.int (1 : Int32))])) _
    refine XS.goto X_4.here hx rfl (pc0 := 25) (pc' := 29) rfl (hb hby d_prog_7m2_25) (by decide) (by decide) ?_
    show Steps pP.tables eE below (T_4.setTop (mkF mM 29 #[.val (.ref c), .val (.ref o)] [(.int (1 : Int32))])) _
    exact retN X_4 hx (t := .boolean) Bd.returns (by simp) (hb hby d_prog_7m2_29) hr
  · show Q_sp Z c o q1 q2 qb qe h0 n0 _ T_4.heap _
    rw [e_4]
    exact ⟨(congrArg (fun z => some (Value.int z)) (if_pos ⟨h1, h2⟩).symm), N_3, rfl⟩
set_option maxRecDepth 65536 in
set_option maxHeartbeats 40000000 in
theorem rm_sp (l : Launch) (Z : State) (a0 : Array Value) (hw : ∀ d ∈ tables_1, d.before a0 Z = true) (ws : List Jvm.Cond) (c : Addr) (o : Addr) (q1 : Int64) (q2 : Int64) (qb : Int64) (qe : Int64) (h0 : Heap) (n0 : Nat) (Z0 : n0 ≤ h0.size) (F_firstRung_c : Fld Z h0 c "com/example/rolling_rung/rollingrung/cli/BenchReport$Change" "firstRung" "J" (.long q1)) (F_lastRung_c : Fld Z h0 c "com/example/rolling_rung/rollingrung/cli/BenchReport$Change" "lastRung" "J" (.long q2)) (E_o : Exa Z h0 o "com/example/rolling_rung/rollingrung/cli/BenchReport$Operation") (F_began_o : Fld Z h0 o "com/example/rolling_rung/rollingrung/cli/BenchReport$Operation" "began" "J" (.long qb)) (F_ended_o : Fld Z h0 o "com/example/rolling_rung/rollingrung/cli/BenchReport$Operation" "ended" "J" (.long qe)) :
    MetFree l (⟨"com/example/rolling_rung/rollingrung/cli/BenchReport$Change", "spans", "(Lcom/example/rolling_rung/rollingrung/cli/BenchReport$Operation;)Z"⟩ : MethodName) (head1 (Jvm.Cond.code (⟨"com/example/rolling_rung/rollingrung/cli/BenchReport$Change", "spans", "(Lcom/example/rolling_rung/rollingrung/cli/BenchReport$Operation;)Z"⟩ : MethodName) prog_7_method_2_code 2 (some .boolean) :: ws) ({ frames := 1, cells := 0, slots := 0, locals := 12 } : Room)) (fun aa_ U_ => aa_ = #[(.ref c), (.ref o)] ∧ Z.Warmed39 U_.vm ∧ U_.heap = h0) (fun _ _ _ _ _ => True) (fun _ U_ o_ U'_ => ∃ v_ L_, o_ = .returned v_ ∧ Q_sp Z c o q1 q2 qb qe h0 n0 v_ U'_.heap L_ ∧ FrameEnd U_ o_ U'_ L_ ({ frames := 1, cells := 0, slots := 0, locals := 12 } : Room).cells ({ frames := 1, cells := 0, slots := 0, locals := 12 } : Room).slots) := by
  by_cases h1 : q1 < qb
  · by_cases h2 : qe < q2
    · exact rm_spC l Z a0 hw ws c o q1 q2 qb qe h0 n0 Z0 F_firstRung_c F_lastRung_c E_o F_began_o F_ended_o h1 h2
    · exact rm_spB l Z a0 hw ws c o q1 q2 qb qe h0 n0 Z0 F_firstRung_c F_lastRung_c E_o F_began_o F_ended_o h1 h2
  · exact rm_spA l Z a0 hw ws c o q1 q2 qb qe h0 n0 Z0 F_firstRung_c F_lastRung_c E_o F_began_o F_ended_o h1
theorem ef_spN (mM : MethodId) (x0 : Addr) (x1 : Addr) : entryFrame mM #[(.ref x0), (.ref x1)] 2 = mkF mM 0 #[.val (.ref x0), .val (.ref x1)] [] := by first | (simp [entryFrame, mkF, argsToLocals, Value.category]; done) | rfl
def Q_spN (Z : State) (c : Addr) (o : Addr) (q1 : Int64) (qb : Int64) (qe : Int64) (h0 : Heap) (n0 : Nat) (v_ : Option Value) (h_ : Heap) (L_ : List Loc) : Prop := v_ = some (.int (0 : Int32)) ∧ Fr n0 L_ ∧ h_ = h0
set_option maxRecDepth 65536 in
set_option maxHeartbeats 40000000 in
theorem rm_spN (l : Launch) (Z : State) (a0 : Array Value) (hw : ∀ d ∈ tables_1, d.before a0 Z = true) (ws : List Jvm.Cond) (c : Addr) (o : Addr) (q1 : Int64) (qb : Int64) (qe : Int64) (h0 : Heap) (n0 : Nat) (Z0 : n0 ≤ h0.size) (F_firstRung_c : Fld Z h0 c "com/example/rolling_rung/rollingrung/cli/BenchReport$Change" "firstRung" "J" (.long q1)) (E_o : Exa Z h0 o "com/example/rolling_rung/rollingrung/cli/BenchReport$Operation") (F_began_o : Fld Z h0 o "com/example/rolling_rung/rollingrung/cli/BenchReport$Operation" "began" "J" (.long qb)) (F_ended_o : Fld Z h0 o "com/example/rolling_rung/rollingrung/cli/BenchReport$Operation" "ended" "J" (.long qe)) (h1 : ¬ q1 < qb) :
    MetFree l (⟨"com/example/rolling_rung/rollingrung/cli/BenchReport$Change", "spans", "(Lcom/example/rolling_rung/rollingrung/cli/BenchReport$Operation;)Z"⟩ : MethodName) (head1 (Jvm.Cond.code (⟨"com/example/rolling_rung/rollingrung/cli/BenchReport$Change", "spans", "(Lcom/example/rolling_rung/rollingrung/cli/BenchReport$Operation;)Z"⟩ : MethodName) prog_7_method_2_code 2 (some .boolean) :: ws) ({ frames := 1, cells := 0, slots := 0, locals := 12 } : Room)) (fun aa_ U_ => aa_ = #[(.ref c), (.ref o)] ∧ Z.Warmed39 U_.vm ∧ U_.heap = h0) (fun _ _ _ _ _ => True) (fun _ U_ o_ U'_ => ∃ v_ L_, o_ = .returned v_ ∧ Q_spN Z c o q1 qb qe h0 n0 v_ U'_.heap L_ ∧ FrameEnd U_ o_ U'_ L_ ({ frames := 1, cells := 0, slots := 0, locals := 12 } : Room).cells ({ frames := 1, cells := 0, slots := 0, locals := 12 } : Room).slots) := by
  refine MetFree.of_bodySF (plainFor_of_name pn_4) hisR ?_
  intro pP eE sS mM argsA below meth cC s₁ Bd hml0 hP hK
  obtain ⟨rfl, hZ, hh⟩ := hP
  have hx := Bd.exec
  have hby := Bd.bytes
  have hml : cC.maxLocals = 2 := hml0
  have hown : sS.vm.findClass "com/example/rolling_rung/rollingrung/cli/BenchReport$Change" = some mM.cls := findClass_of_methodNamed Bd.named
  have hnm := (name_of_methodNamed Bd.named Bd.method).1
  have X0 : Stand pP l eE ({ frames := 1, cells := 0, slots := 0, locals := 12 } : Room) sS mM #[(.ref c), (.ref o)] below meth cC s₁ [] 0 0 := Stand.of_body Bd
  have e0 : s₁.heap = h0 := by rw [← hh, Bd.state]; rfl
  have N0 := Fr.nil n0
  have pre0 : ∀ t_, Steps pP.tables eE below (s₁.setTop (mkF mM 0 #[.val (.ref c), .val (.ref o)] [])) t_ → Steps pP.tables eE below (s₁.setTop (entryFrame mM #[(.ref c), (.ref o)] 2)) t_ := fun t_ k_ => castTop (ef_spN mM c o) k_
  obtain ⟨cq_1, kq_1, q_1a, q_1b, q_1c⟩ := isOf hZ e0 E_o
  obtain ⟨_, _, ⟨T_1, L_1, k_1, n_1⟩, -, X_1, ⟨Lc_1, hQ_1, l_1, y_1, z_1⟩, st_1⟩ := X0.virtualBack hx (y := (⟨"com/example/rolling_rung/rollingrung/cli/BenchReport$Operation", "began", "()J"⟩ : MethodName)) (z := (⟨"com/example/rolling_rung/rollingrung/cli/BenchReport$Operation", "began", "()J"⟩ : MethodName)) hown (mvT hZ (hw _ (List.mem_of_getElem? (i := 49) rfl))) (mvT hZ (hw _ (List.mem_of_getElem? (i := 50) rfl))) (notFace_of_selects (args := #[]) (mvT hZ (hw _ (List.mem_of_getElem? (i := 52) rfl)))) (mvT hZ (hw _ (List.mem_of_getElem? (i := 52) rfl))) (mvT hZ (hw _ (List.mem_of_getElem? (i := 51) rfl))) (by decide) (backOf (W := 0) (rm_began l Z a0 hw [] o qb h0 n0 Z0 F_began_o) hZ (hw _ (List.mem_of_getElem? (i := 53) rfl)) (hw _ (List.mem_of_getElem? (i := 2) rfl)) (by decide) (by decide)) q_1a q_1c (g := (mkF mM 1 #[.val (.ref c), .val (.ref o)] [(.ref o)])) rfl (by rw [hml]; rfl) (Steps.refl _) (argsL := []) (rest := []) (lenOf pd_4 rfl) rfl (by show 2 * 0 + _ ≤ _; exact Nat.le_of_eq rfl) (hb hby d_prog_7m2_1) (fun _ _ => ⟨rfl, e0, (by decide : 0 + 0 ≤ _), (by decide : 0 + 0 ≤ _)⟩)
  dsimp only [Pt.U, Pt.locs, Pt.cells, Pt.slots] at X_1 l_1 y_1 z_1 st_1 hQ_1
  subst l_1 y_1 z_1
  obtain ⟨rfl, N_1q, eh_1⟩ := hQ_1
  have N_1 := Fr.app N0 N_1q
  obtain ⟨T_2, X_2, e_2, st_2⟩ := getF X_1 hx hZ hown (host := "") (Or.inl (hw _ (List.mem_of_getElem? (i := 33) rfl))) Via.refl eh_1 F_firstRung_c (g := (mkF mM 5 #[.val (.ref c), .val (.ref o)] [(.ref c), (.long qb)])) rfl rfl (hb hby d_prog_7m2_5)
  obtain ⟨fs, hr, hrun, hended, hW, hsame⟩ := X_2.leave (v := some (.int (0 : Int32))) (fun h => by rw [Bd.returns] at h; cases h)
  refine ⟨_, _, pre0 _ ?_, hrun, hended, _, _, rfl, ?_, ⟨_, rfl⟩, hW, hsame.mono (by decide) (by decide)⟩
  · show Steps pP.tables eE below (s₁.setTop (mkF mM 0 #[.val (.ref c), .val (.ref o)] [])) _
    refine XS.aloadN X0.here hx rfl (hb hby d_prog_7m2_0) rfl rfl ?_
    show Steps pP.tables eE below (s₁.setTop (mkF mM 1 #[.val (.ref c), .val (.ref o)] [(.ref o)])) _
    refine st_1.trans ?_
    show Steps pP.tables eE below (T_1.setTop (mkF mM 4 #[.val (.ref c), .val (.ref o)] [(.long qb)])) _
    refine XS.aloadN X_1.here hx rfl (hb hby d_prog_7m2_4) rfl rfl ?_
    show Steps pP.tables eE below (T_1.setTop (mkF mM 5 #[.val (.ref c), .val (.ref o)] [(.ref c), (.long qb)])) _
    refine st_2 _ ?_
    show Steps pP.tables eE below (T_2.setTop (mkF mM 8 #[.val (.ref c), .val (.ref o)] [(.long q1), (.long qb)])) _
    refine XT.lcmp X_2.here hx rfl (hb hby d_prog_7m2_8) rfl ?_
    show Steps pP.tables eE below (T_2.setTop (mkF mM 9 #[.val (.ref c), .val (.ref o)] [(.int (XT.cmpL qb q1))])) _
    refine XS.ifYes X_2.here hx rfl (pc0 := 9) (pc' := 28) rfl (hb hby d_prog_7m2_9) rfl (XT.ll_le_t h1) (by decide) (by decide) ?_
    show Steps pP.tables eE below (T_2.setTop (mkF mM 28 #[.val (.ref c), .val (.ref o)] [])) _
    refine XS.iconst X_2.here hx rfl (hb hby d_prog_7m2_28) ?_
    show Steps pP.tables eE below (T_2.setTop (mkF mM 29 #[.val (.ref c), .val (.ref o)] [(.int (0 : Int32))])) _
    exact retN X_2 hx (t := .boolean) Bd.returns (by simp) (hb hby d_prog_7m2_29) hr
  · show Q_spN Z c o q1 qb qe h0 n0 _ T_2.heap _
    rw [e_2]
    exact ⟨rfl, N_1, rfl⟩
theorem pd_5 : parseMethodDescriptor "(C)Ljava/lang/String;" = some ⟨[.char], some (.object "java/lang/String")⟩ := by decide +kernel
theorem pd_6 : parseMethodDescriptor "(ZJJJZLjava/lang/String;)V" = some ⟨[.boolean, .long, .long, .long, .boolean, (.object "java/lang/String")], none⟩ := by decide +kernel
theorem pd_7 : parseMethodDescriptor "(JJ)V" = some ⟨[.long, .long], none⟩ := by decide +kernel
theorem pd_8 : parseMethodDescriptor "(JJ)J" = some ⟨[.long, .long], some .long⟩ := by decide +kernel
theorem pd_9 : parseMethodDescriptor "(Lcom/example/rolling_rung/rollingrung/cli/BenchReport$Operation;)Z" = some ⟨[(.object "com/example/rolling_rung/rollingrung/cli/BenchReport$Operation")], some .boolean⟩ := by decide +kernel
theorem pn_5 : plainName "com/example/rolling_rung/rollingrung/cli/ChangeSpansPinLaw" = true := by first | (simp [plainName, overriddenIn]; done) | decide +kernel
theorem ef_laws (mM : MethodId) (x0 : Int64) (x1 : Int64) (x2 : Int64) (x3 : Int64) (x4 : Int32) : entryFrame mM #[(.long x0), (.long x1), (.long x2), (.long x3), (.int x4)] maxLocals = mkF mM 0 #[.val (.long x0), .second, .val (.long x1), .second, .val (.long x2), .second, .val (.long x3), .second, .val (.int x4), .unset, .unset, .unset, .unset, .unset, .unset, .unset, .unset, .unset, .unset] [] := by first | (simp [entryFrame, mkF, argsToLocals, Value.category, maxLocals]; done) | rfl
def Q_laws (Z : State) (q1 : Int64) (q2 : Int64) (q3 : Int64) (q4 : Int64) (p8 : Int32) (xn : Addr) (cs : Int32) (h0 : Heap) (n0 : Nat) (v_ : Option Value) (h_ : Heap) (L_ : List Loc) : Prop := v_ = some (.int (1 : Int32)) ∧ Fr n0 L_
set_option maxRecDepth 65536 in
set_option maxHeartbeats 40000000 in
theorem rm_laws (l : Launch) (Z : State) (a0 : Array Value) (hw : ∀ d ∈ tables_1, d.before a0 Z = true) (ws : List Jvm.Cond) (q1 : Int64) (q2 : Int64) (q3 : Int64) (q4 : Int64) (p8 : Int32) (xn : Addr) (cs : Int32) (h0 : Heap) (n0 : Nat) (Z0 : n0 ≤ h0.size) (hf : ¬ (p8 &&& (4 : Int32)) = 0) (S_String_COMPACT_STRINGS : Sta Z h0 "java/lang/String" "COMPACT_STRINGS" "Z" (.int cs)) (hcs : ¬ cs = 0) (S_BenchReport_Change_NONE : Sta Z h0 "com/example/rolling_rung/rollingrung/cli/BenchReport$Change" "NONE" "Lcom/example/rolling_rung/rollingrung/cli/BenchReport$Change;" (.ref xn)) (E_xn : Exa Z h0 xn "com/example/rolling_rung/rollingrung/cli/BenchReport$Change") (F_firstRung_xn : Fld Z h0 xn "com/example/rolling_rung/rollingrung/cli/BenchReport$Change" "firstRung" "J" (.long (9223372036854775807 : Int64))) :
    MetFree l x (head1 (Jvm.Cond.code x code maxLocals ret :: ws) room_1) (fun aa_ U_ => aa_ = #[(.long q1), (.long q2), (.long q3), (.long q4), (.int p8)] ∧ Z.Warmed39 U_.vm ∧ U_.heap = h0) (fun _ _ _ _ _ => True) (fun _ U_ o_ U'_ => ∃ v_ L_, o_ = .returned v_ ∧ Q_laws Z q1 q2 q3 q4 p8 xn cs h0 n0 v_ U'_.heap L_ ∧ FrameEnd U_ o_ U'_ L_ 4 13) := by
  refine MetFree.of_bodySF (plainFor_of_name pn_5) hisR ?_
  intro pP eE sS mM argsA below meth cC s₁ Bd hml0 hP hK
  obtain ⟨rfl, hZ, hh⟩ := hP
  have hx := Bd.exec
  have hby := Bd.bytes
  have hml : cC.maxLocals = 19 := hml0
  have hown : sS.vm.findClass "com/example/rolling_rung/rollingrung/cli/ChangeSpansPinLaw" = some mM.cls := findClass_of_methodNamed Bd.named
  have hnm := (name_of_methodNamed Bd.named Bd.method).1
  have X0 : Stand pP l eE room_1 sS mM #[(.long q1), (.long q2), (.long q3), (.long q4), (.int p8)] below meth cC s₁ [] 0 0 := Stand.of_body Bd
  have e0 : s₁.heap = h0 := by rw [← hh, Bd.state]; rfl
  have N0 := Fr.nil n0
  have pre0 : ∀ t_, Steps pP.tables eE below (s₁.setTop (mkF mM 0 #[.val (.long q1), .second, .val (.long q2), .second, .val (.long q3), .second, .val (.long q4), .second, .val (.int p8), .unset, .unset, .unset, .unset, .unset, .unset, .unset, .unset, .unset, .unset] [])) t_ → Steps pP.tables eE below (s₁.setTop (entryFrame mM #[(.long q1), (.long q2), (.long q3), (.long q4), (.int p8)] maxLocals)) t_ := fun t_ k_ => castTop (ef_laws mM q1 q2 q3 q4 p8) k_
  obtain ⟨_, _, ⟨T_3, L_3, k_3, n_3⟩, -, X_3, ⟨Lc_3, hQ_3, l_3, y_3, z_3⟩, st_3⟩ := Jvm.LawKit.callS X0 hx (y := (⟨"java/lang/String", "valueOf", "(C)Ljava/lang/String;"⟩ : MethodName)) hown (mvT hZ (hw _ (List.mem_of_getElem? (i := 56) rfl))) (mvT hZ (hw _ (List.mem_of_getElem? (i := 57) rfl))) (mvT hZ (hw _ (List.mem_of_getElem? (i := 58) rfl))) (mvT hZ (hw _ (List.mem_of_getElem? (i := 59) rfl))) (by decide) (backOf (W := 0) (rm_valof l Z a0 hw [] (((XT.ushr p8 (3 : Int32)) &&& (255 : Int32)).toUInt32.toUInt16.toUInt32.toInt32) cs h0 n0 Z0 S_String_COMPACT_STRINGS hcs (own_c255 _)) hZ (hw _ (List.mem_of_getElem? (i := 59) rfl)) (hw _ (List.mem_of_getElem? (i := 58) rfl)) (by decide) (by decide)) (g := (mkF mM 44 #[.val (.long q1), .second, .val (.long q2), .second, .val (.long q3), .second, .val (.long q4), .second, .val (.int p8), .val (.int (own_nz (p8 &&& (1 : Int32)))), .val (.int (own_nz (p8 &&& (2 : Int32)))), .unset, .unset, .unset, .unset, .unset, .unset, .unset, .unset] [(.int (((XT.ushr p8 (3 : Int32)) &&& (255 : Int32)).toUInt32.toUInt16.toUInt32.toInt32))])) rfl (by rw [hml]; rfl) (argsL := [(.int (((XT.ushr p8 (3 : Int32)) &&& (255 : Int32)).toUInt32.toUInt16.toUInt32.toInt32))]) (rest := []) (lenOf pd_5 rfl) rfl (by show 2 * 0 + _ ≤ _; exact Nat.le_of_eq rfl) (hb hby at_44) (fun _ _ => ⟨rfl, e0, (by decide : 0 + 2 ≤ _), (by decide : 0 + 5 ≤ _)⟩)
  dsimp only [Pt.U, Pt.locs, Pt.cells, Pt.slots] at X_3 l_3 y_3 z_3 st_3 hQ_3
  subst l_3 y_3 z_3
  obtain ⟨b__3, ⟨d__3, ⟨k__3, ⟨rfl, N_3q, Kc_3, pfsz_b_3, pfsz_d_3, pfE_b_3, pfF_value_b_3, pfF_coder_b_3, pfV_d_3⟩⟩⟩⟩ := hQ_3
  have Z_3 : n0 ≤ T_3.heap.size := (Nat.le_trans Z0 Kc_3.1)
  have K_3 : Keep h0 T_3.heap [] := (Keep.refl h0 []).trans Kc_3 all0
  have sz_b__3 : h0.size ≤ b__3 := Nat.le_trans (Keep.refl h0 []).1 pfsz_b_3
  have g_b__3 : n0 ≤ b__3 := Nat.le_trans Z0 pfsz_b_3
  have sz_d__3 : h0.size ≤ d__3 := Nat.le_trans (Keep.refl h0 []).1 pfsz_d_3
  have g_d__3 : n0 ≤ d__3 := Nat.le_trans Z0 pfsz_d_3
  have N_3 := Fr.app N0 N_3q
  obtain ⟨T_4, h_4, X_4, e_4, E_4, A_4, D_4, -, st_4⟩ := newO X_3 hx hZ hown (hw _ (List.mem_of_getElem? (i := 0) rfl)) (hw _ (List.mem_of_getElem? (i := 1) rfl)) (hw _ (List.mem_of_getElem? (i := 2) rfl)) rfl (g := (mkF mM 61 #[.val (.long q1), .second, .val (.long q2), .second, .val (.long q3), .second, .val (.long q4), .second, .val (.int p8), .val (.int (own_nz (p8 &&& (1 : Int32)))), .val (.int (own_nz (p8 &&& (2 : Int32)))), .val (.ref b__3), .val (.long ((p8 >>> ((11 : Int32) &&& 31)).toInt64)), .second, .unset, .unset, .unset, .unset, .unset] [])) rfl (hb hby at_61) (by decide) (by decide)
  obtain ⟨b_4, g_4⟩ : ∃ z, z = T_3.heap.size := ⟨_, rfl⟩
  rw [← g_4] at A_4 D_4 st_4
  have g_b_4 : n0 ≤ b_4 := Nat.le_trans Z_3 (Nat.le_of_eq g_4.symm)
  have sz_b_4 : h0.size ≤ b_4 := Nat.le_trans K_3.1 (Nat.le_of_eq g_4.symm)
  have Z_4 : n0 ≤ h_4.size := (Nat.le_trans Z_3 E_4.1)
  have K_4 : Keep h0 h_4 [] := K_3.ext E_4
  have F_write_b_4__4 : Fld Z h_4 b_4 "com/example/rolling_rung/rollingrung/cli/BenchReport$Operation" "write" "Z" (.int (0 : Int32)) := D_4 (Or.inr (hw _ (List.mem_of_getElem? (i := 15) rfl))) (ty := .boolean) (by decide)
  have F_began_b_4__4 : Fld Z h_4 b_4 "com/example/rolling_rung/rollingrung/cli/BenchReport$Operation" "began" "J" (.long (0 : Int64)) := D_4 (Or.inr (hw _ (List.mem_of_getElem? (i := 17) rfl))) (ty := .long) (by decide)
  have F_ended_b_4__4 : Fld Z h_4 b_4 "com/example/rolling_rung/rollingrung/cli/BenchReport$Operation" "ended" "J" (.long (0 : Int64)) := D_4 (Or.inr (hw _ (List.mem_of_getElem? (i := 19) rfl))) (ty := .long) (by decide)
  have F_version_b_4__4 : Fld Z h_4 b_4 "com/example/rolling_rung/rollingrung/cli/BenchReport$Operation" "version" "J" (.long (0 : Int64)) := D_4 (Or.inr (hw _ (List.mem_of_getElem? (i := 21) rfl))) (ty := .long) (by decide)
  have F_fenced_b_4__4 : Fld Z h_4 b_4 "com/example/rolling_rung/rollingrung/cli/BenchReport$Operation" "fenced" "Z" (.int (0 : Int32)) := D_4 (Or.inr (hw _ (List.mem_of_getElem? (i := 23) rfl))) (ty := .boolean) (by decide)
  have F_failure_b_4__4 : Fld Z h_4 b_4 "com/example/rolling_rung/rollingrung/cli/BenchReport$Operation" "failure" "Ljava/lang/String;" .null := D_4 (Or.inr (hw _ (List.mem_of_getElem? (i := 25) rfl))) (ty := (.object "java/lang/String")) (by decide)
  obtain ⟨_, _, ⟨T_5, L_5, k_5, n_5⟩, -, X_5, ⟨Lc_5, hQ_5, l_5, y_5, z_5⟩, st_5⟩ := X_4.specialBack hx (y := (⟨"com/example/rolling_rung/rollingrung/cli/BenchReport$Operation", "<init>", "(ZJJJZLjava/lang/String;)V"⟩ : MethodName)) rfl hown (mvT hZ (hw _ (List.mem_of_getElem? (i := 3) rfl))) (mvT hZ (hw _ (List.mem_of_getElem? (i := 4) rfl))) (mvT hZ (hw _ (List.mem_of_getElem? (i := 5) rfl))) (by decide) (backOf (W := 1) (rm_opis l Z a0 hw [] b_4 (own_nz (p8 &&& (1 : Int32))) q3 q4 ((p8 >>> ((11 : Int32) &&& 31)).toInt64) (own_nz (p8 &&& (2 : Int32))) b__3 h_4 n0 Z_4 F_write_b_4__4 F_began_b_4__4 F_ended_b_4__4 F_version_b_4__4 F_fenced_b_4__4 F_failure_b_4__4 A_4 g_b_4) hZ (hw _ (List.mem_of_getElem? (i := 5) rfl)) (hw _ (List.mem_of_getElem? (i := 2) rfl)) (by decide) (by decide)) (g := (mkF mM 77 #[.val (.long q1), .second, .val (.long q2), .second, .val (.long q3), .second, .val (.long q4), .second, .val (.int p8), .val (.int (own_nz (p8 &&& (1 : Int32)))), .val (.int (own_nz (p8 &&& (2 : Int32)))), .val (.ref b__3), .val (.long ((p8 >>> ((11 : Int32) &&& 31)).toInt64)), .second, .unset, .unset, .unset, .unset, .unset] [(.ref b__3), (.int (own_nz (p8 &&& (2 : Int32)))), (.long ((p8 >>> ((11 : Int32) &&& 31)).toInt64)), (.long q4), (.long q3), (.int (own_nz (p8 &&& (1 : Int32)))), (.ref b_4), (.ref b_4)])) rfl (by rw [hml]; rfl) (Steps.refl _) (a := b_4) (argsL := [(.int (own_nz (p8 &&& (1 : Int32)))), (.long q3), (.long q4), (.long ((p8 >>> ((11 : Int32) &&& 31)).toInt64)), (.int (own_nz (p8 &&& (2 : Int32)))), (.ref b__3)]) (rest := [(.ref b_4)]) (lenOf pd_6 rfl) rfl (by show 2 * 0 + _ ≤ _; exact Nat.le_of_eq rfl) (hb hby at_77) (fun _ _ => ⟨rfl, e_4, (by decide : 3 + 0 ≤ _), (by decide : 11 + 0 ≤ _)⟩)
  dsimp only [Pt.U, Pt.locs, Pt.cells, Pt.slots] at X_5 l_5 y_5 z_5 st_5 hQ_5
  subst l_5 y_5 z_5
  obtain ⟨rfl, N_5q, Kc_5, pfF_began_a_5, pfF_ended_a_5, pfE_a_5⟩ := hQ_5
  have Z_5 : n0 ≤ T_5.heap.size := (Nat.le_trans Z_4 Kc_5.1)
  have K_5 : Keep h0 T_5.heap [] := K_4.trans Kc_5 (allS (Or.inr sz_b_4) all0)
  have N_5 := Fr.app N_3 N_5q
  obtain ⟨T_6, h_6, X_6, e_6, E_6, A_6, D_6, -, st_6⟩ := newO X_5 hx hZ hown (hw _ (List.mem_of_getElem? (i := 26) rfl)) (hw _ (List.mem_of_getElem? (i := 27) rfl)) (hw _ (List.mem_of_getElem? (i := 28) rfl)) rfl (g := (mkF mM 82 #[.val (.long q1), .second, .val (.long q2), .second, .val (.long q3), .second, .val (.long q4), .second, .val (.int p8), .val (.int (own_nz (p8 &&& (1 : Int32)))), .val (.int (own_nz (p8 &&& (2 : Int32)))), .val (.ref b__3), .val (.long ((p8 >>> ((11 : Int32) &&& 31)).toInt64)), .second, .val (.ref b_4), .unset, .unset, .unset, .unset] [])) rfl (hb hby at_82) (by decide) (by decide)
  obtain ⟨b_6, g_6⟩ : ∃ z, z = T_5.heap.size := ⟨_, rfl⟩
  rw [← g_6] at A_6 D_6 st_6
  have g_b_6 : n0 ≤ b_6 := Nat.le_trans Z_5 (Nat.le_of_eq g_6.symm)
  have sz_b_6 : h0.size ≤ b_6 := Nat.le_trans K_5.1 (Nat.le_of_eq g_6.symm)
  have Z_6 : n0 ≤ h_6.size := (Nat.le_trans Z_5 E_6.1)
  have K_6 : Keep h0 h_6 [] := K_5.ext E_6
  have F_firstRung_b_6__6 : Fld Z h_6 b_6 "com/example/rolling_rung/rollingrung/cli/BenchReport$Change" "firstRung" "J" (.long (0 : Int64)) := D_6 (Or.inr (hw _ (List.mem_of_getElem? (i := 34) rfl))) (ty := .long) (by decide)
  have F_lastRung_b_6__6 : Fld Z h_6 b_6 "com/example/rolling_rung/rollingrung/cli/BenchReport$Change" "lastRung" "J" (.long (0 : Int64)) := D_6 (Or.inr (hw _ (List.mem_of_getElem? (i := 36) rfl))) (ty := .long) (by decide)
  obtain ⟨_, _, ⟨T_7, L_7, k_7, n_7⟩, -, X_7, ⟨Lc_7, hQ_7, l_7, y_7, z_7⟩, st_7⟩ := X_6.specialBack hx (y := (⟨"com/example/rolling_rung/rollingrung/cli/BenchReport$Change", "<init>", "(JJ)V"⟩ : MethodName)) rfl hown (mvT hZ (hw _ (List.mem_of_getElem? (i := 29) rfl))) (mvT hZ (hw _ (List.mem_of_getElem? (i := 30) rfl))) (mvT hZ (hw _ (List.mem_of_getElem? (i := 31) rfl))) (by decide) (backOf (W := 1) (rm_chi l Z a0 hw [] b_6 q1 q2 h_6 n0 Z_6 F_firstRung_b_6__6 F_lastRung_b_6__6 A_6 g_b_6) hZ (hw _ (List.mem_of_getElem? (i := 31) rfl)) (hw _ (List.mem_of_getElem? (i := 28) rfl)) (by decide) (by decide)) (g := (mkF mM 88 #[.val (.long q1), .second, .val (.long q2), .second, .val (.long q3), .second, .val (.long q4), .second, .val (.int p8), .val (.int (own_nz (p8 &&& (1 : Int32)))), .val (.int (own_nz (p8 &&& (2 : Int32)))), .val (.ref b__3), .val (.long ((p8 >>> ((11 : Int32) &&& 31)).toInt64)), .second, .val (.ref b_4), .unset, .unset, .unset, .unset] [(.long q2), (.long q1), (.ref b_6), (.ref b_6)])) rfl (by rw [hml]; rfl) (Steps.refl _) (a := b_6) (argsL := [(.long q1), (.long q2)]) (rest := [(.ref b_6)]) (lenOf pd_7 rfl) rfl (by show 2 * 0 + _ ≤ _; exact Nat.le_of_eq rfl) (hb hby at_88) (fun _ _ => ⟨rfl, e_6, (by decide : 4 + 0 ≤ _), (by decide : 13 + 0 ≤ _)⟩)
  dsimp only [Pt.U, Pt.locs, Pt.cells, Pt.slots] at X_7 l_7 y_7 z_7 st_7 hQ_7
  subst l_7 y_7 z_7
  obtain ⟨rfl, N_7q, Kc_7, pfF_firstRung_a_7, pfF_lastRung_a_7, pfE_a_7⟩ := hQ_7
  have Z_7 : n0 ≤ T_7.heap.size := (Nat.le_trans Z_6 Kc_7.1)
  have K_7 : Keep h0 T_7.heap [] := K_6.trans Kc_7 (allS (Or.inr sz_b_6) all0)
  have N_7 := Fr.app N_5 N_7q
  obtain ⟨_, _, ⟨T_8, L_8, k_8, n_8⟩, -, X_8, ⟨Lc_8, hQ_8, l_8, y_8, z_8⟩, st_8⟩ := Jvm.LawKit.callS X_7 hx (y := (⟨"java/lang/Math", "max", "(JJ)J"⟩ : MethodName)) hown (mvT hZ (hw _ (List.mem_of_getElem? (i := 37) rfl))) (mvT hZ (hw _ (List.mem_of_getElem? (i := 38) rfl))) (mvT hZ (hw _ (List.mem_of_getElem? (i := 39) rfl))) (mvT hZ (hw _ (List.mem_of_getElem? (i := 40) rfl))) (by decide) (backOf (W := 0) (rm_max l Z a0 hw [] q3 q1 T_7.heap n0 Z_7 ) hZ (hw _ (List.mem_of_getElem? (i := 40) rfl)) (hw _ (List.mem_of_getElem? (i := 39) rfl)) (by decide) (by decide)) (g := (mkF mM 96 #[.val (.long q1), .second, .val (.long q2), .second, .val (.long q3), .second, .val (.long q4), .second, .val (.int p8), .val (.int (own_nz (p8 &&& (1 : Int32)))), .val (.int (own_nz (p8 &&& (2 : Int32)))), .val (.ref b__3), .val (.long ((p8 >>> ((11 : Int32) &&& 31)).toInt64)), .second, .val (.ref b_4), .val (.ref b_6), .unset, .unset, .unset] [(.long q1), (.long q3)])) rfl (by rw [hml]; rfl) (argsL := [(.long q3), (.long q1)]) (rest := []) (lenOf pd_8 rfl) rfl (by show 2 * 0 + _ ≤ _; exact Nat.le_of_eq rfl) (hb hby at_96) (fun _ _ => ⟨rfl, rfl, (by decide : 4 + 0 ≤ _), (by decide : 13 + 0 ≤ _)⟩)
  dsimp only [Pt.U, Pt.locs, Pt.cells, Pt.slots] at X_8 l_8 y_8 z_8 st_8 hQ_8
  subst l_8 y_8 z_8
  obtain ⟨rfl, N_8q, eh_8⟩ := hQ_8
  have N_8 := Fr.app N_7 N_8q
  obtain ⟨_, _, ⟨T_10, L_10, k_10, n_10⟩, -, X_10, ⟨Lc_10, hQ_10, l_10, y_10, z_10⟩, st_10⟩ := Jvm.LawKit.callS X_8 hx (y := (⟨"java/lang/Math", "min", "(JJ)J"⟩ : MethodName)) hown (mvT hZ (hw _ (List.mem_of_getElem? (i := 41) rfl))) (mvT hZ (hw _ (List.mem_of_getElem? (i := 42) rfl))) (mvT hZ (hw _ (List.mem_of_getElem? (i := 39) rfl))) (mvT hZ (hw _ (List.mem_of_getElem? (i := 43) rfl))) (by decide) (backOf (W := 0) (rm_min l Z a0 hw [] q4 q2 T_7.heap n0 Z_7 ) hZ (hw _ (List.mem_of_getElem? (i := 43) rfl)) (hw _ (List.mem_of_getElem? (i := 39) rfl)) (by decide) (by decide)) (g := (mkF mM 122 #[.val (.long q1), .second, .val (.long q2), .second, .val (.long q3), .second, .val (.long q4), .second, .val (.int p8), .val (.int (own_nz (p8 &&& (1 : Int32)))), .val (.int (own_nz (p8 &&& (2 : Int32)))), .val (.ref b__3), .val (.long ((p8 >>> ((11 : Int32) &&& 31)).toInt64)), .second, .val (.ref b_4), .val (.ref b_6), .val (.int (own_af q3 q1)), .unset, .unset] [(.long q2), (.long q4)])) rfl (by rw [hml]; rfl) (argsL := [(.long q4), (.long q2)]) (rest := []) (lenOf pd_8 rfl) rfl (by show 2 * 0 + _ ≤ _; exact Nat.le_of_eq rfl) (hb hby at_122) (fun _ _ => ⟨rfl, eh_8, (by decide : 4 + 0 ≤ _), (by decide : 13 + 0 ≤ _)⟩)
  dsimp only [Pt.U, Pt.locs, Pt.cells, Pt.slots] at X_10 l_10 y_10 z_10 st_10 hQ_10
  subst l_10 y_10 z_10
  obtain ⟨rfl, N_10q, eh_10⟩ := hQ_10
  have N_10 := Fr.app N_8 N_10q
  obtain ⟨cq_13, kq_13, q_13a, q_13b, q_13c⟩ := isOf hZ eh_10 pfE_a_7
  obtain ⟨_, _, ⟨T_13, L_13, k_13, n_13⟩, -, X_13, ⟨Lc_13, hQ_13, l_13, y_13, z_13⟩, st_13⟩ := X_10.virtualBack hx (y := (⟨"com/example/rolling_rung/rollingrung/cli/BenchReport$Change", "spans", "(Lcom/example/rolling_rung/rollingrung/cli/BenchReport$Operation;)Z"⟩ : MethodName)) (z := (⟨"com/example/rolling_rung/rollingrung/cli/BenchReport$Change", "spans", "(Lcom/example/rolling_rung/rollingrung/cli/BenchReport$Operation;)Z"⟩ : MethodName)) hown (mvT hZ (hw _ (List.mem_of_getElem? (i := 44) rfl))) (mvT hZ (hw _ (List.mem_of_getElem? (i := 45) rfl))) (notFace_of_selects (args := #[]) (mvT hZ (hw _ (List.mem_of_getElem? (i := 47) rfl)))) (mvT hZ (hw _ (List.mem_of_getElem? (i := 47) rfl))) (mvT hZ (hw _ (List.mem_of_getElem? (i := 46) rfl))) (by decide) (backOf (W := 0) (rm_sp l Z a0 hw [] b_6 b_4 q1 q2 q3 q4 T_7.heap n0 Z_7 pfF_firstRung_a_7 pfF_lastRung_a_7 ((pfE_a_5.ext E_6).keep Kc_7) ((pfF_began_a_5.ext E_6).keep Kc_7 (ninS (Nat.ne_of_lt (Nat.lt_of_lt_of_le pfE_a_5.lt (Nat.le_of_eq g_6.symm))) nin0)) ((pfF_ended_a_5.ext E_6).keep Kc_7 (ninS (Nat.ne_of_lt (Nat.lt_of_lt_of_le pfE_a_5.lt (Nat.le_of_eq g_6.symm))) nin0))) hZ (hw _ (List.mem_of_getElem? (i := 48) rfl)) (hw _ (List.mem_of_getElem? (i := 28) rfl)) (by decide) (by decide)) q_13a q_13c (g := (mkF mM 166 #[.val (.long q1), .second, .val (.long q2), .second, .val (.long q3), .second, .val (.long q4), .second, .val (.int p8), .val (.int (own_nz (p8 &&& (1 : Int32)))), .val (.int (own_nz (p8 &&& (2 : Int32)))), .val (.ref b__3), .val (.long ((p8 >>> ((11 : Int32) &&& 31)).toInt64)), .second, .val (.ref b_4), .val (.ref b_6), .val (.int (own_af q3 q1)), .val (.int (own_bl q4 q2)), .val (.int (own_and (own_af q3 q1) (own_bl q4 q2)))] [(.ref b_4), (.ref b_6)])) rfl (by rw [hml]; rfl) (Steps.refl _) (argsL := [(.ref b_4)]) (rest := []) (lenOf pd_9 rfl) rfl (by show 2 * 0 + _ ≤ _; exact Nat.le_of_eq rfl) (hb hby at_166) (fun _ _ => ⟨rfl, eh_10, (by decide : 4 + 0 ≤ _), (by decide : 13 + 0 ≤ _)⟩)
  dsimp only [Pt.U, Pt.locs, Pt.cells, Pt.slots] at X_13 l_13 y_13 z_13 st_13 hQ_13
  subst l_13 y_13 z_13
  obtain ⟨rfl, N_13q, eh_13⟩ := hQ_13
  have N_13 := Fr.app N_10 N_13q
  obtain ⟨T_14, X_14, e_14, st_14⟩ := getS2 X_13 hx hZ hown (host := "") (Or.inl (hw _ (List.mem_of_getElem? (i := 54) rfl))) Via.refl eh_13 (own_sta_keep ((own_sta_keep ((own_sta_keep S_BenchReport_Change_NONE Kc_3 all0).ext E_4) Kc_5 (allS (own_exa_ns A_4) all0)).ext E_6) Kc_7 (allS (own_exa_ns A_6) all0)) (g := (mkF mM 174 #[.val (.long q1), .second, .val (.long q2), .second, .val (.long q3), .second, .val (.long q4), .second, .val (.int p8), .val (.int (own_nz (p8 &&& (1 : Int32)))), .val (.int (own_nz (p8 &&& (2 : Int32)))), .val (.ref b__3), .val (.long ((p8 >>> ((11 : Int32) &&& 31)).toInt64)), .second, .val (.ref b_4), .val (.ref b_6), .val (.int (own_af q3 q1)), .val (.int (own_bl q4 q2)), .val (.int (own_and (own_af q3 q1) (own_bl q4 q2)))] [])) rfl (hb hby at_174)
  obtain ⟨cq_15, kq_15, q_15a, q_15b, q_15c⟩ := isOf hZ e_14 (((((E_xn.keep Kc_3).ext E_4).keep Kc_5).ext E_6).keep Kc_7)
  obtain ⟨_, _, ⟨T_15, L_15, k_15, n_15⟩, -, X_15, ⟨Lc_15, hQ_15, l_15, y_15, z_15⟩, st_15⟩ := X_14.virtualBack hx (y := (⟨"com/example/rolling_rung/rollingrung/cli/BenchReport$Change", "spans", "(Lcom/example/rolling_rung/rollingrung/cli/BenchReport$Operation;)Z"⟩ : MethodName)) (z := (⟨"com/example/rolling_rung/rollingrung/cli/BenchReport$Change", "spans", "(Lcom/example/rolling_rung/rollingrung/cli/BenchReport$Operation;)Z"⟩ : MethodName)) hown (mvT hZ (hw _ (List.mem_of_getElem? (i := 44) rfl))) (mvT hZ (hw _ (List.mem_of_getElem? (i := 45) rfl))) (notFace_of_selects (args := #[]) (mvT hZ (hw _ (List.mem_of_getElem? (i := 47) rfl)))) (mvT hZ (hw _ (List.mem_of_getElem? (i := 47) rfl))) (mvT hZ (hw _ (List.mem_of_getElem? (i := 46) rfl))) (by decide) (backOf (W := 0) (rm_spN l Z a0 hw [] xn b_4 (9223372036854775807 : Int64) q3 q4 T_7.heap n0 Z_7 (((((F_firstRung_xn.keep Kc_3 nin0).ext E_4).keep Kc_5 (ninS (Nat.ne_of_lt (Nat.lt_of_lt_of_le (E_xn.keep Kc_3).lt (Nat.le_of_eq g_4.symm))) nin0)).ext E_6).keep Kc_7 (ninS (Nat.ne_of_lt (Nat.lt_of_lt_of_le (((E_xn.keep Kc_3).ext E_4).keep Kc_5).lt (Nat.le_of_eq g_6.symm))) nin0)) ((pfE_a_5.ext E_6).keep Kc_7) ((pfF_began_a_5.ext E_6).keep Kc_7 (ninS (Nat.ne_of_lt (Nat.lt_of_lt_of_le pfE_a_5.lt (Nat.le_of_eq g_6.symm))) nin0)) ((pfF_ended_a_5.ext E_6).keep Kc_7 (ninS (Nat.ne_of_lt (Nat.lt_of_lt_of_le pfE_a_5.lt (Nat.le_of_eq g_6.symm))) nin0)) (own_none q3)) hZ (hw _ (List.mem_of_getElem? (i := 48) rfl)) (hw _ (List.mem_of_getElem? (i := 28) rfl)) (by decide) (by decide)) q_15a q_15c (g := (mkF mM 179 #[.val (.long q1), .second, .val (.long q2), .second, .val (.long q3), .second, .val (.long q4), .second, .val (.int p8), .val (.int (own_nz (p8 &&& (1 : Int32)))), .val (.int (own_nz (p8 &&& (2 : Int32)))), .val (.ref b__3), .val (.long ((p8 >>> ((11 : Int32) &&& 31)).toInt64)), .second, .val (.ref b_4), .val (.ref b_6), .val (.int (own_af q3 q1)), .val (.int (own_bl q4 q2)), .val (.int (own_and (own_af q3 q1) (own_bl q4 q2)))] [(.ref b_4), (.ref xn)])) rfl (by rw [hml]; rfl) (Steps.refl _) (argsL := [(.ref b_4)]) (rest := []) (lenOf pd_9 rfl) rfl (by show 2 * 0 + _ ≤ _; exact Nat.le_of_eq rfl) (hb hby at_179) (fun _ _ => ⟨rfl, e_14, (by decide : 4 + 0 ≤ _), (by decide : 13 + 0 ≤ _)⟩)
  dsimp only [Pt.U, Pt.locs, Pt.cells, Pt.slots] at X_15 l_15 y_15 z_15 st_15 hQ_15
  subst l_15 y_15 z_15
  obtain ⟨rfl, N_15q, eh_15⟩ := hQ_15
  have N_15 := Fr.app N_13 N_15q
  obtain ⟨fs, hr, hrun, hended, hW, hsame⟩ := X_15.leave (v := some (.int (1 : Int32))) (fun h => by rw [Bd.returns] at h; cases h)
  refine ⟨_, _, pre0 _ ?_, hrun, hended, _, _, rfl, ?_, ⟨_, rfl⟩, hW, hsame.mono (by decide) (by decide)⟩
  · show Steps pP.tables eE below (s₁.setTop (mkF mM 0 #[.val (.long q1), .second, .val (.long q2), .second, .val (.long q3), .second, .val (.long q4), .second, .val (.int p8), .unset, .unset, .unset, .unset, .unset, .unset, .unset, .unset, .unset, .unset] [])) _
    refine XS.iload X0.here hx rfl (hb hby at_0) rfl ?_
    show Steps pP.tables eE below (s₁.setTop (mkF mM 2 #[.val (.long q1), .second, .val (.long q2), .second, .val (.long q3), .second, .val (.long q4), .second, .val (.int p8), .unset, .unset, .unset, .unset, .unset, .unset, .unset, .unset, .unset, .unset] [(.int p8)])) _
    refine XS.iconst X0.here hx rfl (hb hby at_2) ?_
    show Steps pP.tables eE below (s₁.setTop (mkF mM 3 #[.val (.long q1), .second, .val (.long q2), .second, .val (.long q3), .second, .val (.long q4), .second, .val (.int p8), .unset, .unset, .unset, .unset, .unset, .unset, .unset, .unset, .unset, .unset] [(.int (1 : Int32)), (.int p8)])) _
    refine XS.iand X0.here hx rfl (hb hby at_3) rfl ?_
    show Steps pP.tables eE below (s₁.setTop (mkF mM 4 #[.val (.long q1), .second, .val (.long q2), .second, .val (.long q3), .second, .val (.long q4), .second, .val (.int p8), .unset, .unset, .unset, .unset, .unset, .unset, .unset, .unset, .unset, .unset] [(.int (p8 &&& (1 : Int32)))])) _
    have jn_1 : ∀ t_, Steps pP.tables eE below (s₁.setTop (mkF mM 12 #[.val (.long q1), .second, .val (.long q2), .second, .val (.long q3), .second, .val (.long q4), .second, .val (.int p8), .unset, .unset, .unset, .unset, .unset, .unset, .unset, .unset, .unset, .unset] [(.int (own_nz (p8 &&& (1 : Int32))))])) t_ → Steps pP.tables eE below (s₁.setTop (mkF mM 4 #[.val (.long q1), .second, .val (.long q2), .second, .val (.long q3), .second, .val (.long q4), .second, .val (.int p8), .unset, .unset, .unset, .unset, .unset, .unset, .unset, .unset, .unset, .unset] [(.int (p8 &&& (1 : Int32)))])) t_ := by
      intro t_ kt
      by_cases hz : (p8 &&& (1 : Int32)) = 0
      · have hj : (own_nz (p8 &&& (1 : Int32))) = (0 : Int32) := if_pos hz
        rw [hj] at kt
        show Steps pP.tables eE below (s₁.setTop (mkF mM 4 #[.val (.long q1), .second, .val (.long q2), .second, .val (.long q3), .second, .val (.long q4), .second, .val (.int p8), .unset, .unset, .unset, .unset, .unset, .unset, .unset, .unset, .unset, .unset] [(.int (p8 &&& (1 : Int32)))])) _
        refine XS.ifYes X0.here hx rfl (pc0 := 4) (pc' := 11) rfl (hb hby at_4) rfl (XT.i0_eq_t hz) (by decide) (by decide) ?_
        show Steps pP.tables eE below (s₁.setTop (mkF mM 11 #[.val (.long q1), .second, .val (.long q2), .second, .val (.long q3), .second, .val (.long q4), .second, .val (.int p8), .unset, .unset, .unset, .unset, .unset, .unset, .unset, .unset, .unset, .unset] [])) _
        refine XS.iconst X0.here hx rfl (hb hby at_11) ?_
        show Steps pP.tables eE below (s₁.setTop (mkF mM 12 #[.val (.long q1), .second, .val (.long q2), .second, .val (.long q3), .second, .val (.long q4), .second, .val (.int p8), .unset, .unset, .unset, .unset, .unset, .unset, .unset, .unset, .unset, .unset] [(.int (0 : Int32))])) _
        exact kt
      · have hj : (own_nz (p8 &&& (1 : Int32))) = (1 : Int32) := if_neg hz
        rw [hj] at kt
        show Steps pP.tables eE below (s₁.setTop (mkF mM 4 #[.val (.long q1), .second, .val (.long q2), .second, .val (.long q3), .second, .val (.long q4), .second, .val (.int p8), .unset, .unset, .unset, .unset, .unset, .unset, .unset, .unset, .unset, .unset] [(.int (p8 &&& (1 : Int32)))])) _
        refine XS.ifNo X0.here hx rfl (hb hby at_4) rfl (XT.i0_eq_f hz) ?_
        show Steps pP.tables eE below (s₁.setTop (mkF mM 7 #[.val (.long q1), .second, .val (.long q2), .second, .val (.long q3), .second, .val (.long q4), .second, .val (.int p8), .unset, .unset, .unset, .unset, .unset, .unset, .unset, .unset, .unset, .unset] [])) _
        refine XS.iconst X0.here hx rfl (hb hby at_7) ?_
        show Steps pP.tables eE below (s₁.setTop (mkF mM 8 #[.val (.long q1), .second, .val (.long q2), .second, .val (.long q3), .second, .val (.long q4), .second, .val (.int p8), .unset, .unset, .unset, .unset, .unset, .unset, .unset, .unset, .unset, .unset] [(.int (1 : Int32))])) _
        refine XS.goto X0.here hx rfl (pc0 := 8) (pc' := 12) rfl (hb hby at_8) (by decide) (by decide) ?_
        show Steps pP.tables eE below (s₁.setTop (mkF mM 12 #[.val (.long q1), .second, .val (.long q2), .second, .val (.long q3), .second, .val (.long q4), .second, .val (.int p8), .unset, .unset, .unset, .unset, .unset, .unset, .unset, .unset, .unset, .unset] [(.int (1 : Int32))])) _
        exact kt
    refine jn_1 _ ?_
    show Steps pP.tables eE below (s₁.setTop (mkF mM 12 #[.val (.long q1), .second, .val (.long q2), .second, .val (.long q3), .second, .val (.long q4), .second, .val (.int p8), .unset, .unset, .unset, .unset, .unset, .unset, .unset, .unset, .unset, .unset] [(.int (own_nz (p8 &&& (1 : Int32))))])) _
    refine XS.istore X0.here hx rfl (hb hby at_12) rfl (l' := #[.val (.long q1), .second, .val (.long q2), .second, .val (.long q3), .second, .val (.long q4), .second, .val (.int p8), .val (.int (own_nz (p8 &&& (1 : Int32)))), .unset, .unset, .unset, .unset, .unset, .unset, .unset, .unset, .unset]) rfl ?_
    show Steps pP.tables eE below (s₁.setTop (mkF mM 14 #[.val (.long q1), .second, .val (.long q2), .second, .val (.long q3), .second, .val (.long q4), .second, .val (.int p8), .val (.int (own_nz (p8 &&& (1 : Int32)))), .unset, .unset, .unset, .unset, .unset, .unset, .unset, .unset, .unset] [])) _
    refine XS.iload X0.here hx rfl (hb hby at_14) rfl ?_
    show Steps pP.tables eE below (s₁.setTop (mkF mM 16 #[.val (.long q1), .second, .val (.long q2), .second, .val (.long q3), .second, .val (.long q4), .second, .val (.int p8), .val (.int (own_nz (p8 &&& (1 : Int32)))), .unset, .unset, .unset, .unset, .unset, .unset, .unset, .unset, .unset] [(.int p8)])) _
    refine XS.iconst X0.here hx rfl (hb hby at_16) ?_
    show Steps pP.tables eE below (s₁.setTop (mkF mM 17 #[.val (.long q1), .second, .val (.long q2), .second, .val (.long q3), .second, .val (.long q4), .second, .val (.int p8), .val (.int (own_nz (p8 &&& (1 : Int32)))), .unset, .unset, .unset, .unset, .unset, .unset, .unset, .unset, .unset] [(.int (2 : Int32)), (.int p8)])) _
    refine XS.iand X0.here hx rfl (hb hby at_17) rfl ?_
    show Steps pP.tables eE below (s₁.setTop (mkF mM 18 #[.val (.long q1), .second, .val (.long q2), .second, .val (.long q3), .second, .val (.long q4), .second, .val (.int p8), .val (.int (own_nz (p8 &&& (1 : Int32)))), .unset, .unset, .unset, .unset, .unset, .unset, .unset, .unset, .unset] [(.int (p8 &&& (2 : Int32)))])) _
    have jn_2 : ∀ t_, Steps pP.tables eE below (s₁.setTop (mkF mM 26 #[.val (.long q1), .second, .val (.long q2), .second, .val (.long q3), .second, .val (.long q4), .second, .val (.int p8), .val (.int (own_nz (p8 &&& (1 : Int32)))), .unset, .unset, .unset, .unset, .unset, .unset, .unset, .unset, .unset] [(.int (own_nz (p8 &&& (2 : Int32))))])) t_ → Steps pP.tables eE below (s₁.setTop (mkF mM 18 #[.val (.long q1), .second, .val (.long q2), .second, .val (.long q3), .second, .val (.long q4), .second, .val (.int p8), .val (.int (own_nz (p8 &&& (1 : Int32)))), .unset, .unset, .unset, .unset, .unset, .unset, .unset, .unset, .unset] [(.int (p8 &&& (2 : Int32)))])) t_ := by
      intro t_ kt
      by_cases hz : (p8 &&& (2 : Int32)) = 0
      · have hj : (own_nz (p8 &&& (2 : Int32))) = (0 : Int32) := if_pos hz
        rw [hj] at kt
        show Steps pP.tables eE below (s₁.setTop (mkF mM 18 #[.val (.long q1), .second, .val (.long q2), .second, .val (.long q3), .second, .val (.long q4), .second, .val (.int p8), .val (.int (own_nz (p8 &&& (1 : Int32)))), .unset, .unset, .unset, .unset, .unset, .unset, .unset, .unset, .unset] [(.int (p8 &&& (2 : Int32)))])) _
        refine XS.ifYes X0.here hx rfl (pc0 := 18) (pc' := 25) rfl (hb hby at_18) rfl (XT.i0_eq_t hz) (by decide) (by decide) ?_
        show Steps pP.tables eE below (s₁.setTop (mkF mM 25 #[.val (.long q1), .second, .val (.long q2), .second, .val (.long q3), .second, .val (.long q4), .second, .val (.int p8), .val (.int (own_nz (p8 &&& (1 : Int32)))), .unset, .unset, .unset, .unset, .unset, .unset, .unset, .unset, .unset] [])) _
        refine XS.iconst X0.here hx rfl (hb hby at_25) ?_
        show Steps pP.tables eE below (s₁.setTop (mkF mM 26 #[.val (.long q1), .second, .val (.long q2), .second, .val (.long q3), .second, .val (.long q4), .second, .val (.int p8), .val (.int (own_nz (p8 &&& (1 : Int32)))), .unset, .unset, .unset, .unset, .unset, .unset, .unset, .unset, .unset] [(.int (0 : Int32))])) _
        exact kt
      · have hj : (own_nz (p8 &&& (2 : Int32))) = (1 : Int32) := if_neg hz
        rw [hj] at kt
        show Steps pP.tables eE below (s₁.setTop (mkF mM 18 #[.val (.long q1), .second, .val (.long q2), .second, .val (.long q3), .second, .val (.long q4), .second, .val (.int p8), .val (.int (own_nz (p8 &&& (1 : Int32)))), .unset, .unset, .unset, .unset, .unset, .unset, .unset, .unset, .unset] [(.int (p8 &&& (2 : Int32)))])) _
        refine XS.ifNo X0.here hx rfl (hb hby at_18) rfl (XT.i0_eq_f hz) ?_
        show Steps pP.tables eE below (s₁.setTop (mkF mM 21 #[.val (.long q1), .second, .val (.long q2), .second, .val (.long q3), .second, .val (.long q4), .second, .val (.int p8), .val (.int (own_nz (p8 &&& (1 : Int32)))), .unset, .unset, .unset, .unset, .unset, .unset, .unset, .unset, .unset] [])) _
        refine XS.iconst X0.here hx rfl (hb hby at_21) ?_
        show Steps pP.tables eE below (s₁.setTop (mkF mM 22 #[.val (.long q1), .second, .val (.long q2), .second, .val (.long q3), .second, .val (.long q4), .second, .val (.int p8), .val (.int (own_nz (p8 &&& (1 : Int32)))), .unset, .unset, .unset, .unset, .unset, .unset, .unset, .unset, .unset] [(.int (1 : Int32))])) _
        refine XS.goto X0.here hx rfl (pc0 := 22) (pc' := 26) rfl (hb hby at_22) (by decide) (by decide) ?_
        show Steps pP.tables eE below (s₁.setTop (mkF mM 26 #[.val (.long q1), .second, .val (.long q2), .second, .val (.long q3), .second, .val (.long q4), .second, .val (.int p8), .val (.int (own_nz (p8 &&& (1 : Int32)))), .unset, .unset, .unset, .unset, .unset, .unset, .unset, .unset, .unset] [(.int (1 : Int32))])) _
        exact kt
    refine jn_2 _ ?_
    show Steps pP.tables eE below (s₁.setTop (mkF mM 26 #[.val (.long q1), .second, .val (.long q2), .second, .val (.long q3), .second, .val (.long q4), .second, .val (.int p8), .val (.int (own_nz (p8 &&& (1 : Int32)))), .unset, .unset, .unset, .unset, .unset, .unset, .unset, .unset, .unset] [(.int (own_nz (p8 &&& (2 : Int32))))])) _
    refine XS.istore X0.here hx rfl (hb hby at_26) rfl (l' := #[.val (.long q1), .second, .val (.long q2), .second, .val (.long q3), .second, .val (.long q4), .second, .val (.int p8), .val (.int (own_nz (p8 &&& (1 : Int32)))), .val (.int (own_nz (p8 &&& (2 : Int32)))), .unset, .unset, .unset, .unset, .unset, .unset, .unset, .unset]) rfl ?_
    show Steps pP.tables eE below (s₁.setTop (mkF mM 28 #[.val (.long q1), .second, .val (.long q2), .second, .val (.long q3), .second, .val (.long q4), .second, .val (.int p8), .val (.int (own_nz (p8 &&& (1 : Int32)))), .val (.int (own_nz (p8 &&& (2 : Int32)))), .unset, .unset, .unset, .unset, .unset, .unset, .unset, .unset] [])) _
    refine XS.iload X0.here hx rfl (hb hby at_28) rfl ?_
    show Steps pP.tables eE below (s₁.setTop (mkF mM 30 #[.val (.long q1), .second, .val (.long q2), .second, .val (.long q3), .second, .val (.long q4), .second, .val (.int p8), .val (.int (own_nz (p8 &&& (1 : Int32)))), .val (.int (own_nz (p8 &&& (2 : Int32)))), .unset, .unset, .unset, .unset, .unset, .unset, .unset, .unset] [(.int p8)])) _
    refine XS.iconst X0.here hx rfl (hb hby at_30) ?_
    show Steps pP.tables eE below (s₁.setTop (mkF mM 31 #[.val (.long q1), .second, .val (.long q2), .second, .val (.long q3), .second, .val (.long q4), .second, .val (.int p8), .val (.int (own_nz (p8 &&& (1 : Int32)))), .val (.int (own_nz (p8 &&& (2 : Int32)))), .unset, .unset, .unset, .unset, .unset, .unset, .unset, .unset] [(.int (4 : Int32)), (.int p8)])) _
    refine XS.iand X0.here hx rfl (hb hby at_31) rfl ?_
    show Steps pP.tables eE below (s₁.setTop (mkF mM 32 #[.val (.long q1), .second, .val (.long q2), .second, .val (.long q3), .second, .val (.long q4), .second, .val (.int p8), .val (.int (own_nz (p8 &&& (1 : Int32)))), .val (.int (own_nz (p8 &&& (2 : Int32)))), .unset, .unset, .unset, .unset, .unset, .unset, .unset, .unset] [(.int (p8 &&& (4 : Int32)))])) _
    refine XS.ifNo X0.here hx rfl (hb hby at_32) rfl (XT.i0_eq_f hf) ?_
    show Steps pP.tables eE below (s₁.setTop (mkF mM 35 #[.val (.long q1), .second, .val (.long q2), .second, .val (.long q3), .second, .val (.long q4), .second, .val (.int p8), .val (.int (own_nz (p8 &&& (1 : Int32)))), .val (.int (own_nz (p8 &&& (2 : Int32)))), .unset, .unset, .unset, .unset, .unset, .unset, .unset, .unset] [])) _
    refine XS.iload X0.here hx rfl (hb hby at_35) rfl ?_
    show Steps pP.tables eE below (s₁.setTop (mkF mM 37 #[.val (.long q1), .second, .val (.long q2), .second, .val (.long q3), .second, .val (.long q4), .second, .val (.int p8), .val (.int (own_nz (p8 &&& (1 : Int32)))), .val (.int (own_nz (p8 &&& (2 : Int32)))), .unset, .unset, .unset, .unset, .unset, .unset, .unset, .unset] [(.int p8)])) _
    refine XS.iconst X0.here hx rfl (hb hby at_37) ?_
    show Steps pP.tables eE below (s₁.setTop (mkF mM 38 #[.val (.long q1), .second, .val (.long q2), .second, .val (.long q3), .second, .val (.long q4), .second, .val (.int p8), .val (.int (own_nz (p8 &&& (1 : Int32)))), .val (.int (own_nz (p8 &&& (2 : Int32)))), .unset, .unset, .unset, .unset, .unset, .unset, .unset, .unset] [(.int (3 : Int32)), (.int p8)])) _
    refine XT.iushr X0.here hx rfl (hb hby at_38) rfl ?_
    show Steps pP.tables eE below (s₁.setTop (mkF mM 39 #[.val (.long q1), .second, .val (.long q2), .second, .val (.long q3), .second, .val (.long q4), .second, .val (.int p8), .val (.int (own_nz (p8 &&& (1 : Int32)))), .val (.int (own_nz (p8 &&& (2 : Int32)))), .unset, .unset, .unset, .unset, .unset, .unset, .unset, .unset] [(.int (XT.ushr p8 (3 : Int32)))])) _
    refine XS.sipush X0.here hx rfl (hb hby at_39) ?_
    show Steps pP.tables eE below (s₁.setTop (mkF mM 42 #[.val (.long q1), .second, .val (.long q2), .second, .val (.long q3), .second, .val (.long q4), .second, .val (.int p8), .val (.int (own_nz (p8 &&& (1 : Int32)))), .val (.int (own_nz (p8 &&& (2 : Int32)))), .unset, .unset, .unset, .unset, .unset, .unset, .unset, .unset] [(.int (255 : Int32)), (.int (XT.ushr p8 (3 : Int32)))])) _
    refine XS.iand X0.here hx rfl (hb hby at_42) rfl ?_
    show Steps pP.tables eE below (s₁.setTop (mkF mM 43 #[.val (.long q1), .second, .val (.long q2), .second, .val (.long q3), .second, .val (.long q4), .second, .val (.int p8), .val (.int (own_nz (p8 &&& (1 : Int32)))), .val (.int (own_nz (p8 &&& (2 : Int32)))), .unset, .unset, .unset, .unset, .unset, .unset, .unset, .unset] [(.int ((XT.ushr p8 (3 : Int32)) &&& (255 : Int32)))])) _
    refine XT.i2c X0.here hx rfl (hb hby at_43) rfl ?_
    show Steps pP.tables eE below (s₁.setTop (mkF mM 44 #[.val (.long q1), .second, .val (.long q2), .second, .val (.long q3), .second, .val (.long q4), .second, .val (.int p8), .val (.int (own_nz (p8 &&& (1 : Int32)))), .val (.int (own_nz (p8 &&& (2 : Int32)))), .unset, .unset, .unset, .unset, .unset, .unset, .unset, .unset] [(.int (((XT.ushr p8 (3 : Int32)) &&& (255 : Int32)).toUInt32.toUInt16.toUInt32.toInt32))])) _
    refine st_3 _ ?_
    show Steps pP.tables eE below (T_3.setTop (mkF mM 47 #[.val (.long q1), .second, .val (.long q2), .second, .val (.long q3), .second, .val (.long q4), .second, .val (.int p8), .val (.int (own_nz (p8 &&& (1 : Int32)))), .val (.int (own_nz (p8 &&& (2 : Int32)))), .unset, .unset, .unset, .unset, .unset, .unset, .unset, .unset] [(.ref b__3)])) _
    refine XS.goto X_3.here hx rfl (pc0 := 47) (pc' := 51) rfl (hb hby at_47) (by decide) (by decide) ?_
    show Steps pP.tables eE below (T_3.setTop (mkF mM 51 #[.val (.long q1), .second, .val (.long q2), .second, .val (.long q3), .second, .val (.long q4), .second, .val (.int p8), .val (.int (own_nz (p8 &&& (1 : Int32)))), .val (.int (own_nz (p8 &&& (2 : Int32)))), .unset, .unset, .unset, .unset, .unset, .unset, .unset, .unset] [(.ref b__3)])) _
    refine XS.astore X_3.here hx rfl (hb hby at_51) rfl rfl (l' := #[.val (.long q1), .second, .val (.long q2), .second, .val (.long q3), .second, .val (.long q4), .second, .val (.int p8), .val (.int (own_nz (p8 &&& (1 : Int32)))), .val (.int (own_nz (p8 &&& (2 : Int32)))), .val (.ref b__3), .unset, .unset, .unset, .unset, .unset, .unset, .unset]) rfl ?_
    show Steps pP.tables eE below (T_3.setTop (mkF mM 53 #[.val (.long q1), .second, .val (.long q2), .second, .val (.long q3), .second, .val (.long q4), .second, .val (.int p8), .val (.int (own_nz (p8 &&& (1 : Int32)))), .val (.int (own_nz (p8 &&& (2 : Int32)))), .val (.ref b__3), .unset, .unset, .unset, .unset, .unset, .unset, .unset] [])) _
    refine XS.iload X_3.here hx rfl (hb hby at_53) rfl ?_
    show Steps pP.tables eE below (T_3.setTop (mkF mM 55 #[.val (.long q1), .second, .val (.long q2), .second, .val (.long q3), .second, .val (.long q4), .second, .val (.int p8), .val (.int (own_nz (p8 &&& (1 : Int32)))), .val (.int (own_nz (p8 &&& (2 : Int32)))), .val (.ref b__3), .unset, .unset, .unset, .unset, .unset, .unset, .unset] [(.int p8)])) _
    refine XS.bipush X_3.here hx rfl (hb hby at_55) ?_
    show Steps pP.tables eE below (T_3.setTop (mkF mM 57 #[.val (.long q1), .second, .val (.long q2), .second, .val (.long q3), .second, .val (.long q4), .second, .val (.int p8), .val (.int (own_nz (p8 &&& (1 : Int32)))), .val (.int (own_nz (p8 &&& (2 : Int32)))), .val (.ref b__3), .unset, .unset, .unset, .unset, .unset, .unset, .unset] [(.int (11 : Int32)), (.int p8)])) _
    refine XT.ishr X_3.here hx rfl (hb hby at_57) rfl ?_
    show Steps pP.tables eE below (T_3.setTop (mkF mM 58 #[.val (.long q1), .second, .val (.long q2), .second, .val (.long q3), .second, .val (.long q4), .second, .val (.int p8), .val (.int (own_nz (p8 &&& (1 : Int32)))), .val (.int (own_nz (p8 &&& (2 : Int32)))), .val (.ref b__3), .unset, .unset, .unset, .unset, .unset, .unset, .unset] [(.int (p8 >>> ((11 : Int32) &&& 31)))])) _
    refine XT.i2l X_3.here hx rfl (hb hby at_58) rfl ?_
    show Steps pP.tables eE below (T_3.setTop (mkF mM 59 #[.val (.long q1), .second, .val (.long q2), .second, .val (.long q3), .second, .val (.long q4), .second, .val (.int p8), .val (.int (own_nz (p8 &&& (1 : Int32)))), .val (.int (own_nz (p8 &&& (2 : Int32)))), .val (.ref b__3), .unset, .unset, .unset, .unset, .unset, .unset, .unset] [(.long ((p8 >>> ((11 : Int32) &&& 31)).toInt64))])) _
    refine XT.lstore X_3.here hx rfl (hb hby at_59) rfl (l' := #[.val (.long q1), .second, .val (.long q2), .second, .val (.long q3), .second, .val (.long q4), .second, .val (.int p8), .val (.int (own_nz (p8 &&& (1 : Int32)))), .val (.int (own_nz (p8 &&& (2 : Int32)))), .val (.ref b__3), .val (.long ((p8 >>> ((11 : Int32) &&& 31)).toInt64)), .second, .unset, .unset, .unset, .unset, .unset]) rfl ?_
    show Steps pP.tables eE below (T_3.setTop (mkF mM 61 #[.val (.long q1), .second, .val (.long q2), .second, .val (.long q3), .second, .val (.long q4), .second, .val (.int p8), .val (.int (own_nz (p8 &&& (1 : Int32)))), .val (.int (own_nz (p8 &&& (2 : Int32)))), .val (.ref b__3), .val (.long ((p8 >>> ((11 : Int32) &&& 31)).toInt64)), .second, .unset, .unset, .unset, .unset, .unset] [])) _
    refine st_4 _ ?_
    show Steps pP.tables eE below (T_4.setTop (mkF mM 64 #[.val (.long q1), .second, .val (.long q2), .second, .val (.long q3), .second, .val (.long q4), .second, .val (.int p8), .val (.int (own_nz (p8 &&& (1 : Int32)))), .val (.int (own_nz (p8 &&& (2 : Int32)))), .val (.ref b__3), .val (.long ((p8 >>> ((11 : Int32) &&& 31)).toInt64)), .second, .unset, .unset, .unset, .unset, .unset] [(.ref b_4)])) _
    refine XS.dup X_4.here hx rfl (hb hby at_64) rfl rfl ?_
    show Steps pP.tables eE below (T_4.setTop (mkF mM 65 #[.val (.long q1), .second, .val (.long q2), .second, .val (.long q3), .second, .val (.long q4), .second, .val (.int p8), .val (.int (own_nz (p8 &&& (1 : Int32)))), .val (.int (own_nz (p8 &&& (2 : Int32)))), .val (.ref b__3), .val (.long ((p8 >>> ((11 : Int32) &&& 31)).toInt64)), .second, .unset, .unset, .unset, .unset, .unset] [(.ref b_4), (.ref b_4)])) _
    refine XS.iload X_4.here hx rfl (hb hby at_65) rfl ?_
    show Steps pP.tables eE below (T_4.setTop (mkF mM 67 #[.val (.long q1), .second, .val (.long q2), .second, .val (.long q3), .second, .val (.long q4), .second, .val (.int p8), .val (.int (own_nz (p8 &&& (1 : Int32)))), .val (.int (own_nz (p8 &&& (2 : Int32)))), .val (.ref b__3), .val (.long ((p8 >>> ((11 : Int32) &&& 31)).toInt64)), .second, .unset, .unset, .unset, .unset, .unset] [(.int (own_nz (p8 &&& (1 : Int32)))), (.ref b_4), (.ref b_4)])) _
    refine XT.lload X_4.here hx rfl (hb hby at_67) rfl ?_
    show Steps pP.tables eE below (T_4.setTop (mkF mM 69 #[.val (.long q1), .second, .val (.long q2), .second, .val (.long q3), .second, .val (.long q4), .second, .val (.int p8), .val (.int (own_nz (p8 &&& (1 : Int32)))), .val (.int (own_nz (p8 &&& (2 : Int32)))), .val (.ref b__3), .val (.long ((p8 >>> ((11 : Int32) &&& 31)).toInt64)), .second, .unset, .unset, .unset, .unset, .unset] [(.long q3), (.int (own_nz (p8 &&& (1 : Int32)))), (.ref b_4), (.ref b_4)])) _
    refine XT.lload X_4.here hx rfl (hb hby at_69) rfl ?_
    show Steps pP.tables eE below (T_4.setTop (mkF mM 71 #[.val (.long q1), .second, .val (.long q2), .second, .val (.long q3), .second, .val (.long q4), .second, .val (.int p8), .val (.int (own_nz (p8 &&& (1 : Int32)))), .val (.int (own_nz (p8 &&& (2 : Int32)))), .val (.ref b__3), .val (.long ((p8 >>> ((11 : Int32) &&& 31)).toInt64)), .second, .unset, .unset, .unset, .unset, .unset] [(.long q4), (.long q3), (.int (own_nz (p8 &&& (1 : Int32)))), (.ref b_4), (.ref b_4)])) _
    refine XT.lload X_4.here hx rfl (hb hby at_71) rfl ?_
    show Steps pP.tables eE below (T_4.setTop (mkF mM 73 #[.val (.long q1), .second, .val (.long q2), .second, .val (.long q3), .second, .val (.long q4), .second, .val (.int p8), .val (.int (own_nz (p8 &&& (1 : Int32)))), .val (.int (own_nz (p8 &&& (2 : Int32)))), .val (.ref b__3), .val (.long ((p8 >>> ((11 : Int32) &&& 31)).toInt64)), .second, .unset, .unset, .unset, .unset, .unset] [(.long ((p8 >>> ((11 : Int32) &&& 31)).toInt64)), (.long q4), (.long q3), (.int (own_nz (p8 &&& (1 : Int32)))), (.ref b_4), (.ref b_4)])) _
    refine XS.iload X_4.here hx rfl (hb hby at_73) rfl ?_
    show Steps pP.tables eE below (T_4.setTop (mkF mM 75 #[.val (.long q1), .second, .val (.long q2), .second, .val (.long q3), .second, .val (.long q4), .second, .val (.int p8), .val (.int (own_nz (p8 &&& (1 : Int32)))), .val (.int (own_nz (p8 &&& (2 : Int32)))), .val (.ref b__3), .val (.long ((p8 >>> ((11 : Int32) &&& 31)).toInt64)), .second, .unset, .unset, .unset, .unset, .unset] [(.int (own_nz (p8 &&& (2 : Int32)))), (.long ((p8 >>> ((11 : Int32) &&& 31)).toInt64)), (.long q4), (.long q3), (.int (own_nz (p8 &&& (1 : Int32)))), (.ref b_4), (.ref b_4)])) _
    refine XS.aload X_4.here hx rfl (hb hby at_75) rfl rfl ?_
    show Steps pP.tables eE below (T_4.setTop (mkF mM 77 #[.val (.long q1), .second, .val (.long q2), .second, .val (.long q3), .second, .val (.long q4), .second, .val (.int p8), .val (.int (own_nz (p8 &&& (1 : Int32)))), .val (.int (own_nz (p8 &&& (2 : Int32)))), .val (.ref b__3), .val (.long ((p8 >>> ((11 : Int32) &&& 31)).toInt64)), .second, .unset, .unset, .unset, .unset, .unset] [(.ref b__3), (.int (own_nz (p8 &&& (2 : Int32)))), (.long ((p8 >>> ((11 : Int32) &&& 31)).toInt64)), (.long q4), (.long q3), (.int (own_nz (p8 &&& (1 : Int32)))), (.ref b_4), (.ref b_4)])) _
    refine st_5.trans ?_
    show Steps pP.tables eE below (T_5.setTop (mkF mM 80 #[.val (.long q1), .second, .val (.long q2), .second, .val (.long q3), .second, .val (.long q4), .second, .val (.int p8), .val (.int (own_nz (p8 &&& (1 : Int32)))), .val (.int (own_nz (p8 &&& (2 : Int32)))), .val (.ref b__3), .val (.long ((p8 >>> ((11 : Int32) &&& 31)).toInt64)), .second, .unset, .unset, .unset, .unset, .unset] [(.ref b_4)])) _
    refine XS.astore X_5.here hx rfl (hb hby at_80) rfl rfl (l' := #[.val (.long q1), .second, .val (.long q2), .second, .val (.long q3), .second, .val (.long q4), .second, .val (.int p8), .val (.int (own_nz (p8 &&& (1 : Int32)))), .val (.int (own_nz (p8 &&& (2 : Int32)))), .val (.ref b__3), .val (.long ((p8 >>> ((11 : Int32) &&& 31)).toInt64)), .second, .val (.ref b_4), .unset, .unset, .unset, .unset]) rfl ?_
    show Steps pP.tables eE below (T_5.setTop (mkF mM 82 #[.val (.long q1), .second, .val (.long q2), .second, .val (.long q3), .second, .val (.long q4), .second, .val (.int p8), .val (.int (own_nz (p8 &&& (1 : Int32)))), .val (.int (own_nz (p8 &&& (2 : Int32)))), .val (.ref b__3), .val (.long ((p8 >>> ((11 : Int32) &&& 31)).toInt64)), .second, .val (.ref b_4), .unset, .unset, .unset, .unset] [])) _
    refine st_6 _ ?_
    show Steps pP.tables eE below (T_6.setTop (mkF mM 85 #[.val (.long q1), .second, .val (.long q2), .second, .val (.long q3), .second, .val (.long q4), .second, .val (.int p8), .val (.int (own_nz (p8 &&& (1 : Int32)))), .val (.int (own_nz (p8 &&& (2 : Int32)))), .val (.ref b__3), .val (.long ((p8 >>> ((11 : Int32) &&& 31)).toInt64)), .second, .val (.ref b_4), .unset, .unset, .unset, .unset] [(.ref b_6)])) _
    refine XS.dup X_6.here hx rfl (hb hby at_85) rfl rfl ?_
    show Steps pP.tables eE below (T_6.setTop (mkF mM 86 #[.val (.long q1), .second, .val (.long q2), .second, .val (.long q3), .second, .val (.long q4), .second, .val (.int p8), .val (.int (own_nz (p8 &&& (1 : Int32)))), .val (.int (own_nz (p8 &&& (2 : Int32)))), .val (.ref b__3), .val (.long ((p8 >>> ((11 : Int32) &&& 31)).toInt64)), .second, .val (.ref b_4), .unset, .unset, .unset, .unset] [(.ref b_6), (.ref b_6)])) _
    refine XT.lloadN X_6.here hx rfl (hb hby at_86) rfl ?_
    show Steps pP.tables eE below (T_6.setTop (mkF mM 87 #[.val (.long q1), .second, .val (.long q2), .second, .val (.long q3), .second, .val (.long q4), .second, .val (.int p8), .val (.int (own_nz (p8 &&& (1 : Int32)))), .val (.int (own_nz (p8 &&& (2 : Int32)))), .val (.ref b__3), .val (.long ((p8 >>> ((11 : Int32) &&& 31)).toInt64)), .second, .val (.ref b_4), .unset, .unset, .unset, .unset] [(.long q1), (.ref b_6), (.ref b_6)])) _
    refine XT.lloadN X_6.here hx rfl (hb hby at_87) rfl ?_
    show Steps pP.tables eE below (T_6.setTop (mkF mM 88 #[.val (.long q1), .second, .val (.long q2), .second, .val (.long q3), .second, .val (.long q4), .second, .val (.int p8), .val (.int (own_nz (p8 &&& (1 : Int32)))), .val (.int (own_nz (p8 &&& (2 : Int32)))), .val (.ref b__3), .val (.long ((p8 >>> ((11 : Int32) &&& 31)).toInt64)), .second, .val (.ref b_4), .unset, .unset, .unset, .unset] [(.long q2), (.long q1), (.ref b_6), (.ref b_6)])) _
    refine st_7.trans ?_
    show Steps pP.tables eE below (T_7.setTop (mkF mM 91 #[.val (.long q1), .second, .val (.long q2), .second, .val (.long q3), .second, .val (.long q4), .second, .val (.int p8), .val (.int (own_nz (p8 &&& (1 : Int32)))), .val (.int (own_nz (p8 &&& (2 : Int32)))), .val (.ref b__3), .val (.long ((p8 >>> ((11 : Int32) &&& 31)).toInt64)), .second, .val (.ref b_4), .unset, .unset, .unset, .unset] [(.ref b_6)])) _
    refine XS.astore X_7.here hx rfl (hb hby at_91) rfl rfl (l' := #[.val (.long q1), .second, .val (.long q2), .second, .val (.long q3), .second, .val (.long q4), .second, .val (.int p8), .val (.int (own_nz (p8 &&& (1 : Int32)))), .val (.int (own_nz (p8 &&& (2 : Int32)))), .val (.ref b__3), .val (.long ((p8 >>> ((11 : Int32) &&& 31)).toInt64)), .second, .val (.ref b_4), .val (.ref b_6), .unset, .unset, .unset]) rfl ?_
    show Steps pP.tables eE below (T_7.setTop (mkF mM 93 #[.val (.long q1), .second, .val (.long q2), .second, .val (.long q3), .second, .val (.long q4), .second, .val (.int p8), .val (.int (own_nz (p8 &&& (1 : Int32)))), .val (.int (own_nz (p8 &&& (2 : Int32)))), .val (.ref b__3), .val (.long ((p8 >>> ((11 : Int32) &&& 31)).toInt64)), .second, .val (.ref b_4), .val (.ref b_6), .unset, .unset, .unset] [])) _
    refine XT.lload X_7.here hx rfl (hb hby at_93) rfl ?_
    show Steps pP.tables eE below (T_7.setTop (mkF mM 95 #[.val (.long q1), .second, .val (.long q2), .second, .val (.long q3), .second, .val (.long q4), .second, .val (.int p8), .val (.int (own_nz (p8 &&& (1 : Int32)))), .val (.int (own_nz (p8 &&& (2 : Int32)))), .val (.ref b__3), .val (.long ((p8 >>> ((11 : Int32) &&& 31)).toInt64)), .second, .val (.ref b_4), .val (.ref b_6), .unset, .unset, .unset] [(.long q3)])) _
    refine XT.lloadN X_7.here hx rfl (hb hby at_95) rfl ?_
    show Steps pP.tables eE below (T_7.setTop (mkF mM 96 #[.val (.long q1), .second, .val (.long q2), .second, .val (.long q3), .second, .val (.long q4), .second, .val (.int p8), .val (.int (own_nz (p8 &&& (1 : Int32)))), .val (.int (own_nz (p8 &&& (2 : Int32)))), .val (.ref b__3), .val (.long ((p8 >>> ((11 : Int32) &&& 31)).toInt64)), .second, .val (.ref b_4), .val (.ref b_6), .unset, .unset, .unset] [(.long q1), (.long q3)])) _
    refine st_8 _ ?_
    show Steps pP.tables eE below (T_8.setTop (mkF mM 99 #[.val (.long q1), .second, .val (.long q2), .second, .val (.long q3), .second, .val (.long q4), .second, .val (.int p8), .val (.int (own_nz (p8 &&& (1 : Int32)))), .val (.int (own_nz (p8 &&& (2 : Int32)))), .val (.ref b__3), .val (.long ((p8 >>> ((11 : Int32) &&& 31)).toInt64)), .second, .val (.ref b_4), .val (.ref b_6), .unset, .unset, .unset] [(.long (own_maxL q3 q1))])) _
    refine XT.lload X_8.here hx rfl (hb hby at_99) rfl ?_
    show Steps pP.tables eE below (T_8.setTop (mkF mM 101 #[.val (.long q1), .second, .val (.long q2), .second, .val (.long q3), .second, .val (.long q4), .second, .val (.int p8), .val (.int (own_nz (p8 &&& (1 : Int32)))), .val (.int (own_nz (p8 &&& (2 : Int32)))), .val (.ref b__3), .val (.long ((p8 >>> ((11 : Int32) &&& 31)).toInt64)), .second, .val (.ref b_4), .val (.ref b_6), .unset, .unset, .unset] [(.long q3), (.long (own_maxL q3 q1))])) _
    refine XT.lcmp X_8.here hx rfl (hb hby at_101) rfl ?_
    show Steps pP.tables eE below (T_8.setTop (mkF mM 102 #[.val (.long q1), .second, .val (.long q2), .second, .val (.long q3), .second, .val (.long q4), .second, .val (.int p8), .val (.int (own_nz (p8 &&& (1 : Int32)))), .val (.int (own_nz (p8 &&& (2 : Int32)))), .val (.ref b__3), .val (.long ((p8 >>> ((11 : Int32) &&& 31)).toInt64)), .second, .val (.ref b_4), .val (.ref b_6), .unset, .unset, .unset] [(.int (XT.cmpL (own_maxL q3 q1) q3))])) _
    have jn_9 : ∀ t_, Steps pP.tables eE below (T_8.setTop (mkF mM 117 #[.val (.long q1), .second, .val (.long q2), .second, .val (.long q3), .second, .val (.long q4), .second, .val (.int p8), .val (.int (own_nz (p8 &&& (1 : Int32)))), .val (.int (own_nz (p8 &&& (2 : Int32)))), .val (.ref b__3), .val (.long ((p8 >>> ((11 : Int32) &&& 31)).toInt64)), .second, .val (.ref b_4), .val (.ref b_6), .unset, .unset, .unset] [(.int (own_af q3 q1))])) t_ → Steps pP.tables eE below (T_8.setTop (mkF mM 102 #[.val (.long q1), .second, .val (.long q2), .second, .val (.long q3), .second, .val (.long q4), .second, .val (.int p8), .val (.int (own_nz (p8 &&& (1 : Int32)))), .val (.int (own_nz (p8 &&& (2 : Int32)))), .val (.ref b__3), .val (.long ((p8 >>> ((11 : Int32) &&& 31)).toInt64)), .second, .val (.ref b_4), .val (.ref b_6), .unset, .unset, .unset] [(.int (XT.cmpL (own_maxL q3 q1) q3))])) t_ := by
      intro t_ kt
      by_cases h1 : (own_maxL q3 q1) = q3
      · by_cases h2 : q3 = q1
        · have hj : (own_af q3 q1) = (0 : Int32) := if_neg (fun z => z.2 h2)
          rw [hj] at kt
          show Steps pP.tables eE below (T_8.setTop (mkF mM 102 #[.val (.long q1), .second, .val (.long q2), .second, .val (.long q3), .second, .val (.long q4), .second, .val (.int p8), .val (.int (own_nz (p8 &&& (1 : Int32)))), .val (.int (own_nz (p8 &&& (2 : Int32)))), .val (.ref b__3), .val (.long ((p8 >>> ((11 : Int32) &&& 31)).toInt64)), .second, .val (.ref b_4), .val (.ref b_6), .unset, .unset, .unset] [(.int (XT.cmpL (own_maxL q3 q1) q3))])) _
          refine XS.ifNo X_8.here hx rfl (hb hby at_102) rfl (XT.ll_ne_f h1) ?_
          show Steps pP.tables eE below (T_8.setTop (mkF mM 105 #[.val (.long q1), .second, .val (.long q2), .second, .val (.long q3), .second, .val (.long q4), .second, .val (.int p8), .val (.int (own_nz (p8 &&& (1 : Int32)))), .val (.int (own_nz (p8 &&& (2 : Int32)))), .val (.ref b__3), .val (.long ((p8 >>> ((11 : Int32) &&& 31)).toInt64)), .second, .val (.ref b_4), .val (.ref b_6), .unset, .unset, .unset] [])) _
          refine XT.lload X_8.here hx rfl (hb hby at_105) rfl ?_
          show Steps pP.tables eE below (T_8.setTop (mkF mM 107 #[.val (.long q1), .second, .val (.long q2), .second, .val (.long q3), .second, .val (.long q4), .second, .val (.int p8), .val (.int (own_nz (p8 &&& (1 : Int32)))), .val (.int (own_nz (p8 &&& (2 : Int32)))), .val (.ref b__3), .val (.long ((p8 >>> ((11 : Int32) &&& 31)).toInt64)), .second, .val (.ref b_4), .val (.ref b_6), .unset, .unset, .unset] [(.long q3)])) _
          refine XT.lloadN X_8.here hx rfl (hb hby at_107) rfl ?_
          show Steps pP.tables eE below (T_8.setTop (mkF mM 108 #[.val (.long q1), .second, .val (.long q2), .second, .val (.long q3), .second, .val (.long q4), .second, .val (.int p8), .val (.int (own_nz (p8 &&& (1 : Int32)))), .val (.int (own_nz (p8 &&& (2 : Int32)))), .val (.ref b__3), .val (.long ((p8 >>> ((11 : Int32) &&& 31)).toInt64)), .second, .val (.ref b_4), .val (.ref b_6), .unset, .unset, .unset] [(.long q1), (.long q3)])) _
          refine XT.lcmp X_8.here hx rfl (hb hby at_108) rfl ?_
          show Steps pP.tables eE below (T_8.setTop (mkF mM 109 #[.val (.long q1), .second, .val (.long q2), .second, .val (.long q3), .second, .val (.long q4), .second, .val (.int p8), .val (.int (own_nz (p8 &&& (1 : Int32)))), .val (.int (own_nz (p8 &&& (2 : Int32)))), .val (.ref b__3), .val (.long ((p8 >>> ((11 : Int32) &&& 31)).toInt64)), .second, .val (.ref b_4), .val (.ref b_6), .unset, .unset, .unset] [(.int (XT.cmpL q3 q1))])) _
          refine XS.ifYes X_8.here hx rfl (pc0 := 109) (pc' := 116) rfl (hb hby at_109) rfl (XT.ll_eq_t h2) (by decide) (by decide) ?_
          show Steps pP.tables eE below (T_8.setTop (mkF mM 116 #[.val (.long q1), .second, .val (.long q2), .second, .val (.long q3), .second, .val (.long q4), .second, .val (.int p8), .val (.int (own_nz (p8 &&& (1 : Int32)))), .val (.int (own_nz (p8 &&& (2 : Int32)))), .val (.ref b__3), .val (.long ((p8 >>> ((11 : Int32) &&& 31)).toInt64)), .second, .val (.ref b_4), .val (.ref b_6), .unset, .unset, .unset] [])) _
          refine XS.iconst X_8.here hx rfl (hb hby at_116) ?_
          show Steps pP.tables eE below (T_8.setTop (mkF mM 117 #[.val (.long q1), .second, .val (.long q2), .second, .val (.long q3), .second, .val (.long q4), .second, .val (.int p8), .val (.int (own_nz (p8 &&& (1 : Int32)))), .val (.int (own_nz (p8 &&& (2 : Int32)))), .val (.ref b__3), .val (.long ((p8 >>> ((11 : Int32) &&& 31)).toInt64)), .second, .val (.ref b_4), .val (.ref b_6), .unset, .unset, .unset] [(.int (0 : Int32))])) _
          exact kt
        · have hj : (own_af q3 q1) = (1 : Int32) := if_pos ⟨h1, h2⟩
          rw [hj] at kt
          show Steps pP.tables eE below (T_8.setTop (mkF mM 102 #[.val (.long q1), .second, .val (.long q2), .second, .val (.long q3), .second, .val (.long q4), .second, .val (.int p8), .val (.int (own_nz (p8 &&& (1 : Int32)))), .val (.int (own_nz (p8 &&& (2 : Int32)))), .val (.ref b__3), .val (.long ((p8 >>> ((11 : Int32) &&& 31)).toInt64)), .second, .val (.ref b_4), .val (.ref b_6), .unset, .unset, .unset] [(.int (XT.cmpL (own_maxL q3 q1) q3))])) _
          refine XS.ifNo X_8.here hx rfl (hb hby at_102) rfl (XT.ll_ne_f h1) ?_
          show Steps pP.tables eE below (T_8.setTop (mkF mM 105 #[.val (.long q1), .second, .val (.long q2), .second, .val (.long q3), .second, .val (.long q4), .second, .val (.int p8), .val (.int (own_nz (p8 &&& (1 : Int32)))), .val (.int (own_nz (p8 &&& (2 : Int32)))), .val (.ref b__3), .val (.long ((p8 >>> ((11 : Int32) &&& 31)).toInt64)), .second, .val (.ref b_4), .val (.ref b_6), .unset, .unset, .unset] [])) _
          refine XT.lload X_8.here hx rfl (hb hby at_105) rfl ?_
          show Steps pP.tables eE below (T_8.setTop (mkF mM 107 #[.val (.long q1), .second, .val (.long q2), .second, .val (.long q3), .second, .val (.long q4), .second, .val (.int p8), .val (.int (own_nz (p8 &&& (1 : Int32)))), .val (.int (own_nz (p8 &&& (2 : Int32)))), .val (.ref b__3), .val (.long ((p8 >>> ((11 : Int32) &&& 31)).toInt64)), .second, .val (.ref b_4), .val (.ref b_6), .unset, .unset, .unset] [(.long q3)])) _
          refine XT.lloadN X_8.here hx rfl (hb hby at_107) rfl ?_
          show Steps pP.tables eE below (T_8.setTop (mkF mM 108 #[.val (.long q1), .second, .val (.long q2), .second, .val (.long q3), .second, .val (.long q4), .second, .val (.int p8), .val (.int (own_nz (p8 &&& (1 : Int32)))), .val (.int (own_nz (p8 &&& (2 : Int32)))), .val (.ref b__3), .val (.long ((p8 >>> ((11 : Int32) &&& 31)).toInt64)), .second, .val (.ref b_4), .val (.ref b_6), .unset, .unset, .unset] [(.long q1), (.long q3)])) _
          refine XT.lcmp X_8.here hx rfl (hb hby at_108) rfl ?_
          show Steps pP.tables eE below (T_8.setTop (mkF mM 109 #[.val (.long q1), .second, .val (.long q2), .second, .val (.long q3), .second, .val (.long q4), .second, .val (.int p8), .val (.int (own_nz (p8 &&& (1 : Int32)))), .val (.int (own_nz (p8 &&& (2 : Int32)))), .val (.ref b__3), .val (.long ((p8 >>> ((11 : Int32) &&& 31)).toInt64)), .second, .val (.ref b_4), .val (.ref b_6), .unset, .unset, .unset] [(.int (XT.cmpL q3 q1))])) _
          refine XS.ifNo X_8.here hx rfl (hb hby at_109) rfl (XT.ll_eq_f h2) ?_
          show Steps pP.tables eE below (T_8.setTop (mkF mM 112 #[.val (.long q1), .second, .val (.long q2), .second, .val (.long q3), .second, .val (.long q4), .second, .val (.int p8), .val (.int (own_nz (p8 &&& (1 : Int32)))), .val (.int (own_nz (p8 &&& (2 : Int32)))), .val (.ref b__3), .val (.long ((p8 >>> ((11 : Int32) &&& 31)).toInt64)), .second, .val (.ref b_4), .val (.ref b_6), .unset, .unset, .unset] [])) _
          refine XS.iconst X_8.here hx rfl (hb hby at_112) ?_
          show Steps pP.tables eE below (T_8.setTop (mkF mM 113 #[.val (.long q1), .second, .val (.long q2), .second, .val (.long q3), .second, .val (.long q4), .second, .val (.int p8), .val (.int (own_nz (p8 &&& (1 : Int32)))), .val (.int (own_nz (p8 &&& (2 : Int32)))), .val (.ref b__3), .val (.long ((p8 >>> ((11 : Int32) &&& 31)).toInt64)), .second, .val (.ref b_4), .val (.ref b_6), .unset, .unset, .unset] [(.int (1 : Int32))])) _
          refine XS.goto X_8.here hx rfl (pc0 := 113) (pc' := 117) rfl (hb hby at_113) (by decide) (by decide) ?_
          show Steps pP.tables eE below (T_8.setTop (mkF mM 117 #[.val (.long q1), .second, .val (.long q2), .second, .val (.long q3), .second, .val (.long q4), .second, .val (.int p8), .val (.int (own_nz (p8 &&& (1 : Int32)))), .val (.int (own_nz (p8 &&& (2 : Int32)))), .val (.ref b__3), .val (.long ((p8 >>> ((11 : Int32) &&& 31)).toInt64)), .second, .val (.ref b_4), .val (.ref b_6), .unset, .unset, .unset] [(.int (1 : Int32))])) _
          exact kt
      · have hj : (own_af q3 q1) = (0 : Int32) := if_neg (fun z => h1 z.1)
        rw [hj] at kt
        show Steps pP.tables eE below (T_8.setTop (mkF mM 102 #[.val (.long q1), .second, .val (.long q2), .second, .val (.long q3), .second, .val (.long q4), .second, .val (.int p8), .val (.int (own_nz (p8 &&& (1 : Int32)))), .val (.int (own_nz (p8 &&& (2 : Int32)))), .val (.ref b__3), .val (.long ((p8 >>> ((11 : Int32) &&& 31)).toInt64)), .second, .val (.ref b_4), .val (.ref b_6), .unset, .unset, .unset] [(.int (XT.cmpL (own_maxL q3 q1) q3))])) _
        refine XS.ifYes X_8.here hx rfl (pc0 := 102) (pc' := 116) rfl (hb hby at_102) rfl (XT.ll_ne_t h1) (by decide) (by decide) ?_
        show Steps pP.tables eE below (T_8.setTop (mkF mM 116 #[.val (.long q1), .second, .val (.long q2), .second, .val (.long q3), .second, .val (.long q4), .second, .val (.int p8), .val (.int (own_nz (p8 &&& (1 : Int32)))), .val (.int (own_nz (p8 &&& (2 : Int32)))), .val (.ref b__3), .val (.long ((p8 >>> ((11 : Int32) &&& 31)).toInt64)), .second, .val (.ref b_4), .val (.ref b_6), .unset, .unset, .unset] [])) _
        refine XS.iconst X_8.here hx rfl (hb hby at_116) ?_
        show Steps pP.tables eE below (T_8.setTop (mkF mM 117 #[.val (.long q1), .second, .val (.long q2), .second, .val (.long q3), .second, .val (.long q4), .second, .val (.int p8), .val (.int (own_nz (p8 &&& (1 : Int32)))), .val (.int (own_nz (p8 &&& (2 : Int32)))), .val (.ref b__3), .val (.long ((p8 >>> ((11 : Int32) &&& 31)).toInt64)), .second, .val (.ref b_4), .val (.ref b_6), .unset, .unset, .unset] [(.int (0 : Int32))])) _
        exact kt
    refine jn_9 _ ?_
    show Steps pP.tables eE below (T_8.setTop (mkF mM 117 #[.val (.long q1), .second, .val (.long q2), .second, .val (.long q3), .second, .val (.long q4), .second, .val (.int p8), .val (.int (own_nz (p8 &&& (1 : Int32)))), .val (.int (own_nz (p8 &&& (2 : Int32)))), .val (.ref b__3), .val (.long ((p8 >>> ((11 : Int32) &&& 31)).toInt64)), .second, .val (.ref b_4), .val (.ref b_6), .unset, .unset, .unset] [(.int (own_af q3 q1))])) _
    refine XS.istore X_8.here hx rfl (hb hby at_117) rfl (l' := #[.val (.long q1), .second, .val (.long q2), .second, .val (.long q3), .second, .val (.long q4), .second, .val (.int p8), .val (.int (own_nz (p8 &&& (1 : Int32)))), .val (.int (own_nz (p8 &&& (2 : Int32)))), .val (.ref b__3), .val (.long ((p8 >>> ((11 : Int32) &&& 31)).toInt64)), .second, .val (.ref b_4), .val (.ref b_6), .val (.int (own_af q3 q1)), .unset, .unset]) rfl ?_
    show Steps pP.tables eE below (T_8.setTop (mkF mM 119 #[.val (.long q1), .second, .val (.long q2), .second, .val (.long q3), .second, .val (.long q4), .second, .val (.int p8), .val (.int (own_nz (p8 &&& (1 : Int32)))), .val (.int (own_nz (p8 &&& (2 : Int32)))), .val (.ref b__3), .val (.long ((p8 >>> ((11 : Int32) &&& 31)).toInt64)), .second, .val (.ref b_4), .val (.ref b_6), .val (.int (own_af q3 q1)), .unset, .unset] [])) _
    refine XT.lload X_8.here hx rfl (hb hby at_119) rfl ?_
    show Steps pP.tables eE below (T_8.setTop (mkF mM 121 #[.val (.long q1), .second, .val (.long q2), .second, .val (.long q3), .second, .val (.long q4), .second, .val (.int p8), .val (.int (own_nz (p8 &&& (1 : Int32)))), .val (.int (own_nz (p8 &&& (2 : Int32)))), .val (.ref b__3), .val (.long ((p8 >>> ((11 : Int32) &&& 31)).toInt64)), .second, .val (.ref b_4), .val (.ref b_6), .val (.int (own_af q3 q1)), .unset, .unset] [(.long q4)])) _
    refine XT.lloadN X_8.here hx rfl (hb hby at_121) rfl ?_
    show Steps pP.tables eE below (T_8.setTop (mkF mM 122 #[.val (.long q1), .second, .val (.long q2), .second, .val (.long q3), .second, .val (.long q4), .second, .val (.int p8), .val (.int (own_nz (p8 &&& (1 : Int32)))), .val (.int (own_nz (p8 &&& (2 : Int32)))), .val (.ref b__3), .val (.long ((p8 >>> ((11 : Int32) &&& 31)).toInt64)), .second, .val (.ref b_4), .val (.ref b_6), .val (.int (own_af q3 q1)), .unset, .unset] [(.long q2), (.long q4)])) _
    refine st_10 _ ?_
    show Steps pP.tables eE below (T_10.setTop (mkF mM 125 #[.val (.long q1), .second, .val (.long q2), .second, .val (.long q3), .second, .val (.long q4), .second, .val (.int p8), .val (.int (own_nz (p8 &&& (1 : Int32)))), .val (.int (own_nz (p8 &&& (2 : Int32)))), .val (.ref b__3), .val (.long ((p8 >>> ((11 : Int32) &&& 31)).toInt64)), .second, .val (.ref b_4), .val (.ref b_6), .val (.int (own_af q3 q1)), .unset, .unset] [(.long (own_minL q4 q2))])) _
    refine XT.lload X_10.here hx rfl (hb hby at_125) rfl ?_
    show Steps pP.tables eE below (T_10.setTop (mkF mM 127 #[.val (.long q1), .second, .val (.long q2), .second, .val (.long q3), .second, .val (.long q4), .second, .val (.int p8), .val (.int (own_nz (p8 &&& (1 : Int32)))), .val (.int (own_nz (p8 &&& (2 : Int32)))), .val (.ref b__3), .val (.long ((p8 >>> ((11 : Int32) &&& 31)).toInt64)), .second, .val (.ref b_4), .val (.ref b_6), .val (.int (own_af q3 q1)), .unset, .unset] [(.long q4), (.long (own_minL q4 q2))])) _
    refine XT.lcmp X_10.here hx rfl (hb hby at_127) rfl ?_
    show Steps pP.tables eE below (T_10.setTop (mkF mM 128 #[.val (.long q1), .second, .val (.long q2), .second, .val (.long q3), .second, .val (.long q4), .second, .val (.int p8), .val (.int (own_nz (p8 &&& (1 : Int32)))), .val (.int (own_nz (p8 &&& (2 : Int32)))), .val (.ref b__3), .val (.long ((p8 >>> ((11 : Int32) &&& 31)).toInt64)), .second, .val (.ref b_4), .val (.ref b_6), .val (.int (own_af q3 q1)), .unset, .unset] [(.int (XT.cmpL (own_minL q4 q2) q4))])) _
    have jn_11 : ∀ t_, Steps pP.tables eE below (T_10.setTop (mkF mM 143 #[.val (.long q1), .second, .val (.long q2), .second, .val (.long q3), .second, .val (.long q4), .second, .val (.int p8), .val (.int (own_nz (p8 &&& (1 : Int32)))), .val (.int (own_nz (p8 &&& (2 : Int32)))), .val (.ref b__3), .val (.long ((p8 >>> ((11 : Int32) &&& 31)).toInt64)), .second, .val (.ref b_4), .val (.ref b_6), .val (.int (own_af q3 q1)), .unset, .unset] [(.int (own_bl q4 q2))])) t_ → Steps pP.tables eE below (T_10.setTop (mkF mM 128 #[.val (.long q1), .second, .val (.long q2), .second, .val (.long q3), .second, .val (.long q4), .second, .val (.int p8), .val (.int (own_nz (p8 &&& (1 : Int32)))), .val (.int (own_nz (p8 &&& (2 : Int32)))), .val (.ref b__3), .val (.long ((p8 >>> ((11 : Int32) &&& 31)).toInt64)), .second, .val (.ref b_4), .val (.ref b_6), .val (.int (own_af q3 q1)), .unset, .unset] [(.int (XT.cmpL (own_minL q4 q2) q4))])) t_ := by
      intro t_ kt
      by_cases h1 : (own_minL q4 q2) = q4
      · by_cases h2 : q4 = q2
        · have hj : (own_bl q4 q2) = (0 : Int32) := if_neg (fun z => z.2 h2)
          rw [hj] at kt
          show Steps pP.tables eE below (T_10.setTop (mkF mM 128 #[.val (.long q1), .second, .val (.long q2), .second, .val (.long q3), .second, .val (.long q4), .second, .val (.int p8), .val (.int (own_nz (p8 &&& (1 : Int32)))), .val (.int (own_nz (p8 &&& (2 : Int32)))), .val (.ref b__3), .val (.long ((p8 >>> ((11 : Int32) &&& 31)).toInt64)), .second, .val (.ref b_4), .val (.ref b_6), .val (.int (own_af q3 q1)), .unset, .unset] [(.int (XT.cmpL (own_minL q4 q2) q4))])) _
          refine XS.ifNo X_10.here hx rfl (hb hby at_128) rfl (XT.ll_ne_f h1) ?_
          show Steps pP.tables eE below (T_10.setTop (mkF mM 131 #[.val (.long q1), .second, .val (.long q2), .second, .val (.long q3), .second, .val (.long q4), .second, .val (.int p8), .val (.int (own_nz (p8 &&& (1 : Int32)))), .val (.int (own_nz (p8 &&& (2 : Int32)))), .val (.ref b__3), .val (.long ((p8 >>> ((11 : Int32) &&& 31)).toInt64)), .second, .val (.ref b_4), .val (.ref b_6), .val (.int (own_af q3 q1)), .unset, .unset] [])) _
          refine XT.lload X_10.here hx rfl (hb hby at_131) rfl ?_
          show Steps pP.tables eE below (T_10.setTop (mkF mM 133 #[.val (.long q1), .second, .val (.long q2), .second, .val (.long q3), .second, .val (.long q4), .second, .val (.int p8), .val (.int (own_nz (p8 &&& (1 : Int32)))), .val (.int (own_nz (p8 &&& (2 : Int32)))), .val (.ref b__3), .val (.long ((p8 >>> ((11 : Int32) &&& 31)).toInt64)), .second, .val (.ref b_4), .val (.ref b_6), .val (.int (own_af q3 q1)), .unset, .unset] [(.long q4)])) _
          refine XT.lloadN X_10.here hx rfl (hb hby at_133) rfl ?_
          show Steps pP.tables eE below (T_10.setTop (mkF mM 134 #[.val (.long q1), .second, .val (.long q2), .second, .val (.long q3), .second, .val (.long q4), .second, .val (.int p8), .val (.int (own_nz (p8 &&& (1 : Int32)))), .val (.int (own_nz (p8 &&& (2 : Int32)))), .val (.ref b__3), .val (.long ((p8 >>> ((11 : Int32) &&& 31)).toInt64)), .second, .val (.ref b_4), .val (.ref b_6), .val (.int (own_af q3 q1)), .unset, .unset] [(.long q2), (.long q4)])) _
          refine XT.lcmp X_10.here hx rfl (hb hby at_134) rfl ?_
          show Steps pP.tables eE below (T_10.setTop (mkF mM 135 #[.val (.long q1), .second, .val (.long q2), .second, .val (.long q3), .second, .val (.long q4), .second, .val (.int p8), .val (.int (own_nz (p8 &&& (1 : Int32)))), .val (.int (own_nz (p8 &&& (2 : Int32)))), .val (.ref b__3), .val (.long ((p8 >>> ((11 : Int32) &&& 31)).toInt64)), .second, .val (.ref b_4), .val (.ref b_6), .val (.int (own_af q3 q1)), .unset, .unset] [(.int (XT.cmpL q4 q2))])) _
          refine XS.ifYes X_10.here hx rfl (pc0 := 135) (pc' := 142) rfl (hb hby at_135) rfl (XT.ll_eq_t h2) (by decide) (by decide) ?_
          show Steps pP.tables eE below (T_10.setTop (mkF mM 142 #[.val (.long q1), .second, .val (.long q2), .second, .val (.long q3), .second, .val (.long q4), .second, .val (.int p8), .val (.int (own_nz (p8 &&& (1 : Int32)))), .val (.int (own_nz (p8 &&& (2 : Int32)))), .val (.ref b__3), .val (.long ((p8 >>> ((11 : Int32) &&& 31)).toInt64)), .second, .val (.ref b_4), .val (.ref b_6), .val (.int (own_af q3 q1)), .unset, .unset] [])) _
          refine XS.iconst X_10.here hx rfl (hb hby at_142) ?_
          show Steps pP.tables eE below (T_10.setTop (mkF mM 143 #[.val (.long q1), .second, .val (.long q2), .second, .val (.long q3), .second, .val (.long q4), .second, .val (.int p8), .val (.int (own_nz (p8 &&& (1 : Int32)))), .val (.int (own_nz (p8 &&& (2 : Int32)))), .val (.ref b__3), .val (.long ((p8 >>> ((11 : Int32) &&& 31)).toInt64)), .second, .val (.ref b_4), .val (.ref b_6), .val (.int (own_af q3 q1)), .unset, .unset] [(.int (0 : Int32))])) _
          exact kt
        · have hj : (own_bl q4 q2) = (1 : Int32) := if_pos ⟨h1, h2⟩
          rw [hj] at kt
          show Steps pP.tables eE below (T_10.setTop (mkF mM 128 #[.val (.long q1), .second, .val (.long q2), .second, .val (.long q3), .second, .val (.long q4), .second, .val (.int p8), .val (.int (own_nz (p8 &&& (1 : Int32)))), .val (.int (own_nz (p8 &&& (2 : Int32)))), .val (.ref b__3), .val (.long ((p8 >>> ((11 : Int32) &&& 31)).toInt64)), .second, .val (.ref b_4), .val (.ref b_6), .val (.int (own_af q3 q1)), .unset, .unset] [(.int (XT.cmpL (own_minL q4 q2) q4))])) _
          refine XS.ifNo X_10.here hx rfl (hb hby at_128) rfl (XT.ll_ne_f h1) ?_
          show Steps pP.tables eE below (T_10.setTop (mkF mM 131 #[.val (.long q1), .second, .val (.long q2), .second, .val (.long q3), .second, .val (.long q4), .second, .val (.int p8), .val (.int (own_nz (p8 &&& (1 : Int32)))), .val (.int (own_nz (p8 &&& (2 : Int32)))), .val (.ref b__3), .val (.long ((p8 >>> ((11 : Int32) &&& 31)).toInt64)), .second, .val (.ref b_4), .val (.ref b_6), .val (.int (own_af q3 q1)), .unset, .unset] [])) _
          refine XT.lload X_10.here hx rfl (hb hby at_131) rfl ?_
          show Steps pP.tables eE below (T_10.setTop (mkF mM 133 #[.val (.long q1), .second, .val (.long q2), .second, .val (.long q3), .second, .val (.long q4), .second, .val (.int p8), .val (.int (own_nz (p8 &&& (1 : Int32)))), .val (.int (own_nz (p8 &&& (2 : Int32)))), .val (.ref b__3), .val (.long ((p8 >>> ((11 : Int32) &&& 31)).toInt64)), .second, .val (.ref b_4), .val (.ref b_6), .val (.int (own_af q3 q1)), .unset, .unset] [(.long q4)])) _
          refine XT.lloadN X_10.here hx rfl (hb hby at_133) rfl ?_
          show Steps pP.tables eE below (T_10.setTop (mkF mM 134 #[.val (.long q1), .second, .val (.long q2), .second, .val (.long q3), .second, .val (.long q4), .second, .val (.int p8), .val (.int (own_nz (p8 &&& (1 : Int32)))), .val (.int (own_nz (p8 &&& (2 : Int32)))), .val (.ref b__3), .val (.long ((p8 >>> ((11 : Int32) &&& 31)).toInt64)), .second, .val (.ref b_4), .val (.ref b_6), .val (.int (own_af q3 q1)), .unset, .unset] [(.long q2), (.long q4)])) _
          refine XT.lcmp X_10.here hx rfl (hb hby at_134) rfl ?_
          show Steps pP.tables eE below (T_10.setTop (mkF mM 135 #[.val (.long q1), .second, .val (.long q2), .second, .val (.long q3), .second, .val (.long q4), .second, .val (.int p8), .val (.int (own_nz (p8 &&& (1 : Int32)))), .val (.int (own_nz (p8 &&& (2 : Int32)))), .val (.ref b__3), .val (.long ((p8 >>> ((11 : Int32) &&& 31)).toInt64)), .second, .val (.ref b_4), .val (.ref b_6), .val (.int (own_af q3 q1)), .unset, .unset] [(.int (XT.cmpL q4 q2))])) _
          refine XS.ifNo X_10.here hx rfl (hb hby at_135) rfl (XT.ll_eq_f h2) ?_
          show Steps pP.tables eE below (T_10.setTop (mkF mM 138 #[.val (.long q1), .second, .val (.long q2), .second, .val (.long q3), .second, .val (.long q4), .second, .val (.int p8), .val (.int (own_nz (p8 &&& (1 : Int32)))), .val (.int (own_nz (p8 &&& (2 : Int32)))), .val (.ref b__3), .val (.long ((p8 >>> ((11 : Int32) &&& 31)).toInt64)), .second, .val (.ref b_4), .val (.ref b_6), .val (.int (own_af q3 q1)), .unset, .unset] [])) _
          refine XS.iconst X_10.here hx rfl (hb hby at_138) ?_
          show Steps pP.tables eE below (T_10.setTop (mkF mM 139 #[.val (.long q1), .second, .val (.long q2), .second, .val (.long q3), .second, .val (.long q4), .second, .val (.int p8), .val (.int (own_nz (p8 &&& (1 : Int32)))), .val (.int (own_nz (p8 &&& (2 : Int32)))), .val (.ref b__3), .val (.long ((p8 >>> ((11 : Int32) &&& 31)).toInt64)), .second, .val (.ref b_4), .val (.ref b_6), .val (.int (own_af q3 q1)), .unset, .unset] [(.int (1 : Int32))])) _
          refine XS.goto X_10.here hx rfl (pc0 := 139) (pc' := 143) rfl (hb hby at_139) (by decide) (by decide) ?_
          show Steps pP.tables eE below (T_10.setTop (mkF mM 143 #[.val (.long q1), .second, .val (.long q2), .second, .val (.long q3), .second, .val (.long q4), .second, .val (.int p8), .val (.int (own_nz (p8 &&& (1 : Int32)))), .val (.int (own_nz (p8 &&& (2 : Int32)))), .val (.ref b__3), .val (.long ((p8 >>> ((11 : Int32) &&& 31)).toInt64)), .second, .val (.ref b_4), .val (.ref b_6), .val (.int (own_af q3 q1)), .unset, .unset] [(.int (1 : Int32))])) _
          exact kt
      · have hj : (own_bl q4 q2) = (0 : Int32) := if_neg (fun z => h1 z.1)
        rw [hj] at kt
        show Steps pP.tables eE below (T_10.setTop (mkF mM 128 #[.val (.long q1), .second, .val (.long q2), .second, .val (.long q3), .second, .val (.long q4), .second, .val (.int p8), .val (.int (own_nz (p8 &&& (1 : Int32)))), .val (.int (own_nz (p8 &&& (2 : Int32)))), .val (.ref b__3), .val (.long ((p8 >>> ((11 : Int32) &&& 31)).toInt64)), .second, .val (.ref b_4), .val (.ref b_6), .val (.int (own_af q3 q1)), .unset, .unset] [(.int (XT.cmpL (own_minL q4 q2) q4))])) _
        refine XS.ifYes X_10.here hx rfl (pc0 := 128) (pc' := 142) rfl (hb hby at_128) rfl (XT.ll_ne_t h1) (by decide) (by decide) ?_
        show Steps pP.tables eE below (T_10.setTop (mkF mM 142 #[.val (.long q1), .second, .val (.long q2), .second, .val (.long q3), .second, .val (.long q4), .second, .val (.int p8), .val (.int (own_nz (p8 &&& (1 : Int32)))), .val (.int (own_nz (p8 &&& (2 : Int32)))), .val (.ref b__3), .val (.long ((p8 >>> ((11 : Int32) &&& 31)).toInt64)), .second, .val (.ref b_4), .val (.ref b_6), .val (.int (own_af q3 q1)), .unset, .unset] [])) _
        refine XS.iconst X_10.here hx rfl (hb hby at_142) ?_
        show Steps pP.tables eE below (T_10.setTop (mkF mM 143 #[.val (.long q1), .second, .val (.long q2), .second, .val (.long q3), .second, .val (.long q4), .second, .val (.int p8), .val (.int (own_nz (p8 &&& (1 : Int32)))), .val (.int (own_nz (p8 &&& (2 : Int32)))), .val (.ref b__3), .val (.long ((p8 >>> ((11 : Int32) &&& 31)).toInt64)), .second, .val (.ref b_4), .val (.ref b_6), .val (.int (own_af q3 q1)), .unset, .unset] [(.int (0 : Int32))])) _
        exact kt
    refine jn_11 _ ?_
    show Steps pP.tables eE below (T_10.setTop (mkF mM 143 #[.val (.long q1), .second, .val (.long q2), .second, .val (.long q3), .second, .val (.long q4), .second, .val (.int p8), .val (.int (own_nz (p8 &&& (1 : Int32)))), .val (.int (own_nz (p8 &&& (2 : Int32)))), .val (.ref b__3), .val (.long ((p8 >>> ((11 : Int32) &&& 31)).toInt64)), .second, .val (.ref b_4), .val (.ref b_6), .val (.int (own_af q3 q1)), .unset, .unset] [(.int (own_bl q4 q2))])) _
    refine XS.istore X_10.here hx rfl (hb hby at_143) rfl (l' := #[.val (.long q1), .second, .val (.long q2), .second, .val (.long q3), .second, .val (.long q4), .second, .val (.int p8), .val (.int (own_nz (p8 &&& (1 : Int32)))), .val (.int (own_nz (p8 &&& (2 : Int32)))), .val (.ref b__3), .val (.long ((p8 >>> ((11 : Int32) &&& 31)).toInt64)), .second, .val (.ref b_4), .val (.ref b_6), .val (.int (own_af q3 q1)), .val (.int (own_bl q4 q2)), .unset]) rfl ?_
    show Steps pP.tables eE below (T_10.setTop (mkF mM 145 #[.val (.long q1), .second, .val (.long q2), .second, .val (.long q3), .second, .val (.long q4), .second, .val (.int p8), .val (.int (own_nz (p8 &&& (1 : Int32)))), .val (.int (own_nz (p8 &&& (2 : Int32)))), .val (.ref b__3), .val (.long ((p8 >>> ((11 : Int32) &&& 31)).toInt64)), .second, .val (.ref b_4), .val (.ref b_6), .val (.int (own_af q3 q1)), .val (.int (own_bl q4 q2)), .unset] [])) _
    refine XS.iload X_10.here hx rfl (hb hby at_145) rfl ?_
    show Steps pP.tables eE below (T_10.setTop (mkF mM 147 #[.val (.long q1), .second, .val (.long q2), .second, .val (.long q3), .second, .val (.long q4), .second, .val (.int p8), .val (.int (own_nz (p8 &&& (1 : Int32)))), .val (.int (own_nz (p8 &&& (2 : Int32)))), .val (.ref b__3), .val (.long ((p8 >>> ((11 : Int32) &&& 31)).toInt64)), .second, .val (.ref b_4), .val (.ref b_6), .val (.int (own_af q3 q1)), .val (.int (own_bl q4 q2)), .unset] [(.int (own_af q3 q1))])) _
    have jn_12 : ∀ t_, Steps pP.tables eE below (T_10.setTop (mkF mM 160 #[.val (.long q1), .second, .val (.long q2), .second, .val (.long q3), .second, .val (.long q4), .second, .val (.int p8), .val (.int (own_nz (p8 &&& (1 : Int32)))), .val (.int (own_nz (p8 &&& (2 : Int32)))), .val (.ref b__3), .val (.long ((p8 >>> ((11 : Int32) &&& 31)).toInt64)), .second, .val (.ref b_4), .val (.ref b_6), .val (.int (own_af q3 q1)), .val (.int (own_bl q4 q2)), .unset] [(.int (own_and (own_af q3 q1) (own_bl q4 q2)))])) t_ → Steps pP.tables eE below (T_10.setTop (mkF mM 147 #[.val (.long q1), .second, .val (.long q2), .second, .val (.long q3), .second, .val (.long q4), .second, .val (.int p8), .val (.int (own_nz (p8 &&& (1 : Int32)))), .val (.int (own_nz (p8 &&& (2 : Int32)))), .val (.ref b__3), .val (.long ((p8 >>> ((11 : Int32) &&& 31)).toInt64)), .second, .val (.ref b_4), .val (.ref b_6), .val (.int (own_af q3 q1)), .val (.int (own_bl q4 q2)), .unset] [(.int (own_af q3 q1))])) t_ := by
      intro t_ kt
      by_cases h1 : (own_af q3 q1) = 0
      · have hj : (own_and (own_af q3 q1) (own_bl q4 q2)) = (0 : Int32) := if_pos h1
        rw [hj] at kt
        show Steps pP.tables eE below (T_10.setTop (mkF mM 147 #[.val (.long q1), .second, .val (.long q2), .second, .val (.long q3), .second, .val (.long q4), .second, .val (.int p8), .val (.int (own_nz (p8 &&& (1 : Int32)))), .val (.int (own_nz (p8 &&& (2 : Int32)))), .val (.ref b__3), .val (.long ((p8 >>> ((11 : Int32) &&& 31)).toInt64)), .second, .val (.ref b_4), .val (.ref b_6), .val (.int (own_af q3 q1)), .val (.int (own_bl q4 q2)), .unset] [(.int (own_af q3 q1))])) _
        refine XS.ifYes X_10.here hx rfl (pc0 := 147) (pc' := 159) rfl (hb hby at_147) rfl (XT.i0_eq_t h1) (by decide) (by decide) ?_
        show Steps pP.tables eE below (T_10.setTop (mkF mM 159 #[.val (.long q1), .second, .val (.long q2), .second, .val (.long q3), .second, .val (.long q4), .second, .val (.int p8), .val (.int (own_nz (p8 &&& (1 : Int32)))), .val (.int (own_nz (p8 &&& (2 : Int32)))), .val (.ref b__3), .val (.long ((p8 >>> ((11 : Int32) &&& 31)).toInt64)), .second, .val (.ref b_4), .val (.ref b_6), .val (.int (own_af q3 q1)), .val (.int (own_bl q4 q2)), .unset] [])) _
        refine XS.iconst X_10.here hx rfl (hb hby at_159) ?_
        show Steps pP.tables eE below (T_10.setTop (mkF mM 160 #[.val (.long q1), .second, .val (.long q2), .second, .val (.long q3), .second, .val (.long q4), .second, .val (.int p8), .val (.int (own_nz (p8 &&& (1 : Int32)))), .val (.int (own_nz (p8 &&& (2 : Int32)))), .val (.ref b__3), .val (.long ((p8 >>> ((11 : Int32) &&& 31)).toInt64)), .second, .val (.ref b_4), .val (.ref b_6), .val (.int (own_af q3 q1)), .val (.int (own_bl q4 q2)), .unset] [(.int (0 : Int32))])) _
        exact kt
      · by_cases h2 : (own_bl q4 q2) = 0
        · have hj : (own_and (own_af q3 q1) (own_bl q4 q2)) = (0 : Int32) := (if_neg h1).trans (if_pos h2)
          rw [hj] at kt
          show Steps pP.tables eE below (T_10.setTop (mkF mM 147 #[.val (.long q1), .second, .val (.long q2), .second, .val (.long q3), .second, .val (.long q4), .second, .val (.int p8), .val (.int (own_nz (p8 &&& (1 : Int32)))), .val (.int (own_nz (p8 &&& (2 : Int32)))), .val (.ref b__3), .val (.long ((p8 >>> ((11 : Int32) &&& 31)).toInt64)), .second, .val (.ref b_4), .val (.ref b_6), .val (.int (own_af q3 q1)), .val (.int (own_bl q4 q2)), .unset] [(.int (own_af q3 q1))])) _
          refine XS.ifNo X_10.here hx rfl (hb hby at_147) rfl (XT.i0_eq_f h1) ?_
          show Steps pP.tables eE below (T_10.setTop (mkF mM 150 #[.val (.long q1), .second, .val (.long q2), .second, .val (.long q3), .second, .val (.long q4), .second, .val (.int p8), .val (.int (own_nz (p8 &&& (1 : Int32)))), .val (.int (own_nz (p8 &&& (2 : Int32)))), .val (.ref b__3), .val (.long ((p8 >>> ((11 : Int32) &&& 31)).toInt64)), .second, .val (.ref b_4), .val (.ref b_6), .val (.int (own_af q3 q1)), .val (.int (own_bl q4 q2)), .unset] [])) _
          refine XS.iload X_10.here hx rfl (hb hby at_150) rfl ?_
          show Steps pP.tables eE below (T_10.setTop (mkF mM 152 #[.val (.long q1), .second, .val (.long q2), .second, .val (.long q3), .second, .val (.long q4), .second, .val (.int p8), .val (.int (own_nz (p8 &&& (1 : Int32)))), .val (.int (own_nz (p8 &&& (2 : Int32)))), .val (.ref b__3), .val (.long ((p8 >>> ((11 : Int32) &&& 31)).toInt64)), .second, .val (.ref b_4), .val (.ref b_6), .val (.int (own_af q3 q1)), .val (.int (own_bl q4 q2)), .unset] [(.int (own_bl q4 q2))])) _
          refine XS.ifYes X_10.here hx rfl (pc0 := 152) (pc' := 159) rfl (hb hby at_152) rfl (XT.i0_eq_t h2) (by decide) (by decide) ?_
          show Steps pP.tables eE below (T_10.setTop (mkF mM 159 #[.val (.long q1), .second, .val (.long q2), .second, .val (.long q3), .second, .val (.long q4), .second, .val (.int p8), .val (.int (own_nz (p8 &&& (1 : Int32)))), .val (.int (own_nz (p8 &&& (2 : Int32)))), .val (.ref b__3), .val (.long ((p8 >>> ((11 : Int32) &&& 31)).toInt64)), .second, .val (.ref b_4), .val (.ref b_6), .val (.int (own_af q3 q1)), .val (.int (own_bl q4 q2)), .unset] [])) _
          refine XS.iconst X_10.here hx rfl (hb hby at_159) ?_
          show Steps pP.tables eE below (T_10.setTop (mkF mM 160 #[.val (.long q1), .second, .val (.long q2), .second, .val (.long q3), .second, .val (.long q4), .second, .val (.int p8), .val (.int (own_nz (p8 &&& (1 : Int32)))), .val (.int (own_nz (p8 &&& (2 : Int32)))), .val (.ref b__3), .val (.long ((p8 >>> ((11 : Int32) &&& 31)).toInt64)), .second, .val (.ref b_4), .val (.ref b_6), .val (.int (own_af q3 q1)), .val (.int (own_bl q4 q2)), .unset] [(.int (0 : Int32))])) _
          exact kt
        · have hj : (own_and (own_af q3 q1) (own_bl q4 q2)) = (1 : Int32) := (if_neg h1).trans (if_neg h2)
          rw [hj] at kt
          show Steps pP.tables eE below (T_10.setTop (mkF mM 147 #[.val (.long q1), .second, .val (.long q2), .second, .val (.long q3), .second, .val (.long q4), .second, .val (.int p8), .val (.int (own_nz (p8 &&& (1 : Int32)))), .val (.int (own_nz (p8 &&& (2 : Int32)))), .val (.ref b__3), .val (.long ((p8 >>> ((11 : Int32) &&& 31)).toInt64)), .second, .val (.ref b_4), .val (.ref b_6), .val (.int (own_af q3 q1)), .val (.int (own_bl q4 q2)), .unset] [(.int (own_af q3 q1))])) _
          refine XS.ifNo X_10.here hx rfl (hb hby at_147) rfl (XT.i0_eq_f h1) ?_
          show Steps pP.tables eE below (T_10.setTop (mkF mM 150 #[.val (.long q1), .second, .val (.long q2), .second, .val (.long q3), .second, .val (.long q4), .second, .val (.int p8), .val (.int (own_nz (p8 &&& (1 : Int32)))), .val (.int (own_nz (p8 &&& (2 : Int32)))), .val (.ref b__3), .val (.long ((p8 >>> ((11 : Int32) &&& 31)).toInt64)), .second, .val (.ref b_4), .val (.ref b_6), .val (.int (own_af q3 q1)), .val (.int (own_bl q4 q2)), .unset] [])) _
          refine XS.iload X_10.here hx rfl (hb hby at_150) rfl ?_
          show Steps pP.tables eE below (T_10.setTop (mkF mM 152 #[.val (.long q1), .second, .val (.long q2), .second, .val (.long q3), .second, .val (.long q4), .second, .val (.int p8), .val (.int (own_nz (p8 &&& (1 : Int32)))), .val (.int (own_nz (p8 &&& (2 : Int32)))), .val (.ref b__3), .val (.long ((p8 >>> ((11 : Int32) &&& 31)).toInt64)), .second, .val (.ref b_4), .val (.ref b_6), .val (.int (own_af q3 q1)), .val (.int (own_bl q4 q2)), .unset] [(.int (own_bl q4 q2))])) _
          refine XS.ifNo X_10.here hx rfl (hb hby at_152) rfl (XT.i0_eq_f h2) ?_
          show Steps pP.tables eE below (T_10.setTop (mkF mM 155 #[.val (.long q1), .second, .val (.long q2), .second, .val (.long q3), .second, .val (.long q4), .second, .val (.int p8), .val (.int (own_nz (p8 &&& (1 : Int32)))), .val (.int (own_nz (p8 &&& (2 : Int32)))), .val (.ref b__3), .val (.long ((p8 >>> ((11 : Int32) &&& 31)).toInt64)), .second, .val (.ref b_4), .val (.ref b_6), .val (.int (own_af q3 q1)), .val (.int (own_bl q4 q2)), .unset] [])) _
          refine XS.iconst X_10.here hx rfl (hb hby at_155) ?_
          show Steps pP.tables eE below (T_10.setTop (mkF mM 156 #[.val (.long q1), .second, .val (.long q2), .second, .val (.long q3), .second, .val (.long q4), .second, .val (.int p8), .val (.int (own_nz (p8 &&& (1 : Int32)))), .val (.int (own_nz (p8 &&& (2 : Int32)))), .val (.ref b__3), .val (.long ((p8 >>> ((11 : Int32) &&& 31)).toInt64)), .second, .val (.ref b_4), .val (.ref b_6), .val (.int (own_af q3 q1)), .val (.int (own_bl q4 q2)), .unset] [(.int (1 : Int32))])) _
          refine XS.goto X_10.here hx rfl (pc0 := 156) (pc' := 160) rfl (hb hby at_156) (by decide) (by decide) ?_
          show Steps pP.tables eE below (T_10.setTop (mkF mM 160 #[.val (.long q1), .second, .val (.long q2), .second, .val (.long q3), .second, .val (.long q4), .second, .val (.int p8), .val (.int (own_nz (p8 &&& (1 : Int32)))), .val (.int (own_nz (p8 &&& (2 : Int32)))), .val (.ref b__3), .val (.long ((p8 >>> ((11 : Int32) &&& 31)).toInt64)), .second, .val (.ref b_4), .val (.ref b_6), .val (.int (own_af q3 q1)), .val (.int (own_bl q4 q2)), .unset] [(.int (1 : Int32))])) _
          exact kt
    refine jn_12 _ ?_
    show Steps pP.tables eE below (T_10.setTop (mkF mM 160 #[.val (.long q1), .second, .val (.long q2), .second, .val (.long q3), .second, .val (.long q4), .second, .val (.int p8), .val (.int (own_nz (p8 &&& (1 : Int32)))), .val (.int (own_nz (p8 &&& (2 : Int32)))), .val (.ref b__3), .val (.long ((p8 >>> ((11 : Int32) &&& 31)).toInt64)), .second, .val (.ref b_4), .val (.ref b_6), .val (.int (own_af q3 q1)), .val (.int (own_bl q4 q2)), .unset] [(.int (own_and (own_af q3 q1) (own_bl q4 q2)))])) _
    refine XS.istore X_10.here hx rfl (hb hby at_160) rfl (l' := #[.val (.long q1), .second, .val (.long q2), .second, .val (.long q3), .second, .val (.long q4), .second, .val (.int p8), .val (.int (own_nz (p8 &&& (1 : Int32)))), .val (.int (own_nz (p8 &&& (2 : Int32)))), .val (.ref b__3), .val (.long ((p8 >>> ((11 : Int32) &&& 31)).toInt64)), .second, .val (.ref b_4), .val (.ref b_6), .val (.int (own_af q3 q1)), .val (.int (own_bl q4 q2)), .val (.int (own_and (own_af q3 q1) (own_bl q4 q2)))]) rfl ?_
    show Steps pP.tables eE below (T_10.setTop (mkF mM 162 #[.val (.long q1), .second, .val (.long q2), .second, .val (.long q3), .second, .val (.long q4), .second, .val (.int p8), .val (.int (own_nz (p8 &&& (1 : Int32)))), .val (.int (own_nz (p8 &&& (2 : Int32)))), .val (.ref b__3), .val (.long ((p8 >>> ((11 : Int32) &&& 31)).toInt64)), .second, .val (.ref b_4), .val (.ref b_6), .val (.int (own_af q3 q1)), .val (.int (own_bl q4 q2)), .val (.int (own_and (own_af q3 q1) (own_bl q4 q2)))] [])) _
    refine XS.aload X_10.here hx rfl (hb hby at_162) rfl rfl ?_
    show Steps pP.tables eE below (T_10.setTop (mkF mM 164 #[.val (.long q1), .second, .val (.long q2), .second, .val (.long q3), .second, .val (.long q4), .second, .val (.int p8), .val (.int (own_nz (p8 &&& (1 : Int32)))), .val (.int (own_nz (p8 &&& (2 : Int32)))), .val (.ref b__3), .val (.long ((p8 >>> ((11 : Int32) &&& 31)).toInt64)), .second, .val (.ref b_4), .val (.ref b_6), .val (.int (own_af q3 q1)), .val (.int (own_bl q4 q2)), .val (.int (own_and (own_af q3 q1) (own_bl q4 q2)))] [(.ref b_6)])) _
    refine XS.aload X_10.here hx rfl (hb hby at_164) rfl rfl ?_
    show Steps pP.tables eE below (T_10.setTop (mkF mM 166 #[.val (.long q1), .second, .val (.long q2), .second, .val (.long q3), .second, .val (.long q4), .second, .val (.int p8), .val (.int (own_nz (p8 &&& (1 : Int32)))), .val (.int (own_nz (p8 &&& (2 : Int32)))), .val (.ref b__3), .val (.long ((p8 >>> ((11 : Int32) &&& 31)).toInt64)), .second, .val (.ref b_4), .val (.ref b_6), .val (.int (own_af q3 q1)), .val (.int (own_bl q4 q2)), .val (.int (own_and (own_af q3 q1) (own_bl q4 q2)))] [(.ref b_4), (.ref b_6)])) _
    refine st_13.trans ?_
    show Steps pP.tables eE below (T_13.setTop (mkF mM 169 #[.val (.long q1), .second, .val (.long q2), .second, .val (.long q3), .second, .val (.long q4), .second, .val (.int p8), .val (.int (own_nz (p8 &&& (1 : Int32)))), .val (.int (own_nz (p8 &&& (2 : Int32)))), .val (.ref b__3), .val (.long ((p8 >>> ((11 : Int32) &&& 31)).toInt64)), .second, .val (.ref b_4), .val (.ref b_6), .val (.int (own_af q3 q1)), .val (.int (own_bl q4 q2)), .val (.int (own_and (own_af q3 q1) (own_bl q4 q2)))] [(.int (own_sp q1 q2 q3 q4))])) _
    refine XS.iload X_13.here hx rfl (hb hby at_169) rfl ?_
    show Steps pP.tables eE below (T_13.setTop (mkF mM 171 #[.val (.long q1), .second, .val (.long q2), .second, .val (.long q3), .second, .val (.long q4), .second, .val (.int p8), .val (.int (own_nz (p8 &&& (1 : Int32)))), .val (.int (own_nz (p8 &&& (2 : Int32)))), .val (.ref b__3), .val (.long ((p8 >>> ((11 : Int32) &&& 31)).toInt64)), .second, .val (.ref b_4), .val (.ref b_6), .val (.int (own_af q3 q1)), .val (.int (own_bl q4 q2)), .val (.int (own_and (own_af q3 q1) (own_bl q4 q2)))] [(.int (own_and (own_af q3 q1) (own_bl q4 q2))), (.int (own_sp q1 q2 q3 q4))])) _
    refine XS.icmpNo X_13.here hx rfl (hb hby at_171) rfl (XT.ii_ne_f (own_spx q1 q2 q3 q4)) ?_
    show Steps pP.tables eE below (T_13.setTop (mkF mM 174 #[.val (.long q1), .second, .val (.long q2), .second, .val (.long q3), .second, .val (.long q4), .second, .val (.int p8), .val (.int (own_nz (p8 &&& (1 : Int32)))), .val (.int (own_nz (p8 &&& (2 : Int32)))), .val (.ref b__3), .val (.long ((p8 >>> ((11 : Int32) &&& 31)).toInt64)), .second, .val (.ref b_4), .val (.ref b_6), .val (.int (own_af q3 q1)), .val (.int (own_bl q4 q2)), .val (.int (own_and (own_af q3 q1) (own_bl q4 q2)))] [])) _
    refine st_14 _ ?_
    show Steps pP.tables eE below (T_14.setTop (mkF mM 177 #[.val (.long q1), .second, .val (.long q2), .second, .val (.long q3), .second, .val (.long q4), .second, .val (.int p8), .val (.int (own_nz (p8 &&& (1 : Int32)))), .val (.int (own_nz (p8 &&& (2 : Int32)))), .val (.ref b__3), .val (.long ((p8 >>> ((11 : Int32) &&& 31)).toInt64)), .second, .val (.ref b_4), .val (.ref b_6), .val (.int (own_af q3 q1)), .val (.int (own_bl q4 q2)), .val (.int (own_and (own_af q3 q1) (own_bl q4 q2)))] [(.ref xn)])) _
    refine XS.aload X_14.here hx rfl (hb hby at_177) rfl rfl ?_
    show Steps pP.tables eE below (T_14.setTop (mkF mM 179 #[.val (.long q1), .second, .val (.long q2), .second, .val (.long q3), .second, .val (.long q4), .second, .val (.int p8), .val (.int (own_nz (p8 &&& (1 : Int32)))), .val (.int (own_nz (p8 &&& (2 : Int32)))), .val (.ref b__3), .val (.long ((p8 >>> ((11 : Int32) &&& 31)).toInt64)), .second, .val (.ref b_4), .val (.ref b_6), .val (.int (own_af q3 q1)), .val (.int (own_bl q4 q2)), .val (.int (own_and (own_af q3 q1) (own_bl q4 q2)))] [(.ref b_4), (.ref xn)])) _
    refine st_15.trans ?_
    show Steps pP.tables eE below (T_15.setTop (mkF mM 182 #[.val (.long q1), .second, .val (.long q2), .second, .val (.long q3), .second, .val (.long q4), .second, .val (.int p8), .val (.int (own_nz (p8 &&& (1 : Int32)))), .val (.int (own_nz (p8 &&& (2 : Int32)))), .val (.ref b__3), .val (.long ((p8 >>> ((11 : Int32) &&& 31)).toInt64)), .second, .val (.ref b_4), .val (.ref b_6), .val (.int (own_af q3 q1)), .val (.int (own_bl q4 q2)), .val (.int (own_and (own_af q3 q1) (own_bl q4 q2)))] [(.int (0 : Int32))])) _
    refine XS.ifNo X_15.here hx rfl (hb hby at_182) rfl (by decide) ?_
    show Steps pP.tables eE below (T_15.setTop (mkF mM 185 #[.val (.long q1), .second, .val (.long q2), .second, .val (.long q3), .second, .val (.long q4), .second, .val (.int p8), .val (.int (own_nz (p8 &&& (1 : Int32)))), .val (.int (own_nz (p8 &&& (2 : Int32)))), .val (.ref b__3), .val (.long ((p8 >>> ((11 : Int32) &&& 31)).toInt64)), .second, .val (.ref b_4), .val (.ref b_6), .val (.int (own_af q3 q1)), .val (.int (own_bl q4 q2)), .val (.int (own_and (own_af q3 q1) (own_bl q4 q2)))] [])) _
    refine XS.iconst X_15.here hx rfl (hb hby at_185) ?_
    show Steps pP.tables eE below (T_15.setTop (mkF mM 186 #[.val (.long q1), .second, .val (.long q2), .second, .val (.long q3), .second, .val (.long q4), .second, .val (.int p8), .val (.int (own_nz (p8 &&& (1 : Int32)))), .val (.int (own_nz (p8 &&& (2 : Int32)))), .val (.ref b__3), .val (.long ((p8 >>> ((11 : Int32) &&& 31)).toInt64)), .second, .val (.ref b_4), .val (.ref b_6), .val (.int (own_af q3 q1)), .val (.int (own_bl q4 q2)), .val (.int (own_and (own_af q3 q1) (own_bl q4 q2)))] [(.int (1 : Int32))])) _
    refine XS.goto X_15.here hx rfl (pc0 := 186) (pc' := 190) rfl (hb hby at_186) (by decide) (by decide) ?_
    show Steps pP.tables eE below (T_15.setTop (mkF mM 190 #[.val (.long q1), .second, .val (.long q2), .second, .val (.long q3), .second, .val (.long q4), .second, .val (.int p8), .val (.int (own_nz (p8 &&& (1 : Int32)))), .val (.int (own_nz (p8 &&& (2 : Int32)))), .val (.ref b__3), .val (.long ((p8 >>> ((11 : Int32) &&& 31)).toInt64)), .second, .val (.ref b_4), .val (.ref b_6), .val (.int (own_af q3 q1)), .val (.int (own_bl q4 q2)), .val (.int (own_and (own_af q3 q1) (own_bl q4 q2)))] [(.int (1 : Int32))])) _
    exact retN X_15 hx (t := .boolean) Bd.returns (by simp) (hb hby at_190) hr
  · show Q_laws Z q1 q2 q3 q4 p8 xn cs h0 n0 _ T_15.heap _
    exact ⟨rfl, N_15⟩
theorem ef_lawn (mM : MethodId) (x0 : Int64) (x1 : Int64) (x2 : Int64) (x3 : Int64) (x4 : Int32) : entryFrame mM #[(.long x0), (.long x1), (.long x2), (.long x3), (.int x4)] maxLocals = mkF mM 0 #[.val (.long x0), .second, .val (.long x1), .second, .val (.long x2), .second, .val (.long x3), .second, .val (.int x4), .unset, .unset, .unset, .unset, .unset, .unset, .unset, .unset, .unset, .unset] [] := by first | (simp [entryFrame, mkF, argsToLocals, Value.category, maxLocals]; done) | rfl
def Q_lawn (Z : State) (q1 : Int64) (q2 : Int64) (q3 : Int64) (q4 : Int64) (p8 : Int32) (xn : Addr) (cs : Int32) (h0 : Heap) (n0 : Nat) (v_ : Option Value) (h_ : Heap) (L_ : List Loc) : Prop := v_ = some (.int (1 : Int32)) ∧ Fr n0 L_
set_option maxRecDepth 65536 in
set_option maxHeartbeats 40000000 in
theorem rm_lawn (l : Launch) (Z : State) (a0 : Array Value) (hw : ∀ d ∈ tables_1, d.before a0 Z = true) (ws : List Jvm.Cond) (q1 : Int64) (q2 : Int64) (q3 : Int64) (q4 : Int64) (p8 : Int32) (xn : Addr) (cs : Int32) (h0 : Heap) (n0 : Nat) (Z0 : n0 ≤ h0.size) (hf : (p8 &&& (4 : Int32)) = 0) (S_String_COMPACT_STRINGS : Sta Z h0 "java/lang/String" "COMPACT_STRINGS" "Z" (.int cs)) (hcs : ¬ cs = 0) (S_BenchReport_Change_NONE : Sta Z h0 "com/example/rolling_rung/rollingrung/cli/BenchReport$Change" "NONE" "Lcom/example/rolling_rung/rollingrung/cli/BenchReport$Change;" (.ref xn)) (E_xn : Exa Z h0 xn "com/example/rolling_rung/rollingrung/cli/BenchReport$Change") (F_firstRung_xn : Fld Z h0 xn "com/example/rolling_rung/rollingrung/cli/BenchReport$Change" "firstRung" "J" (.long (9223372036854775807 : Int64))) :
    MetFree l x (head1 (Jvm.Cond.code x code maxLocals ret :: ws) room_1) (fun aa_ U_ => aa_ = #[(.long q1), (.long q2), (.long q3), (.long q4), (.int p8)] ∧ Z.Warmed39 U_.vm ∧ U_.heap = h0) (fun _ _ _ _ _ => True) (fun _ U_ o_ U'_ => ∃ v_ L_, o_ = .returned v_ ∧ Q_lawn Z q1 q2 q3 q4 p8 xn cs h0 n0 v_ U'_.heap L_ ∧ FrameEnd U_ o_ U'_ L_ 2 8) := by
  refine MetFree.of_bodySF (plainFor_of_name pn_5) hisR ?_
  intro pP eE sS mM argsA below meth cC s₁ Bd hml0 hP hK
  obtain ⟨rfl, hZ, hh⟩ := hP
  have hx := Bd.exec
  have hby := Bd.bytes
  have hml : cC.maxLocals = 19 := hml0
  have hown : sS.vm.findClass "com/example/rolling_rung/rollingrung/cli/ChangeSpansPinLaw" = some mM.cls := findClass_of_methodNamed Bd.named
  have hnm := (name_of_methodNamed Bd.named Bd.method).1
  have X0 : Stand pP l eE room_1 sS mM #[(.long q1), (.long q2), (.long q3), (.long q4), (.int p8)] below meth cC s₁ [] 0 0 := Stand.of_body Bd
  have e0 : s₁.heap = h0 := by rw [← hh, Bd.state]; rfl
  have N0 := Fr.nil n0
  have pre0 : ∀ t_, Steps pP.tables eE below (s₁.setTop (mkF mM 0 #[.val (.long q1), .second, .val (.long q2), .second, .val (.long q3), .second, .val (.long q4), .second, .val (.int p8), .unset, .unset, .unset, .unset, .unset, .unset, .unset, .unset, .unset, .unset] [])) t_ → Steps pP.tables eE below (s₁.setTop (entryFrame mM #[(.long q1), (.long q2), (.long q3), (.long q4), (.int p8)] maxLocals)) t_ := fun t_ k_ => castTop (ef_lawn mM q1 q2 q3 q4 p8) k_
  obtain ⟨T_3, h_3, X_3, e_3, E_3, A_3, D_3, -, st_3⟩ := newO X0 hx hZ hown (hw _ (List.mem_of_getElem? (i := 0) rfl)) (hw _ (List.mem_of_getElem? (i := 1) rfl)) (hw _ (List.mem_of_getElem? (i := 2) rfl)) e0 (g := (mkF mM 61 #[.val (.long q1), .second, .val (.long q2), .second, .val (.long q3), .second, .val (.long q4), .second, .val (.int p8), .val (.int (own_nz (p8 &&& (1 : Int32)))), .val (.int (own_nz (p8 &&& (2 : Int32)))), .val .null, .val (.long ((p8 >>> ((11 : Int32) &&& 31)).toInt64)), .second, .unset, .unset, .unset, .unset, .unset] [])) rfl (hb hby at_61) (by decide) (by decide)
  obtain ⟨b_3, g_3⟩ : ∃ z, z = h0.size := ⟨_, rfl⟩
  rw [← g_3] at A_3 D_3 st_3
  have g_b_3 : n0 ≤ b_3 := Nat.le_trans Z0 (Nat.le_of_eq g_3.symm)
  have sz_b_3 : h0.size ≤ b_3 := Nat.le_trans (Keep.refl h0 []).1 (Nat.le_of_eq g_3.symm)
  have Z_3 : n0 ≤ h_3.size := (Nat.le_trans Z0 E_3.1)
  have K_3 : Keep h0 h_3 [] := (Keep.refl h0 []).ext E_3
  have F_write_b_3__3 : Fld Z h_3 b_3 "com/example/rolling_rung/rollingrung/cli/BenchReport$Operation" "write" "Z" (.int (0 : Int32)) := D_3 (Or.inr (hw _ (List.mem_of_getElem? (i := 15) rfl))) (ty := .boolean) (by decide)
  have F_began_b_3__3 : Fld Z h_3 b_3 "com/example/rolling_rung/rollingrung/cli/BenchReport$Operation" "began" "J" (.long (0 : Int64)) := D_3 (Or.inr (hw _ (List.mem_of_getElem? (i := 17) rfl))) (ty := .long) (by decide)
  have F_ended_b_3__3 : Fld Z h_3 b_3 "com/example/rolling_rung/rollingrung/cli/BenchReport$Operation" "ended" "J" (.long (0 : Int64)) := D_3 (Or.inr (hw _ (List.mem_of_getElem? (i := 19) rfl))) (ty := .long) (by decide)
  have F_version_b_3__3 : Fld Z h_3 b_3 "com/example/rolling_rung/rollingrung/cli/BenchReport$Operation" "version" "J" (.long (0 : Int64)) := D_3 (Or.inr (hw _ (List.mem_of_getElem? (i := 21) rfl))) (ty := .long) (by decide)
  have F_fenced_b_3__3 : Fld Z h_3 b_3 "com/example/rolling_rung/rollingrung/cli/BenchReport$Operation" "fenced" "Z" (.int (0 : Int32)) := D_3 (Or.inr (hw _ (List.mem_of_getElem? (i := 23) rfl))) (ty := .boolean) (by decide)
  have F_failure_b_3__3 : Fld Z h_3 b_3 "com/example/rolling_rung/rollingrung/cli/BenchReport$Operation" "failure" "Ljava/lang/String;" .null := D_3 (Or.inr (hw _ (List.mem_of_getElem? (i := 25) rfl))) (ty := (.object "java/lang/String")) (by decide)
  obtain ⟨_, _, ⟨T_4, L_4, k_4, n_4⟩, -, X_4, ⟨Lc_4, hQ_4, l_4, y_4, z_4⟩, st_4⟩ := X_3.specialBack hx (y := (⟨"com/example/rolling_rung/rollingrung/cli/BenchReport$Operation", "<init>", "(ZJJJZLjava/lang/String;)V"⟩ : MethodName)) rfl hown (mvT hZ (hw _ (List.mem_of_getElem? (i := 3) rfl))) (mvT hZ (hw _ (List.mem_of_getElem? (i := 4) rfl))) (mvT hZ (hw _ (List.mem_of_getElem? (i := 5) rfl))) (by decide) (backOf (W := 1) (rm_opin l Z a0 hw [] b_3 (own_nz (p8 &&& (1 : Int32))) q3 q4 ((p8 >>> ((11 : Int32) &&& 31)).toInt64) (own_nz (p8 &&& (2 : Int32))) h_3 n0 Z_3 F_write_b_3__3 F_began_b_3__3 F_ended_b_3__3 F_version_b_3__3 F_fenced_b_3__3 F_failure_b_3__3 A_3 g_b_3) hZ (hw _ (List.mem_of_getElem? (i := 5) rfl)) (hw _ (List.mem_of_getElem? (i := 2) rfl)) (by decide) (by decide)) (g := (mkF mM 77 #[.val (.long q1), .second, .val (.long q2), .second, .val (.long q3), .second, .val (.long q4), .second, .val (.int p8), .val (.int (own_nz (p8 &&& (1 : Int32)))), .val (.int (own_nz (p8 &&& (2 : Int32)))), .val .null, .val (.long ((p8 >>> ((11 : Int32) &&& 31)).toInt64)), .second, .unset, .unset, .unset, .unset, .unset] [.null, (.int (own_nz (p8 &&& (2 : Int32)))), (.long ((p8 >>> ((11 : Int32) &&& 31)).toInt64)), (.long q4), (.long q3), (.int (own_nz (p8 &&& (1 : Int32)))), (.ref b_3), (.ref b_3)])) rfl (by rw [hml]; rfl) (Steps.refl _) (a := b_3) (argsL := [(.int (own_nz (p8 &&& (1 : Int32)))), (.long q3), (.long q4), (.long ((p8 >>> ((11 : Int32) &&& 31)).toInt64)), (.int (own_nz (p8 &&& (2 : Int32)))), .null]) (rest := [(.ref b_3)]) (lenOf pd_6 rfl) rfl (by show 2 * 0 + _ ≤ _; exact Nat.le_of_eq rfl) (hb hby at_77) (fun _ _ => ⟨rfl, e_3, (by decide : 1 + 0 ≤ _), (by decide : 6 + 0 ≤ _)⟩)
  dsimp only [Pt.U, Pt.locs, Pt.cells, Pt.slots] at X_4 l_4 y_4 z_4 st_4 hQ_4
  subst l_4 y_4 z_4
  obtain ⟨rfl, N_4q, Kc_4, pfF_began_a_4, pfF_ended_a_4, pfE_a_4⟩ := hQ_4
  have Z_4 : n0 ≤ T_4.heap.size := (Nat.le_trans Z_3 Kc_4.1)
  have K_4 : Keep h0 T_4.heap [] := K_3.trans Kc_4 (allS (Or.inr sz_b_3) all0)
  have N_4 := Fr.app N0 N_4q
  obtain ⟨T_5, h_5, X_5, e_5, E_5, A_5, D_5, -, st_5⟩ := newO X_4 hx hZ hown (hw _ (List.mem_of_getElem? (i := 26) rfl)) (hw _ (List.mem_of_getElem? (i := 27) rfl)) (hw _ (List.mem_of_getElem? (i := 28) rfl)) rfl (g := (mkF mM 82 #[.val (.long q1), .second, .val (.long q2), .second, .val (.long q3), .second, .val (.long q4), .second, .val (.int p8), .val (.int (own_nz (p8 &&& (1 : Int32)))), .val (.int (own_nz (p8 &&& (2 : Int32)))), .val .null, .val (.long ((p8 >>> ((11 : Int32) &&& 31)).toInt64)), .second, .val (.ref b_3), .unset, .unset, .unset, .unset] [])) rfl (hb hby at_82) (by decide) (by decide)
  obtain ⟨b_5, g_5⟩ : ∃ z, z = T_4.heap.size := ⟨_, rfl⟩
  rw [← g_5] at A_5 D_5 st_5
  have g_b_5 : n0 ≤ b_5 := Nat.le_trans Z_4 (Nat.le_of_eq g_5.symm)
  have sz_b_5 : h0.size ≤ b_5 := Nat.le_trans K_4.1 (Nat.le_of_eq g_5.symm)
  have Z_5 : n0 ≤ h_5.size := (Nat.le_trans Z_4 E_5.1)
  have K_5 : Keep h0 h_5 [] := K_4.ext E_5
  have F_firstRung_b_5__5 : Fld Z h_5 b_5 "com/example/rolling_rung/rollingrung/cli/BenchReport$Change" "firstRung" "J" (.long (0 : Int64)) := D_5 (Or.inr (hw _ (List.mem_of_getElem? (i := 34) rfl))) (ty := .long) (by decide)
  have F_lastRung_b_5__5 : Fld Z h_5 b_5 "com/example/rolling_rung/rollingrung/cli/BenchReport$Change" "lastRung" "J" (.long (0 : Int64)) := D_5 (Or.inr (hw _ (List.mem_of_getElem? (i := 36) rfl))) (ty := .long) (by decide)
  obtain ⟨_, _, ⟨T_6, L_6, k_6, n_6⟩, -, X_6, ⟨Lc_6, hQ_6, l_6, y_6, z_6⟩, st_6⟩ := X_5.specialBack hx (y := (⟨"com/example/rolling_rung/rollingrung/cli/BenchReport$Change", "<init>", "(JJ)V"⟩ : MethodName)) rfl hown (mvT hZ (hw _ (List.mem_of_getElem? (i := 29) rfl))) (mvT hZ (hw _ (List.mem_of_getElem? (i := 30) rfl))) (mvT hZ (hw _ (List.mem_of_getElem? (i := 31) rfl))) (by decide) (backOf (W := 1) (rm_chi l Z a0 hw [] b_5 q1 q2 h_5 n0 Z_5 F_firstRung_b_5__5 F_lastRung_b_5__5 A_5 g_b_5) hZ (hw _ (List.mem_of_getElem? (i := 31) rfl)) (hw _ (List.mem_of_getElem? (i := 28) rfl)) (by decide) (by decide)) (g := (mkF mM 88 #[.val (.long q1), .second, .val (.long q2), .second, .val (.long q3), .second, .val (.long q4), .second, .val (.int p8), .val (.int (own_nz (p8 &&& (1 : Int32)))), .val (.int (own_nz (p8 &&& (2 : Int32)))), .val .null, .val (.long ((p8 >>> ((11 : Int32) &&& 31)).toInt64)), .second, .val (.ref b_3), .unset, .unset, .unset, .unset] [(.long q2), (.long q1), (.ref b_5), (.ref b_5)])) rfl (by rw [hml]; rfl) (Steps.refl _) (a := b_5) (argsL := [(.long q1), (.long q2)]) (rest := [(.ref b_5)]) (lenOf pd_7 rfl) rfl (by show 2 * 0 + _ ≤ _; exact Nat.le_of_eq rfl) (hb hby at_88) (fun _ _ => ⟨rfl, e_5, (by decide : 2 + 0 ≤ _), (by decide : 8 + 0 ≤ _)⟩)
  dsimp only [Pt.U, Pt.locs, Pt.cells, Pt.slots] at X_6 l_6 y_6 z_6 st_6 hQ_6
  subst l_6 y_6 z_6
  obtain ⟨rfl, N_6q, Kc_6, pfF_firstRung_a_6, pfF_lastRung_a_6, pfE_a_6⟩ := hQ_6
  have Z_6 : n0 ≤ T_6.heap.size := (Nat.le_trans Z_5 Kc_6.1)
  have K_6 : Keep h0 T_6.heap [] := K_5.trans Kc_6 (allS (Or.inr sz_b_5) all0)
  have N_6 := Fr.app N_4 N_6q
  obtain ⟨_, _, ⟨T_7, L_7, k_7, n_7⟩, -, X_7, ⟨Lc_7, hQ_7, l_7, y_7, z_7⟩, st_7⟩ := Jvm.LawKit.callS X_6 hx (y := (⟨"java/lang/Math", "max", "(JJ)J"⟩ : MethodName)) hown (mvT hZ (hw _ (List.mem_of_getElem? (i := 37) rfl))) (mvT hZ (hw _ (List.mem_of_getElem? (i := 38) rfl))) (mvT hZ (hw _ (List.mem_of_getElem? (i := 39) rfl))) (mvT hZ (hw _ (List.mem_of_getElem? (i := 40) rfl))) (by decide) (backOf (W := 0) (rm_max l Z a0 hw [] q3 q1 T_6.heap n0 Z_6 ) hZ (hw _ (List.mem_of_getElem? (i := 40) rfl)) (hw _ (List.mem_of_getElem? (i := 39) rfl)) (by decide) (by decide)) (g := (mkF mM 96 #[.val (.long q1), .second, .val (.long q2), .second, .val (.long q3), .second, .val (.long q4), .second, .val (.int p8), .val (.int (own_nz (p8 &&& (1 : Int32)))), .val (.int (own_nz (p8 &&& (2 : Int32)))), .val .null, .val (.long ((p8 >>> ((11 : Int32) &&& 31)).toInt64)), .second, .val (.ref b_3), .val (.ref b_5), .unset, .unset, .unset] [(.long q1), (.long q3)])) rfl (by rw [hml]; rfl) (argsL := [(.long q3), (.long q1)]) (rest := []) (lenOf pd_8 rfl) rfl (by show 2 * 0 + _ ≤ _; exact Nat.le_of_eq rfl) (hb hby at_96) (fun _ _ => ⟨rfl, rfl, (by decide : 2 + 0 ≤ _), (by decide : 8 + 0 ≤ _)⟩)
  dsimp only [Pt.U, Pt.locs, Pt.cells, Pt.slots] at X_7 l_7 y_7 z_7 st_7 hQ_7
  subst l_7 y_7 z_7
  obtain ⟨rfl, N_7q, eh_7⟩ := hQ_7
  have N_7 := Fr.app N_6 N_7q
  obtain ⟨_, _, ⟨T_9, L_9, k_9, n_9⟩, -, X_9, ⟨Lc_9, hQ_9, l_9, y_9, z_9⟩, st_9⟩ := Jvm.LawKit.callS X_7 hx (y := (⟨"java/lang/Math", "min", "(JJ)J"⟩ : MethodName)) hown (mvT hZ (hw _ (List.mem_of_getElem? (i := 41) rfl))) (mvT hZ (hw _ (List.mem_of_getElem? (i := 42) rfl))) (mvT hZ (hw _ (List.mem_of_getElem? (i := 39) rfl))) (mvT hZ (hw _ (List.mem_of_getElem? (i := 43) rfl))) (by decide) (backOf (W := 0) (rm_min l Z a0 hw [] q4 q2 T_6.heap n0 Z_6 ) hZ (hw _ (List.mem_of_getElem? (i := 43) rfl)) (hw _ (List.mem_of_getElem? (i := 39) rfl)) (by decide) (by decide)) (g := (mkF mM 122 #[.val (.long q1), .second, .val (.long q2), .second, .val (.long q3), .second, .val (.long q4), .second, .val (.int p8), .val (.int (own_nz (p8 &&& (1 : Int32)))), .val (.int (own_nz (p8 &&& (2 : Int32)))), .val .null, .val (.long ((p8 >>> ((11 : Int32) &&& 31)).toInt64)), .second, .val (.ref b_3), .val (.ref b_5), .val (.int (own_af q3 q1)), .unset, .unset] [(.long q2), (.long q4)])) rfl (by rw [hml]; rfl) (argsL := [(.long q4), (.long q2)]) (rest := []) (lenOf pd_8 rfl) rfl (by show 2 * 0 + _ ≤ _; exact Nat.le_of_eq rfl) (hb hby at_122) (fun _ _ => ⟨rfl, eh_7, (by decide : 2 + 0 ≤ _), (by decide : 8 + 0 ≤ _)⟩)
  dsimp only [Pt.U, Pt.locs, Pt.cells, Pt.slots] at X_9 l_9 y_9 z_9 st_9 hQ_9
  subst l_9 y_9 z_9
  obtain ⟨rfl, N_9q, eh_9⟩ := hQ_9
  have N_9 := Fr.app N_7 N_9q
  obtain ⟨cq_12, kq_12, q_12a, q_12b, q_12c⟩ := isOf hZ eh_9 pfE_a_6
  obtain ⟨_, _, ⟨T_12, L_12, k_12, n_12⟩, -, X_12, ⟨Lc_12, hQ_12, l_12, y_12, z_12⟩, st_12⟩ := X_9.virtualBack hx (y := (⟨"com/example/rolling_rung/rollingrung/cli/BenchReport$Change", "spans", "(Lcom/example/rolling_rung/rollingrung/cli/BenchReport$Operation;)Z"⟩ : MethodName)) (z := (⟨"com/example/rolling_rung/rollingrung/cli/BenchReport$Change", "spans", "(Lcom/example/rolling_rung/rollingrung/cli/BenchReport$Operation;)Z"⟩ : MethodName)) hown (mvT hZ (hw _ (List.mem_of_getElem? (i := 44) rfl))) (mvT hZ (hw _ (List.mem_of_getElem? (i := 45) rfl))) (notFace_of_selects (args := #[]) (mvT hZ (hw _ (List.mem_of_getElem? (i := 47) rfl)))) (mvT hZ (hw _ (List.mem_of_getElem? (i := 47) rfl))) (mvT hZ (hw _ (List.mem_of_getElem? (i := 46) rfl))) (by decide) (backOf (W := 0) (rm_sp l Z a0 hw [] b_5 b_3 q1 q2 q3 q4 T_6.heap n0 Z_6 pfF_firstRung_a_6 pfF_lastRung_a_6 ((pfE_a_4.ext E_5).keep Kc_6) ((pfF_began_a_4.ext E_5).keep Kc_6 (ninS (Nat.ne_of_lt (Nat.lt_of_lt_of_le pfE_a_4.lt (Nat.le_of_eq g_5.symm))) nin0)) ((pfF_ended_a_4.ext E_5).keep Kc_6 (ninS (Nat.ne_of_lt (Nat.lt_of_lt_of_le pfE_a_4.lt (Nat.le_of_eq g_5.symm))) nin0))) hZ (hw _ (List.mem_of_getElem? (i := 48) rfl)) (hw _ (List.mem_of_getElem? (i := 28) rfl)) (by decide) (by decide)) q_12a q_12c (g := (mkF mM 166 #[.val (.long q1), .second, .val (.long q2), .second, .val (.long q3), .second, .val (.long q4), .second, .val (.int p8), .val (.int (own_nz (p8 &&& (1 : Int32)))), .val (.int (own_nz (p8 &&& (2 : Int32)))), .val .null, .val (.long ((p8 >>> ((11 : Int32) &&& 31)).toInt64)), .second, .val (.ref b_3), .val (.ref b_5), .val (.int (own_af q3 q1)), .val (.int (own_bl q4 q2)), .val (.int (own_and (own_af q3 q1) (own_bl q4 q2)))] [(.ref b_3), (.ref b_5)])) rfl (by rw [hml]; rfl) (Steps.refl _) (argsL := [(.ref b_3)]) (rest := []) (lenOf pd_9 rfl) rfl (by show 2 * 0 + _ ≤ _; exact Nat.le_of_eq rfl) (hb hby at_166) (fun _ _ => ⟨rfl, eh_9, (by decide : 2 + 0 ≤ _), (by decide : 8 + 0 ≤ _)⟩)
  dsimp only [Pt.U, Pt.locs, Pt.cells, Pt.slots] at X_12 l_12 y_12 z_12 st_12 hQ_12
  subst l_12 y_12 z_12
  obtain ⟨rfl, N_12q, eh_12⟩ := hQ_12
  have N_12 := Fr.app N_9 N_12q
  obtain ⟨T_13, X_13, e_13, st_13⟩ := getS2 X_12 hx hZ hown (host := "") (Or.inl (hw _ (List.mem_of_getElem? (i := 54) rfl))) Via.refl eh_12 (own_sta_keep ((own_sta_keep (S_BenchReport_Change_NONE.ext E_3) Kc_4 (allS (own_exa_ns A_3) all0)).ext E_5) Kc_6 (allS (own_exa_ns A_5) all0)) (g := (mkF mM 174 #[.val (.long q1), .second, .val (.long q2), .second, .val (.long q3), .second, .val (.long q4), .second, .val (.int p8), .val (.int (own_nz (p8 &&& (1 : Int32)))), .val (.int (own_nz (p8 &&& (2 : Int32)))), .val .null, .val (.long ((p8 >>> ((11 : Int32) &&& 31)).toInt64)), .second, .val (.ref b_3), .val (.ref b_5), .val (.int (own_af q3 q1)), .val (.int (own_bl q4 q2)), .val (.int (own_and (own_af q3 q1) (own_bl q4 q2)))] [])) rfl (hb hby at_174)
  obtain ⟨cq_14, kq_14, q_14a, q_14b, q_14c⟩ := isOf hZ e_13 ((((E_xn.ext E_3).keep Kc_4).ext E_5).keep Kc_6)
  obtain ⟨_, _, ⟨T_14, L_14, k_14, n_14⟩, -, X_14, ⟨Lc_14, hQ_14, l_14, y_14, z_14⟩, st_14⟩ := X_13.virtualBack hx (y := (⟨"com/example/rolling_rung/rollingrung/cli/BenchReport$Change", "spans", "(Lcom/example/rolling_rung/rollingrung/cli/BenchReport$Operation;)Z"⟩ : MethodName)) (z := (⟨"com/example/rolling_rung/rollingrung/cli/BenchReport$Change", "spans", "(Lcom/example/rolling_rung/rollingrung/cli/BenchReport$Operation;)Z"⟩ : MethodName)) hown (mvT hZ (hw _ (List.mem_of_getElem? (i := 44) rfl))) (mvT hZ (hw _ (List.mem_of_getElem? (i := 45) rfl))) (notFace_of_selects (args := #[]) (mvT hZ (hw _ (List.mem_of_getElem? (i := 47) rfl)))) (mvT hZ (hw _ (List.mem_of_getElem? (i := 47) rfl))) (mvT hZ (hw _ (List.mem_of_getElem? (i := 46) rfl))) (by decide) (backOf (W := 0) (rm_spN l Z a0 hw [] xn b_3 (9223372036854775807 : Int64) q3 q4 T_6.heap n0 Z_6 ((((F_firstRung_xn.ext E_3).keep Kc_4 (ninS (Nat.ne_of_lt (Nat.lt_of_lt_of_le E_xn.lt (Nat.le_of_eq g_3.symm))) nin0)).ext E_5).keep Kc_6 (ninS (Nat.ne_of_lt (Nat.lt_of_lt_of_le ((E_xn.ext E_3).keep Kc_4).lt (Nat.le_of_eq g_5.symm))) nin0)) ((pfE_a_4.ext E_5).keep Kc_6) ((pfF_began_a_4.ext E_5).keep Kc_6 (ninS (Nat.ne_of_lt (Nat.lt_of_lt_of_le pfE_a_4.lt (Nat.le_of_eq g_5.symm))) nin0)) ((pfF_ended_a_4.ext E_5).keep Kc_6 (ninS (Nat.ne_of_lt (Nat.lt_of_lt_of_le pfE_a_4.lt (Nat.le_of_eq g_5.symm))) nin0)) (own_none q3)) hZ (hw _ (List.mem_of_getElem? (i := 48) rfl)) (hw _ (List.mem_of_getElem? (i := 28) rfl)) (by decide) (by decide)) q_14a q_14c (g := (mkF mM 179 #[.val (.long q1), .second, .val (.long q2), .second, .val (.long q3), .second, .val (.long q4), .second, .val (.int p8), .val (.int (own_nz (p8 &&& (1 : Int32)))), .val (.int (own_nz (p8 &&& (2 : Int32)))), .val .null, .val (.long ((p8 >>> ((11 : Int32) &&& 31)).toInt64)), .second, .val (.ref b_3), .val (.ref b_5), .val (.int (own_af q3 q1)), .val (.int (own_bl q4 q2)), .val (.int (own_and (own_af q3 q1) (own_bl q4 q2)))] [(.ref b_3), (.ref xn)])) rfl (by rw [hml]; rfl) (Steps.refl _) (argsL := [(.ref b_3)]) (rest := []) (lenOf pd_9 rfl) rfl (by show 2 * 0 + _ ≤ _; exact Nat.le_of_eq rfl) (hb hby at_179) (fun _ _ => ⟨rfl, e_13, (by decide : 2 + 0 ≤ _), (by decide : 8 + 0 ≤ _)⟩)
  dsimp only [Pt.U, Pt.locs, Pt.cells, Pt.slots] at X_14 l_14 y_14 z_14 st_14 hQ_14
  subst l_14 y_14 z_14
  obtain ⟨rfl, N_14q, eh_14⟩ := hQ_14
  have N_14 := Fr.app N_12 N_14q
  obtain ⟨fs, hr, hrun, hended, hW, hsame⟩ := X_14.leave (v := some (.int (1 : Int32))) (fun h => by rw [Bd.returns] at h; cases h)
  refine ⟨_, _, pre0 _ ?_, hrun, hended, _, _, rfl, ?_, ⟨_, rfl⟩, hW, hsame.mono (by decide) (by decide)⟩
  · show Steps pP.tables eE below (s₁.setTop (mkF mM 0 #[.val (.long q1), .second, .val (.long q2), .second, .val (.long q3), .second, .val (.long q4), .second, .val (.int p8), .unset, .unset, .unset, .unset, .unset, .unset, .unset, .unset, .unset, .unset] [])) _
    refine XS.iload X0.here hx rfl (hb hby at_0) rfl ?_
    show Steps pP.tables eE below (s₁.setTop (mkF mM 2 #[.val (.long q1), .second, .val (.long q2), .second, .val (.long q3), .second, .val (.long q4), .second, .val (.int p8), .unset, .unset, .unset, .unset, .unset, .unset, .unset, .unset, .unset, .unset] [(.int p8)])) _
    refine XS.iconst X0.here hx rfl (hb hby at_2) ?_
    show Steps pP.tables eE below (s₁.setTop (mkF mM 3 #[.val (.long q1), .second, .val (.long q2), .second, .val (.long q3), .second, .val (.long q4), .second, .val (.int p8), .unset, .unset, .unset, .unset, .unset, .unset, .unset, .unset, .unset, .unset] [(.int (1 : Int32)), (.int p8)])) _
    refine XS.iand X0.here hx rfl (hb hby at_3) rfl ?_
    show Steps pP.tables eE below (s₁.setTop (mkF mM 4 #[.val (.long q1), .second, .val (.long q2), .second, .val (.long q3), .second, .val (.long q4), .second, .val (.int p8), .unset, .unset, .unset, .unset, .unset, .unset, .unset, .unset, .unset, .unset] [(.int (p8 &&& (1 : Int32)))])) _
    have jn_1 : ∀ t_, Steps pP.tables eE below (s₁.setTop (mkF mM 12 #[.val (.long q1), .second, .val (.long q2), .second, .val (.long q3), .second, .val (.long q4), .second, .val (.int p8), .unset, .unset, .unset, .unset, .unset, .unset, .unset, .unset, .unset, .unset] [(.int (own_nz (p8 &&& (1 : Int32))))])) t_ → Steps pP.tables eE below (s₁.setTop (mkF mM 4 #[.val (.long q1), .second, .val (.long q2), .second, .val (.long q3), .second, .val (.long q4), .second, .val (.int p8), .unset, .unset, .unset, .unset, .unset, .unset, .unset, .unset, .unset, .unset] [(.int (p8 &&& (1 : Int32)))])) t_ := by
      intro t_ kt
      by_cases hz : (p8 &&& (1 : Int32)) = 0
      · have hj : (own_nz (p8 &&& (1 : Int32))) = (0 : Int32) := if_pos hz
        rw [hj] at kt
        show Steps pP.tables eE below (s₁.setTop (mkF mM 4 #[.val (.long q1), .second, .val (.long q2), .second, .val (.long q3), .second, .val (.long q4), .second, .val (.int p8), .unset, .unset, .unset, .unset, .unset, .unset, .unset, .unset, .unset, .unset] [(.int (p8 &&& (1 : Int32)))])) _
        refine XS.ifYes X0.here hx rfl (pc0 := 4) (pc' := 11) rfl (hb hby at_4) rfl (XT.i0_eq_t hz) (by decide) (by decide) ?_
        show Steps pP.tables eE below (s₁.setTop (mkF mM 11 #[.val (.long q1), .second, .val (.long q2), .second, .val (.long q3), .second, .val (.long q4), .second, .val (.int p8), .unset, .unset, .unset, .unset, .unset, .unset, .unset, .unset, .unset, .unset] [])) _
        refine XS.iconst X0.here hx rfl (hb hby at_11) ?_
        show Steps pP.tables eE below (s₁.setTop (mkF mM 12 #[.val (.long q1), .second, .val (.long q2), .second, .val (.long q3), .second, .val (.long q4), .second, .val (.int p8), .unset, .unset, .unset, .unset, .unset, .unset, .unset, .unset, .unset, .unset] [(.int (0 : Int32))])) _
        exact kt
      · have hj : (own_nz (p8 &&& (1 : Int32))) = (1 : Int32) := if_neg hz
        rw [hj] at kt
        show Steps pP.tables eE below (s₁.setTop (mkF mM 4 #[.val (.long q1), .second, .val (.long q2), .second, .val (.long q3), .second, .val (.long q4), .second, .val (.int p8), .unset, .unset, .unset, .unset, .unset, .unset, .unset, .unset, .unset, .unset] [(.int (p8 &&& (1 : Int32)))])) _
        refine XS.ifNo X0.here hx rfl (hb hby at_4) rfl (XT.i0_eq_f hz) ?_
        show Steps pP.tables eE below (s₁.setTop (mkF mM 7 #[.val (.long q1), .second, .val (.long q2), .second, .val (.long q3), .second, .val (.long q4), .second, .val (.int p8), .unset, .unset, .unset, .unset, .unset, .unset, .unset, .unset, .unset, .unset] [])) _
        refine XS.iconst X0.here hx rfl (hb hby at_7) ?_
        show Steps pP.tables eE below (s₁.setTop (mkF mM 8 #[.val (.long q1), .second, .val (.long q2), .second, .val (.long q3), .second, .val (.long q4), .second, .val (.int p8), .unset, .unset, .unset, .unset, .unset, .unset, .unset, .unset, .unset, .unset] [(.int (1 : Int32))])) _
        refine XS.goto X0.here hx rfl (pc0 := 8) (pc' := 12) rfl (hb hby at_8) (by decide) (by decide) ?_
        show Steps pP.tables eE below (s₁.setTop (mkF mM 12 #[.val (.long q1), .second, .val (.long q2), .second, .val (.long q3), .second, .val (.long q4), .second, .val (.int p8), .unset, .unset, .unset, .unset, .unset, .unset, .unset, .unset, .unset, .unset] [(.int (1 : Int32))])) _
        exact kt
    refine jn_1 _ ?_
    show Steps pP.tables eE below (s₁.setTop (mkF mM 12 #[.val (.long q1), .second, .val (.long q2), .second, .val (.long q3), .second, .val (.long q4), .second, .val (.int p8), .unset, .unset, .unset, .unset, .unset, .unset, .unset, .unset, .unset, .unset] [(.int (own_nz (p8 &&& (1 : Int32))))])) _
    refine XS.istore X0.here hx rfl (hb hby at_12) rfl (l' := #[.val (.long q1), .second, .val (.long q2), .second, .val (.long q3), .second, .val (.long q4), .second, .val (.int p8), .val (.int (own_nz (p8 &&& (1 : Int32)))), .unset, .unset, .unset, .unset, .unset, .unset, .unset, .unset, .unset]) rfl ?_
    show Steps pP.tables eE below (s₁.setTop (mkF mM 14 #[.val (.long q1), .second, .val (.long q2), .second, .val (.long q3), .second, .val (.long q4), .second, .val (.int p8), .val (.int (own_nz (p8 &&& (1 : Int32)))), .unset, .unset, .unset, .unset, .unset, .unset, .unset, .unset, .unset] [])) _
    refine XS.iload X0.here hx rfl (hb hby at_14) rfl ?_
    show Steps pP.tables eE below (s₁.setTop (mkF mM 16 #[.val (.long q1), .second, .val (.long q2), .second, .val (.long q3), .second, .val (.long q4), .second, .val (.int p8), .val (.int (own_nz (p8 &&& (1 : Int32)))), .unset, .unset, .unset, .unset, .unset, .unset, .unset, .unset, .unset] [(.int p8)])) _
    refine XS.iconst X0.here hx rfl (hb hby at_16) ?_
    show Steps pP.tables eE below (s₁.setTop (mkF mM 17 #[.val (.long q1), .second, .val (.long q2), .second, .val (.long q3), .second, .val (.long q4), .second, .val (.int p8), .val (.int (own_nz (p8 &&& (1 : Int32)))), .unset, .unset, .unset, .unset, .unset, .unset, .unset, .unset, .unset] [(.int (2 : Int32)), (.int p8)])) _
    refine XS.iand X0.here hx rfl (hb hby at_17) rfl ?_
    show Steps pP.tables eE below (s₁.setTop (mkF mM 18 #[.val (.long q1), .second, .val (.long q2), .second, .val (.long q3), .second, .val (.long q4), .second, .val (.int p8), .val (.int (own_nz (p8 &&& (1 : Int32)))), .unset, .unset, .unset, .unset, .unset, .unset, .unset, .unset, .unset] [(.int (p8 &&& (2 : Int32)))])) _
    have jn_2 : ∀ t_, Steps pP.tables eE below (s₁.setTop (mkF mM 26 #[.val (.long q1), .second, .val (.long q2), .second, .val (.long q3), .second, .val (.long q4), .second, .val (.int p8), .val (.int (own_nz (p8 &&& (1 : Int32)))), .unset, .unset, .unset, .unset, .unset, .unset, .unset, .unset, .unset] [(.int (own_nz (p8 &&& (2 : Int32))))])) t_ → Steps pP.tables eE below (s₁.setTop (mkF mM 18 #[.val (.long q1), .second, .val (.long q2), .second, .val (.long q3), .second, .val (.long q4), .second, .val (.int p8), .val (.int (own_nz (p8 &&& (1 : Int32)))), .unset, .unset, .unset, .unset, .unset, .unset, .unset, .unset, .unset] [(.int (p8 &&& (2 : Int32)))])) t_ := by
      intro t_ kt
      by_cases hz : (p8 &&& (2 : Int32)) = 0
      · have hj : (own_nz (p8 &&& (2 : Int32))) = (0 : Int32) := if_pos hz
        rw [hj] at kt
        show Steps pP.tables eE below (s₁.setTop (mkF mM 18 #[.val (.long q1), .second, .val (.long q2), .second, .val (.long q3), .second, .val (.long q4), .second, .val (.int p8), .val (.int (own_nz (p8 &&& (1 : Int32)))), .unset, .unset, .unset, .unset, .unset, .unset, .unset, .unset, .unset] [(.int (p8 &&& (2 : Int32)))])) _
        refine XS.ifYes X0.here hx rfl (pc0 := 18) (pc' := 25) rfl (hb hby at_18) rfl (XT.i0_eq_t hz) (by decide) (by decide) ?_
        show Steps pP.tables eE below (s₁.setTop (mkF mM 25 #[.val (.long q1), .second, .val (.long q2), .second, .val (.long q3), .second, .val (.long q4), .second, .val (.int p8), .val (.int (own_nz (p8 &&& (1 : Int32)))), .unset, .unset, .unset, .unset, .unset, .unset, .unset, .unset, .unset] [])) _
        refine XS.iconst X0.here hx rfl (hb hby at_25) ?_
        show Steps pP.tables eE below (s₁.setTop (mkF mM 26 #[.val (.long q1), .second, .val (.long q2), .second, .val (.long q3), .second, .val (.long q4), .second, .val (.int p8), .val (.int (own_nz (p8 &&& (1 : Int32)))), .unset, .unset, .unset, .unset, .unset, .unset, .unset, .unset, .unset] [(.int (0 : Int32))])) _
        exact kt
      · have hj : (own_nz (p8 &&& (2 : Int32))) = (1 : Int32) := if_neg hz
        rw [hj] at kt
        show Steps pP.tables eE below (s₁.setTop (mkF mM 18 #[.val (.long q1), .second, .val (.long q2), .second, .val (.long q3), .second, .val (.long q4), .second, .val (.int p8), .val (.int (own_nz (p8 &&& (1 : Int32)))), .unset, .unset, .unset, .unset, .unset, .unset, .unset, .unset, .unset] [(.int (p8 &&& (2 : Int32)))])) _
        refine XS.ifNo X0.here hx rfl (hb hby at_18) rfl (XT.i0_eq_f hz) ?_
        show Steps pP.tables eE below (s₁.setTop (mkF mM 21 #[.val (.long q1), .second, .val (.long q2), .second, .val (.long q3), .second, .val (.long q4), .second, .val (.int p8), .val (.int (own_nz (p8 &&& (1 : Int32)))), .unset, .unset, .unset, .unset, .unset, .unset, .unset, .unset, .unset] [])) _
        refine XS.iconst X0.here hx rfl (hb hby at_21) ?_
        show Steps pP.tables eE below (s₁.setTop (mkF mM 22 #[.val (.long q1), .second, .val (.long q2), .second, .val (.long q3), .second, .val (.long q4), .second, .val (.int p8), .val (.int (own_nz (p8 &&& (1 : Int32)))), .unset, .unset, .unset, .unset, .unset, .unset, .unset, .unset, .unset] [(.int (1 : Int32))])) _
        refine XS.goto X0.here hx rfl (pc0 := 22) (pc' := 26) rfl (hb hby at_22) (by decide) (by decide) ?_
        show Steps pP.tables eE below (s₁.setTop (mkF mM 26 #[.val (.long q1), .second, .val (.long q2), .second, .val (.long q3), .second, .val (.long q4), .second, .val (.int p8), .val (.int (own_nz (p8 &&& (1 : Int32)))), .unset, .unset, .unset, .unset, .unset, .unset, .unset, .unset, .unset] [(.int (1 : Int32))])) _
        exact kt
    refine jn_2 _ ?_
    show Steps pP.tables eE below (s₁.setTop (mkF mM 26 #[.val (.long q1), .second, .val (.long q2), .second, .val (.long q3), .second, .val (.long q4), .second, .val (.int p8), .val (.int (own_nz (p8 &&& (1 : Int32)))), .unset, .unset, .unset, .unset, .unset, .unset, .unset, .unset, .unset] [(.int (own_nz (p8 &&& (2 : Int32))))])) _
    refine XS.istore X0.here hx rfl (hb hby at_26) rfl (l' := #[.val (.long q1), .second, .val (.long q2), .second, .val (.long q3), .second, .val (.long q4), .second, .val (.int p8), .val (.int (own_nz (p8 &&& (1 : Int32)))), .val (.int (own_nz (p8 &&& (2 : Int32)))), .unset, .unset, .unset, .unset, .unset, .unset, .unset, .unset]) rfl ?_
    show Steps pP.tables eE below (s₁.setTop (mkF mM 28 #[.val (.long q1), .second, .val (.long q2), .second, .val (.long q3), .second, .val (.long q4), .second, .val (.int p8), .val (.int (own_nz (p8 &&& (1 : Int32)))), .val (.int (own_nz (p8 &&& (2 : Int32)))), .unset, .unset, .unset, .unset, .unset, .unset, .unset, .unset] [])) _
    refine XS.iload X0.here hx rfl (hb hby at_28) rfl ?_
    show Steps pP.tables eE below (s₁.setTop (mkF mM 30 #[.val (.long q1), .second, .val (.long q2), .second, .val (.long q3), .second, .val (.long q4), .second, .val (.int p8), .val (.int (own_nz (p8 &&& (1 : Int32)))), .val (.int (own_nz (p8 &&& (2 : Int32)))), .unset, .unset, .unset, .unset, .unset, .unset, .unset, .unset] [(.int p8)])) _
    refine XS.iconst X0.here hx rfl (hb hby at_30) ?_
    show Steps pP.tables eE below (s₁.setTop (mkF mM 31 #[.val (.long q1), .second, .val (.long q2), .second, .val (.long q3), .second, .val (.long q4), .second, .val (.int p8), .val (.int (own_nz (p8 &&& (1 : Int32)))), .val (.int (own_nz (p8 &&& (2 : Int32)))), .unset, .unset, .unset, .unset, .unset, .unset, .unset, .unset] [(.int (4 : Int32)), (.int p8)])) _
    refine XS.iand X0.here hx rfl (hb hby at_31) rfl ?_
    show Steps pP.tables eE below (s₁.setTop (mkF mM 32 #[.val (.long q1), .second, .val (.long q2), .second, .val (.long q3), .second, .val (.long q4), .second, .val (.int p8), .val (.int (own_nz (p8 &&& (1 : Int32)))), .val (.int (own_nz (p8 &&& (2 : Int32)))), .unset, .unset, .unset, .unset, .unset, .unset, .unset, .unset] [(.int (p8 &&& (4 : Int32)))])) _
    refine XS.ifYes X0.here hx rfl (pc0 := 32) (pc' := 50) rfl (hb hby at_32) rfl (XT.i0_eq_t hf) (by decide) (by decide) ?_
    show Steps pP.tables eE below (s₁.setTop (mkF mM 50 #[.val (.long q1), .second, .val (.long q2), .second, .val (.long q3), .second, .val (.long q4), .second, .val (.int p8), .val (.int (own_nz (p8 &&& (1 : Int32)))), .val (.int (own_nz (p8 &&& (2 : Int32)))), .unset, .unset, .unset, .unset, .unset, .unset, .unset, .unset] [])) _
    refine XS.aconstNull X0.here hx rfl (hb hby at_50) ?_
    show Steps pP.tables eE below (s₁.setTop (mkF mM 51 #[.val (.long q1), .second, .val (.long q2), .second, .val (.long q3), .second, .val (.long q4), .second, .val (.int p8), .val (.int (own_nz (p8 &&& (1 : Int32)))), .val (.int (own_nz (p8 &&& (2 : Int32)))), .unset, .unset, .unset, .unset, .unset, .unset, .unset, .unset] [.null])) _
    refine XS.astore X0.here hx rfl (hb hby at_51) rfl rfl (l' := #[.val (.long q1), .second, .val (.long q2), .second, .val (.long q3), .second, .val (.long q4), .second, .val (.int p8), .val (.int (own_nz (p8 &&& (1 : Int32)))), .val (.int (own_nz (p8 &&& (2 : Int32)))), .val .null, .unset, .unset, .unset, .unset, .unset, .unset, .unset]) rfl ?_
    show Steps pP.tables eE below (s₁.setTop (mkF mM 53 #[.val (.long q1), .second, .val (.long q2), .second, .val (.long q3), .second, .val (.long q4), .second, .val (.int p8), .val (.int (own_nz (p8 &&& (1 : Int32)))), .val (.int (own_nz (p8 &&& (2 : Int32)))), .val .null, .unset, .unset, .unset, .unset, .unset, .unset, .unset] [])) _
    refine XS.iload X0.here hx rfl (hb hby at_53) rfl ?_
    show Steps pP.tables eE below (s₁.setTop (mkF mM 55 #[.val (.long q1), .second, .val (.long q2), .second, .val (.long q3), .second, .val (.long q4), .second, .val (.int p8), .val (.int (own_nz (p8 &&& (1 : Int32)))), .val (.int (own_nz (p8 &&& (2 : Int32)))), .val .null, .unset, .unset, .unset, .unset, .unset, .unset, .unset] [(.int p8)])) _
    refine XS.bipush X0.here hx rfl (hb hby at_55) ?_
    show Steps pP.tables eE below (s₁.setTop (mkF mM 57 #[.val (.long q1), .second, .val (.long q2), .second, .val (.long q3), .second, .val (.long q4), .second, .val (.int p8), .val (.int (own_nz (p8 &&& (1 : Int32)))), .val (.int (own_nz (p8 &&& (2 : Int32)))), .val .null, .unset, .unset, .unset, .unset, .unset, .unset, .unset] [(.int (11 : Int32)), (.int p8)])) _
    refine XT.ishr X0.here hx rfl (hb hby at_57) rfl ?_
    show Steps pP.tables eE below (s₁.setTop (mkF mM 58 #[.val (.long q1), .second, .val (.long q2), .second, .val (.long q3), .second, .val (.long q4), .second, .val (.int p8), .val (.int (own_nz (p8 &&& (1 : Int32)))), .val (.int (own_nz (p8 &&& (2 : Int32)))), .val .null, .unset, .unset, .unset, .unset, .unset, .unset, .unset] [(.int (p8 >>> ((11 : Int32) &&& 31)))])) _
    refine XT.i2l X0.here hx rfl (hb hby at_58) rfl ?_
    show Steps pP.tables eE below (s₁.setTop (mkF mM 59 #[.val (.long q1), .second, .val (.long q2), .second, .val (.long q3), .second, .val (.long q4), .second, .val (.int p8), .val (.int (own_nz (p8 &&& (1 : Int32)))), .val (.int (own_nz (p8 &&& (2 : Int32)))), .val .null, .unset, .unset, .unset, .unset, .unset, .unset, .unset] [(.long ((p8 >>> ((11 : Int32) &&& 31)).toInt64))])) _
    refine XT.lstore X0.here hx rfl (hb hby at_59) rfl (l' := #[.val (.long q1), .second, .val (.long q2), .second, .val (.long q3), .second, .val (.long q4), .second, .val (.int p8), .val (.int (own_nz (p8 &&& (1 : Int32)))), .val (.int (own_nz (p8 &&& (2 : Int32)))), .val .null, .val (.long ((p8 >>> ((11 : Int32) &&& 31)).toInt64)), .second, .unset, .unset, .unset, .unset, .unset]) rfl ?_
    show Steps pP.tables eE below (s₁.setTop (mkF mM 61 #[.val (.long q1), .second, .val (.long q2), .second, .val (.long q3), .second, .val (.long q4), .second, .val (.int p8), .val (.int (own_nz (p8 &&& (1 : Int32)))), .val (.int (own_nz (p8 &&& (2 : Int32)))), .val .null, .val (.long ((p8 >>> ((11 : Int32) &&& 31)).toInt64)), .second, .unset, .unset, .unset, .unset, .unset] [])) _
    refine st_3 _ ?_
    show Steps pP.tables eE below (T_3.setTop (mkF mM 64 #[.val (.long q1), .second, .val (.long q2), .second, .val (.long q3), .second, .val (.long q4), .second, .val (.int p8), .val (.int (own_nz (p8 &&& (1 : Int32)))), .val (.int (own_nz (p8 &&& (2 : Int32)))), .val .null, .val (.long ((p8 >>> ((11 : Int32) &&& 31)).toInt64)), .second, .unset, .unset, .unset, .unset, .unset] [(.ref b_3)])) _
    refine XS.dup X_3.here hx rfl (hb hby at_64) rfl rfl ?_
    show Steps pP.tables eE below (T_3.setTop (mkF mM 65 #[.val (.long q1), .second, .val (.long q2), .second, .val (.long q3), .second, .val (.long q4), .second, .val (.int p8), .val (.int (own_nz (p8 &&& (1 : Int32)))), .val (.int (own_nz (p8 &&& (2 : Int32)))), .val .null, .val (.long ((p8 >>> ((11 : Int32) &&& 31)).toInt64)), .second, .unset, .unset, .unset, .unset, .unset] [(.ref b_3), (.ref b_3)])) _
    refine XS.iload X_3.here hx rfl (hb hby at_65) rfl ?_
    show Steps pP.tables eE below (T_3.setTop (mkF mM 67 #[.val (.long q1), .second, .val (.long q2), .second, .val (.long q3), .second, .val (.long q4), .second, .val (.int p8), .val (.int (own_nz (p8 &&& (1 : Int32)))), .val (.int (own_nz (p8 &&& (2 : Int32)))), .val .null, .val (.long ((p8 >>> ((11 : Int32) &&& 31)).toInt64)), .second, .unset, .unset, .unset, .unset, .unset] [(.int (own_nz (p8 &&& (1 : Int32)))), (.ref b_3), (.ref b_3)])) _
    refine XT.lload X_3.here hx rfl (hb hby at_67) rfl ?_
    show Steps pP.tables eE below (T_3.setTop (mkF mM 69 #[.val (.long q1), .second, .val (.long q2), .second, .val (.long q3), .second, .val (.long q4), .second, .val (.int p8), .val (.int (own_nz (p8 &&& (1 : Int32)))), .val (.int (own_nz (p8 &&& (2 : Int32)))), .val .null, .val (.long ((p8 >>> ((11 : Int32) &&& 31)).toInt64)), .second, .unset, .unset, .unset, .unset, .unset] [(.long q3), (.int (own_nz (p8 &&& (1 : Int32)))), (.ref b_3), (.ref b_3)])) _
    refine XT.lload X_3.here hx rfl (hb hby at_69) rfl ?_
    show Steps pP.tables eE below (T_3.setTop (mkF mM 71 #[.val (.long q1), .second, .val (.long q2), .second, .val (.long q3), .second, .val (.long q4), .second, .val (.int p8), .val (.int (own_nz (p8 &&& (1 : Int32)))), .val (.int (own_nz (p8 &&& (2 : Int32)))), .val .null, .val (.long ((p8 >>> ((11 : Int32) &&& 31)).toInt64)), .second, .unset, .unset, .unset, .unset, .unset] [(.long q4), (.long q3), (.int (own_nz (p8 &&& (1 : Int32)))), (.ref b_3), (.ref b_3)])) _
    refine XT.lload X_3.here hx rfl (hb hby at_71) rfl ?_
    show Steps pP.tables eE below (T_3.setTop (mkF mM 73 #[.val (.long q1), .second, .val (.long q2), .second, .val (.long q3), .second, .val (.long q4), .second, .val (.int p8), .val (.int (own_nz (p8 &&& (1 : Int32)))), .val (.int (own_nz (p8 &&& (2 : Int32)))), .val .null, .val (.long ((p8 >>> ((11 : Int32) &&& 31)).toInt64)), .second, .unset, .unset, .unset, .unset, .unset] [(.long ((p8 >>> ((11 : Int32) &&& 31)).toInt64)), (.long q4), (.long q3), (.int (own_nz (p8 &&& (1 : Int32)))), (.ref b_3), (.ref b_3)])) _
    refine XS.iload X_3.here hx rfl (hb hby at_73) rfl ?_
    show Steps pP.tables eE below (T_3.setTop (mkF mM 75 #[.val (.long q1), .second, .val (.long q2), .second, .val (.long q3), .second, .val (.long q4), .second, .val (.int p8), .val (.int (own_nz (p8 &&& (1 : Int32)))), .val (.int (own_nz (p8 &&& (2 : Int32)))), .val .null, .val (.long ((p8 >>> ((11 : Int32) &&& 31)).toInt64)), .second, .unset, .unset, .unset, .unset, .unset] [(.int (own_nz (p8 &&& (2 : Int32)))), (.long ((p8 >>> ((11 : Int32) &&& 31)).toInt64)), (.long q4), (.long q3), (.int (own_nz (p8 &&& (1 : Int32)))), (.ref b_3), (.ref b_3)])) _
    refine XS.aload X_3.here hx rfl (hb hby at_75) rfl rfl ?_
    show Steps pP.tables eE below (T_3.setTop (mkF mM 77 #[.val (.long q1), .second, .val (.long q2), .second, .val (.long q3), .second, .val (.long q4), .second, .val (.int p8), .val (.int (own_nz (p8 &&& (1 : Int32)))), .val (.int (own_nz (p8 &&& (2 : Int32)))), .val .null, .val (.long ((p8 >>> ((11 : Int32) &&& 31)).toInt64)), .second, .unset, .unset, .unset, .unset, .unset] [.null, (.int (own_nz (p8 &&& (2 : Int32)))), (.long ((p8 >>> ((11 : Int32) &&& 31)).toInt64)), (.long q4), (.long q3), (.int (own_nz (p8 &&& (1 : Int32)))), (.ref b_3), (.ref b_3)])) _
    refine st_4.trans ?_
    show Steps pP.tables eE below (T_4.setTop (mkF mM 80 #[.val (.long q1), .second, .val (.long q2), .second, .val (.long q3), .second, .val (.long q4), .second, .val (.int p8), .val (.int (own_nz (p8 &&& (1 : Int32)))), .val (.int (own_nz (p8 &&& (2 : Int32)))), .val .null, .val (.long ((p8 >>> ((11 : Int32) &&& 31)).toInt64)), .second, .unset, .unset, .unset, .unset, .unset] [(.ref b_3)])) _
    refine XS.astore X_4.here hx rfl (hb hby at_80) rfl rfl (l' := #[.val (.long q1), .second, .val (.long q2), .second, .val (.long q3), .second, .val (.long q4), .second, .val (.int p8), .val (.int (own_nz (p8 &&& (1 : Int32)))), .val (.int (own_nz (p8 &&& (2 : Int32)))), .val .null, .val (.long ((p8 >>> ((11 : Int32) &&& 31)).toInt64)), .second, .val (.ref b_3), .unset, .unset, .unset, .unset]) rfl ?_
    show Steps pP.tables eE below (T_4.setTop (mkF mM 82 #[.val (.long q1), .second, .val (.long q2), .second, .val (.long q3), .second, .val (.long q4), .second, .val (.int p8), .val (.int (own_nz (p8 &&& (1 : Int32)))), .val (.int (own_nz (p8 &&& (2 : Int32)))), .val .null, .val (.long ((p8 >>> ((11 : Int32) &&& 31)).toInt64)), .second, .val (.ref b_3), .unset, .unset, .unset, .unset] [])) _
    refine st_5 _ ?_
    show Steps pP.tables eE below (T_5.setTop (mkF mM 85 #[.val (.long q1), .second, .val (.long q2), .second, .val (.long q3), .second, .val (.long q4), .second, .val (.int p8), .val (.int (own_nz (p8 &&& (1 : Int32)))), .val (.int (own_nz (p8 &&& (2 : Int32)))), .val .null, .val (.long ((p8 >>> ((11 : Int32) &&& 31)).toInt64)), .second, .val (.ref b_3), .unset, .unset, .unset, .unset] [(.ref b_5)])) _
    refine XS.dup X_5.here hx rfl (hb hby at_85) rfl rfl ?_
    show Steps pP.tables eE below (T_5.setTop (mkF mM 86 #[.val (.long q1), .second, .val (.long q2), .second, .val (.long q3), .second, .val (.long q4), .second, .val (.int p8), .val (.int (own_nz (p8 &&& (1 : Int32)))), .val (.int (own_nz (p8 &&& (2 : Int32)))), .val .null, .val (.long ((p8 >>> ((11 : Int32) &&& 31)).toInt64)), .second, .val (.ref b_3), .unset, .unset, .unset, .unset] [(.ref b_5), (.ref b_5)])) _
    refine XT.lloadN X_5.here hx rfl (hb hby at_86) rfl ?_
    show Steps pP.tables eE below (T_5.setTop (mkF mM 87 #[.val (.long q1), .second, .val (.long q2), .second, .val (.long q3), .second, .val (.long q4), .second, .val (.int p8), .val (.int (own_nz (p8 &&& (1 : Int32)))), .val (.int (own_nz (p8 &&& (2 : Int32)))), .val .null, .val (.long ((p8 >>> ((11 : Int32) &&& 31)).toInt64)), .second, .val (.ref b_3), .unset, .unset, .unset, .unset] [(.long q1), (.ref b_5), (.ref b_5)])) _
    refine XT.lloadN X_5.here hx rfl (hb hby at_87) rfl ?_
    show Steps pP.tables eE below (T_5.setTop (mkF mM 88 #[.val (.long q1), .second, .val (.long q2), .second, .val (.long q3), .second, .val (.long q4), .second, .val (.int p8), .val (.int (own_nz (p8 &&& (1 : Int32)))), .val (.int (own_nz (p8 &&& (2 : Int32)))), .val .null, .val (.long ((p8 >>> ((11 : Int32) &&& 31)).toInt64)), .second, .val (.ref b_3), .unset, .unset, .unset, .unset] [(.long q2), (.long q1), (.ref b_5), (.ref b_5)])) _
    refine st_6.trans ?_
    show Steps pP.tables eE below (T_6.setTop (mkF mM 91 #[.val (.long q1), .second, .val (.long q2), .second, .val (.long q3), .second, .val (.long q4), .second, .val (.int p8), .val (.int (own_nz (p8 &&& (1 : Int32)))), .val (.int (own_nz (p8 &&& (2 : Int32)))), .val .null, .val (.long ((p8 >>> ((11 : Int32) &&& 31)).toInt64)), .second, .val (.ref b_3), .unset, .unset, .unset, .unset] [(.ref b_5)])) _
    refine XS.astore X_6.here hx rfl (hb hby at_91) rfl rfl (l' := #[.val (.long q1), .second, .val (.long q2), .second, .val (.long q3), .second, .val (.long q4), .second, .val (.int p8), .val (.int (own_nz (p8 &&& (1 : Int32)))), .val (.int (own_nz (p8 &&& (2 : Int32)))), .val .null, .val (.long ((p8 >>> ((11 : Int32) &&& 31)).toInt64)), .second, .val (.ref b_3), .val (.ref b_5), .unset, .unset, .unset]) rfl ?_
    show Steps pP.tables eE below (T_6.setTop (mkF mM 93 #[.val (.long q1), .second, .val (.long q2), .second, .val (.long q3), .second, .val (.long q4), .second, .val (.int p8), .val (.int (own_nz (p8 &&& (1 : Int32)))), .val (.int (own_nz (p8 &&& (2 : Int32)))), .val .null, .val (.long ((p8 >>> ((11 : Int32) &&& 31)).toInt64)), .second, .val (.ref b_3), .val (.ref b_5), .unset, .unset, .unset] [])) _
    refine XT.lload X_6.here hx rfl (hb hby at_93) rfl ?_
    show Steps pP.tables eE below (T_6.setTop (mkF mM 95 #[.val (.long q1), .second, .val (.long q2), .second, .val (.long q3), .second, .val (.long q4), .second, .val (.int p8), .val (.int (own_nz (p8 &&& (1 : Int32)))), .val (.int (own_nz (p8 &&& (2 : Int32)))), .val .null, .val (.long ((p8 >>> ((11 : Int32) &&& 31)).toInt64)), .second, .val (.ref b_3), .val (.ref b_5), .unset, .unset, .unset] [(.long q3)])) _
    refine XT.lloadN X_6.here hx rfl (hb hby at_95) rfl ?_
    show Steps pP.tables eE below (T_6.setTop (mkF mM 96 #[.val (.long q1), .second, .val (.long q2), .second, .val (.long q3), .second, .val (.long q4), .second, .val (.int p8), .val (.int (own_nz (p8 &&& (1 : Int32)))), .val (.int (own_nz (p8 &&& (2 : Int32)))), .val .null, .val (.long ((p8 >>> ((11 : Int32) &&& 31)).toInt64)), .second, .val (.ref b_3), .val (.ref b_5), .unset, .unset, .unset] [(.long q1), (.long q3)])) _
    refine st_7 _ ?_
    show Steps pP.tables eE below (T_7.setTop (mkF mM 99 #[.val (.long q1), .second, .val (.long q2), .second, .val (.long q3), .second, .val (.long q4), .second, .val (.int p8), .val (.int (own_nz (p8 &&& (1 : Int32)))), .val (.int (own_nz (p8 &&& (2 : Int32)))), .val .null, .val (.long ((p8 >>> ((11 : Int32) &&& 31)).toInt64)), .second, .val (.ref b_3), .val (.ref b_5), .unset, .unset, .unset] [(.long (own_maxL q3 q1))])) _
    refine XT.lload X_7.here hx rfl (hb hby at_99) rfl ?_
    show Steps pP.tables eE below (T_7.setTop (mkF mM 101 #[.val (.long q1), .second, .val (.long q2), .second, .val (.long q3), .second, .val (.long q4), .second, .val (.int p8), .val (.int (own_nz (p8 &&& (1 : Int32)))), .val (.int (own_nz (p8 &&& (2 : Int32)))), .val .null, .val (.long ((p8 >>> ((11 : Int32) &&& 31)).toInt64)), .second, .val (.ref b_3), .val (.ref b_5), .unset, .unset, .unset] [(.long q3), (.long (own_maxL q3 q1))])) _
    refine XT.lcmp X_7.here hx rfl (hb hby at_101) rfl ?_
    show Steps pP.tables eE below (T_7.setTop (mkF mM 102 #[.val (.long q1), .second, .val (.long q2), .second, .val (.long q3), .second, .val (.long q4), .second, .val (.int p8), .val (.int (own_nz (p8 &&& (1 : Int32)))), .val (.int (own_nz (p8 &&& (2 : Int32)))), .val .null, .val (.long ((p8 >>> ((11 : Int32) &&& 31)).toInt64)), .second, .val (.ref b_3), .val (.ref b_5), .unset, .unset, .unset] [(.int (XT.cmpL (own_maxL q3 q1) q3))])) _
    have jn_8 : ∀ t_, Steps pP.tables eE below (T_7.setTop (mkF mM 117 #[.val (.long q1), .second, .val (.long q2), .second, .val (.long q3), .second, .val (.long q4), .second, .val (.int p8), .val (.int (own_nz (p8 &&& (1 : Int32)))), .val (.int (own_nz (p8 &&& (2 : Int32)))), .val .null, .val (.long ((p8 >>> ((11 : Int32) &&& 31)).toInt64)), .second, .val (.ref b_3), .val (.ref b_5), .unset, .unset, .unset] [(.int (own_af q3 q1))])) t_ → Steps pP.tables eE below (T_7.setTop (mkF mM 102 #[.val (.long q1), .second, .val (.long q2), .second, .val (.long q3), .second, .val (.long q4), .second, .val (.int p8), .val (.int (own_nz (p8 &&& (1 : Int32)))), .val (.int (own_nz (p8 &&& (2 : Int32)))), .val .null, .val (.long ((p8 >>> ((11 : Int32) &&& 31)).toInt64)), .second, .val (.ref b_3), .val (.ref b_5), .unset, .unset, .unset] [(.int (XT.cmpL (own_maxL q3 q1) q3))])) t_ := by
      intro t_ kt
      by_cases h1 : (own_maxL q3 q1) = q3
      · by_cases h2 : q3 = q1
        · have hj : (own_af q3 q1) = (0 : Int32) := if_neg (fun z => z.2 h2)
          rw [hj] at kt
          show Steps pP.tables eE below (T_7.setTop (mkF mM 102 #[.val (.long q1), .second, .val (.long q2), .second, .val (.long q3), .second, .val (.long q4), .second, .val (.int p8), .val (.int (own_nz (p8 &&& (1 : Int32)))), .val (.int (own_nz (p8 &&& (2 : Int32)))), .val .null, .val (.long ((p8 >>> ((11 : Int32) &&& 31)).toInt64)), .second, .val (.ref b_3), .val (.ref b_5), .unset, .unset, .unset] [(.int (XT.cmpL (own_maxL q3 q1) q3))])) _
          refine XS.ifNo X_7.here hx rfl (hb hby at_102) rfl (XT.ll_ne_f h1) ?_
          show Steps pP.tables eE below (T_7.setTop (mkF mM 105 #[.val (.long q1), .second, .val (.long q2), .second, .val (.long q3), .second, .val (.long q4), .second, .val (.int p8), .val (.int (own_nz (p8 &&& (1 : Int32)))), .val (.int (own_nz (p8 &&& (2 : Int32)))), .val .null, .val (.long ((p8 >>> ((11 : Int32) &&& 31)).toInt64)), .second, .val (.ref b_3), .val (.ref b_5), .unset, .unset, .unset] [])) _
          refine XT.lload X_7.here hx rfl (hb hby at_105) rfl ?_
          show Steps pP.tables eE below (T_7.setTop (mkF mM 107 #[.val (.long q1), .second, .val (.long q2), .second, .val (.long q3), .second, .val (.long q4), .second, .val (.int p8), .val (.int (own_nz (p8 &&& (1 : Int32)))), .val (.int (own_nz (p8 &&& (2 : Int32)))), .val .null, .val (.long ((p8 >>> ((11 : Int32) &&& 31)).toInt64)), .second, .val (.ref b_3), .val (.ref b_5), .unset, .unset, .unset] [(.long q3)])) _
          refine XT.lloadN X_7.here hx rfl (hb hby at_107) rfl ?_
          show Steps pP.tables eE below (T_7.setTop (mkF mM 108 #[.val (.long q1), .second, .val (.long q2), .second, .val (.long q3), .second, .val (.long q4), .second, .val (.int p8), .val (.int (own_nz (p8 &&& (1 : Int32)))), .val (.int (own_nz (p8 &&& (2 : Int32)))), .val .null, .val (.long ((p8 >>> ((11 : Int32) &&& 31)).toInt64)), .second, .val (.ref b_3), .val (.ref b_5), .unset, .unset, .unset] [(.long q1), (.long q3)])) _
          refine XT.lcmp X_7.here hx rfl (hb hby at_108) rfl ?_
          show Steps pP.tables eE below (T_7.setTop (mkF mM 109 #[.val (.long q1), .second, .val (.long q2), .second, .val (.long q3), .second, .val (.long q4), .second, .val (.int p8), .val (.int (own_nz (p8 &&& (1 : Int32)))), .val (.int (own_nz (p8 &&& (2 : Int32)))), .val .null, .val (.long ((p8 >>> ((11 : Int32) &&& 31)).toInt64)), .second, .val (.ref b_3), .val (.ref b_5), .unset, .unset, .unset] [(.int (XT.cmpL q3 q1))])) _
          refine XS.ifYes X_7.here hx rfl (pc0 := 109) (pc' := 116) rfl (hb hby at_109) rfl (XT.ll_eq_t h2) (by decide) (by decide) ?_
          show Steps pP.tables eE below (T_7.setTop (mkF mM 116 #[.val (.long q1), .second, .val (.long q2), .second, .val (.long q3), .second, .val (.long q4), .second, .val (.int p8), .val (.int (own_nz (p8 &&& (1 : Int32)))), .val (.int (own_nz (p8 &&& (2 : Int32)))), .val .null, .val (.long ((p8 >>> ((11 : Int32) &&& 31)).toInt64)), .second, .val (.ref b_3), .val (.ref b_5), .unset, .unset, .unset] [])) _
          refine XS.iconst X_7.here hx rfl (hb hby at_116) ?_
          show Steps pP.tables eE below (T_7.setTop (mkF mM 117 #[.val (.long q1), .second, .val (.long q2), .second, .val (.long q3), .second, .val (.long q4), .second, .val (.int p8), .val (.int (own_nz (p8 &&& (1 : Int32)))), .val (.int (own_nz (p8 &&& (2 : Int32)))), .val .null, .val (.long ((p8 >>> ((11 : Int32) &&& 31)).toInt64)), .second, .val (.ref b_3), .val (.ref b_5), .unset, .unset, .unset] [(.int (0 : Int32))])) _
          exact kt
        · have hj : (own_af q3 q1) = (1 : Int32) := if_pos ⟨h1, h2⟩
          rw [hj] at kt
          show Steps pP.tables eE below (T_7.setTop (mkF mM 102 #[.val (.long q1), .second, .val (.long q2), .second, .val (.long q3), .second, .val (.long q4), .second, .val (.int p8), .val (.int (own_nz (p8 &&& (1 : Int32)))), .val (.int (own_nz (p8 &&& (2 : Int32)))), .val .null, .val (.long ((p8 >>> ((11 : Int32) &&& 31)).toInt64)), .second, .val (.ref b_3), .val (.ref b_5), .unset, .unset, .unset] [(.int (XT.cmpL (own_maxL q3 q1) q3))])) _
          refine XS.ifNo X_7.here hx rfl (hb hby at_102) rfl (XT.ll_ne_f h1) ?_
          show Steps pP.tables eE below (T_7.setTop (mkF mM 105 #[.val (.long q1), .second, .val (.long q2), .second, .val (.long q3), .second, .val (.long q4), .second, .val (.int p8), .val (.int (own_nz (p8 &&& (1 : Int32)))), .val (.int (own_nz (p8 &&& (2 : Int32)))), .val .null, .val (.long ((p8 >>> ((11 : Int32) &&& 31)).toInt64)), .second, .val (.ref b_3), .val (.ref b_5), .unset, .unset, .unset] [])) _
          refine XT.lload X_7.here hx rfl (hb hby at_105) rfl ?_
          show Steps pP.tables eE below (T_7.setTop (mkF mM 107 #[.val (.long q1), .second, .val (.long q2), .second, .val (.long q3), .second, .val (.long q4), .second, .val (.int p8), .val (.int (own_nz (p8 &&& (1 : Int32)))), .val (.int (own_nz (p8 &&& (2 : Int32)))), .val .null, .val (.long ((p8 >>> ((11 : Int32) &&& 31)).toInt64)), .second, .val (.ref b_3), .val (.ref b_5), .unset, .unset, .unset] [(.long q3)])) _
          refine XT.lloadN X_7.here hx rfl (hb hby at_107) rfl ?_
          show Steps pP.tables eE below (T_7.setTop (mkF mM 108 #[.val (.long q1), .second, .val (.long q2), .second, .val (.long q3), .second, .val (.long q4), .second, .val (.int p8), .val (.int (own_nz (p8 &&& (1 : Int32)))), .val (.int (own_nz (p8 &&& (2 : Int32)))), .val .null, .val (.long ((p8 >>> ((11 : Int32) &&& 31)).toInt64)), .second, .val (.ref b_3), .val (.ref b_5), .unset, .unset, .unset] [(.long q1), (.long q3)])) _
          refine XT.lcmp X_7.here hx rfl (hb hby at_108) rfl ?_
          show Steps pP.tables eE below (T_7.setTop (mkF mM 109 #[.val (.long q1), .second, .val (.long q2), .second, .val (.long q3), .second, .val (.long q4), .second, .val (.int p8), .val (.int (own_nz (p8 &&& (1 : Int32)))), .val (.int (own_nz (p8 &&& (2 : Int32)))), .val .null, .val (.long ((p8 >>> ((11 : Int32) &&& 31)).toInt64)), .second, .val (.ref b_3), .val (.ref b_5), .unset, .unset, .unset] [(.int (XT.cmpL q3 q1))])) _
          refine XS.ifNo X_7.here hx rfl (hb hby at_109) rfl (XT.ll_eq_f h2) ?_
          show Steps pP.tables eE below (T_7.setTop (mkF mM 112 #[.val (.long q1), .second, .val (.long q2), .second, .val (.long q3), .second, .val (.long q4), .second, .val (.int p8), .val (.int (own_nz (p8 &&& (1 : Int32)))), .val (.int (own_nz (p8 &&& (2 : Int32)))), .val .null, .val (.long ((p8 >>> ((11 : Int32) &&& 31)).toInt64)), .second, .val (.ref b_3), .val (.ref b_5), .unset, .unset, .unset] [])) _
          refine XS.iconst X_7.here hx rfl (hb hby at_112) ?_
          show Steps pP.tables eE below (T_7.setTop (mkF mM 113 #[.val (.long q1), .second, .val (.long q2), .second, .val (.long q3), .second, .val (.long q4), .second, .val (.int p8), .val (.int (own_nz (p8 &&& (1 : Int32)))), .val (.int (own_nz (p8 &&& (2 : Int32)))), .val .null, .val (.long ((p8 >>> ((11 : Int32) &&& 31)).toInt64)), .second, .val (.ref b_3), .val (.ref b_5), .unset, .unset, .unset] [(.int (1 : Int32))])) _
          refine XS.goto X_7.here hx rfl (pc0 := 113) (pc' := 117) rfl (hb hby at_113) (by decide) (by decide) ?_
          show Steps pP.tables eE below (T_7.setTop (mkF mM 117 #[.val (.long q1), .second, .val (.long q2), .second, .val (.long q3), .second, .val (.long q4), .second, .val (.int p8), .val (.int (own_nz (p8 &&& (1 : Int32)))), .val (.int (own_nz (p8 &&& (2 : Int32)))), .val .null, .val (.long ((p8 >>> ((11 : Int32) &&& 31)).toInt64)), .second, .val (.ref b_3), .val (.ref b_5), .unset, .unset, .unset] [(.int (1 : Int32))])) _
          exact kt
      · have hj : (own_af q3 q1) = (0 : Int32) := if_neg (fun z => h1 z.1)
        rw [hj] at kt
        show Steps pP.tables eE below (T_7.setTop (mkF mM 102 #[.val (.long q1), .second, .val (.long q2), .second, .val (.long q3), .second, .val (.long q4), .second, .val (.int p8), .val (.int (own_nz (p8 &&& (1 : Int32)))), .val (.int (own_nz (p8 &&& (2 : Int32)))), .val .null, .val (.long ((p8 >>> ((11 : Int32) &&& 31)).toInt64)), .second, .val (.ref b_3), .val (.ref b_5), .unset, .unset, .unset] [(.int (XT.cmpL (own_maxL q3 q1) q3))])) _
        refine XS.ifYes X_7.here hx rfl (pc0 := 102) (pc' := 116) rfl (hb hby at_102) rfl (XT.ll_ne_t h1) (by decide) (by decide) ?_
        show Steps pP.tables eE below (T_7.setTop (mkF mM 116 #[.val (.long q1), .second, .val (.long q2), .second, .val (.long q3), .second, .val (.long q4), .second, .val (.int p8), .val (.int (own_nz (p8 &&& (1 : Int32)))), .val (.int (own_nz (p8 &&& (2 : Int32)))), .val .null, .val (.long ((p8 >>> ((11 : Int32) &&& 31)).toInt64)), .second, .val (.ref b_3), .val (.ref b_5), .unset, .unset, .unset] [])) _
        refine XS.iconst X_7.here hx rfl (hb hby at_116) ?_
        show Steps pP.tables eE below (T_7.setTop (mkF mM 117 #[.val (.long q1), .second, .val (.long q2), .second, .val (.long q3), .second, .val (.long q4), .second, .val (.int p8), .val (.int (own_nz (p8 &&& (1 : Int32)))), .val (.int (own_nz (p8 &&& (2 : Int32)))), .val .null, .val (.long ((p8 >>> ((11 : Int32) &&& 31)).toInt64)), .second, .val (.ref b_3), .val (.ref b_5), .unset, .unset, .unset] [(.int (0 : Int32))])) _
        exact kt
    refine jn_8 _ ?_
    show Steps pP.tables eE below (T_7.setTop (mkF mM 117 #[.val (.long q1), .second, .val (.long q2), .second, .val (.long q3), .second, .val (.long q4), .second, .val (.int p8), .val (.int (own_nz (p8 &&& (1 : Int32)))), .val (.int (own_nz (p8 &&& (2 : Int32)))), .val .null, .val (.long ((p8 >>> ((11 : Int32) &&& 31)).toInt64)), .second, .val (.ref b_3), .val (.ref b_5), .unset, .unset, .unset] [(.int (own_af q3 q1))])) _
    refine XS.istore X_7.here hx rfl (hb hby at_117) rfl (l' := #[.val (.long q1), .second, .val (.long q2), .second, .val (.long q3), .second, .val (.long q4), .second, .val (.int p8), .val (.int (own_nz (p8 &&& (1 : Int32)))), .val (.int (own_nz (p8 &&& (2 : Int32)))), .val .null, .val (.long ((p8 >>> ((11 : Int32) &&& 31)).toInt64)), .second, .val (.ref b_3), .val (.ref b_5), .val (.int (own_af q3 q1)), .unset, .unset]) rfl ?_
    show Steps pP.tables eE below (T_7.setTop (mkF mM 119 #[.val (.long q1), .second, .val (.long q2), .second, .val (.long q3), .second, .val (.long q4), .second, .val (.int p8), .val (.int (own_nz (p8 &&& (1 : Int32)))), .val (.int (own_nz (p8 &&& (2 : Int32)))), .val .null, .val (.long ((p8 >>> ((11 : Int32) &&& 31)).toInt64)), .second, .val (.ref b_3), .val (.ref b_5), .val (.int (own_af q3 q1)), .unset, .unset] [])) _
    refine XT.lload X_7.here hx rfl (hb hby at_119) rfl ?_
    show Steps pP.tables eE below (T_7.setTop (mkF mM 121 #[.val (.long q1), .second, .val (.long q2), .second, .val (.long q3), .second, .val (.long q4), .second, .val (.int p8), .val (.int (own_nz (p8 &&& (1 : Int32)))), .val (.int (own_nz (p8 &&& (2 : Int32)))), .val .null, .val (.long ((p8 >>> ((11 : Int32) &&& 31)).toInt64)), .second, .val (.ref b_3), .val (.ref b_5), .val (.int (own_af q3 q1)), .unset, .unset] [(.long q4)])) _
    refine XT.lloadN X_7.here hx rfl (hb hby at_121) rfl ?_
    show Steps pP.tables eE below (T_7.setTop (mkF mM 122 #[.val (.long q1), .second, .val (.long q2), .second, .val (.long q3), .second, .val (.long q4), .second, .val (.int p8), .val (.int (own_nz (p8 &&& (1 : Int32)))), .val (.int (own_nz (p8 &&& (2 : Int32)))), .val .null, .val (.long ((p8 >>> ((11 : Int32) &&& 31)).toInt64)), .second, .val (.ref b_3), .val (.ref b_5), .val (.int (own_af q3 q1)), .unset, .unset] [(.long q2), (.long q4)])) _
    refine st_9 _ ?_
    show Steps pP.tables eE below (T_9.setTop (mkF mM 125 #[.val (.long q1), .second, .val (.long q2), .second, .val (.long q3), .second, .val (.long q4), .second, .val (.int p8), .val (.int (own_nz (p8 &&& (1 : Int32)))), .val (.int (own_nz (p8 &&& (2 : Int32)))), .val .null, .val (.long ((p8 >>> ((11 : Int32) &&& 31)).toInt64)), .second, .val (.ref b_3), .val (.ref b_5), .val (.int (own_af q3 q1)), .unset, .unset] [(.long (own_minL q4 q2))])) _
    refine XT.lload X_9.here hx rfl (hb hby at_125) rfl ?_
    show Steps pP.tables eE below (T_9.setTop (mkF mM 127 #[.val (.long q1), .second, .val (.long q2), .second, .val (.long q3), .second, .val (.long q4), .second, .val (.int p8), .val (.int (own_nz (p8 &&& (1 : Int32)))), .val (.int (own_nz (p8 &&& (2 : Int32)))), .val .null, .val (.long ((p8 >>> ((11 : Int32) &&& 31)).toInt64)), .second, .val (.ref b_3), .val (.ref b_5), .val (.int (own_af q3 q1)), .unset, .unset] [(.long q4), (.long (own_minL q4 q2))])) _
    refine XT.lcmp X_9.here hx rfl (hb hby at_127) rfl ?_
    show Steps pP.tables eE below (T_9.setTop (mkF mM 128 #[.val (.long q1), .second, .val (.long q2), .second, .val (.long q3), .second, .val (.long q4), .second, .val (.int p8), .val (.int (own_nz (p8 &&& (1 : Int32)))), .val (.int (own_nz (p8 &&& (2 : Int32)))), .val .null, .val (.long ((p8 >>> ((11 : Int32) &&& 31)).toInt64)), .second, .val (.ref b_3), .val (.ref b_5), .val (.int (own_af q3 q1)), .unset, .unset] [(.int (XT.cmpL (own_minL q4 q2) q4))])) _
    have jn_10 : ∀ t_, Steps pP.tables eE below (T_9.setTop (mkF mM 143 #[.val (.long q1), .second, .val (.long q2), .second, .val (.long q3), .second, .val (.long q4), .second, .val (.int p8), .val (.int (own_nz (p8 &&& (1 : Int32)))), .val (.int (own_nz (p8 &&& (2 : Int32)))), .val .null, .val (.long ((p8 >>> ((11 : Int32) &&& 31)).toInt64)), .second, .val (.ref b_3), .val (.ref b_5), .val (.int (own_af q3 q1)), .unset, .unset] [(.int (own_bl q4 q2))])) t_ → Steps pP.tables eE below (T_9.setTop (mkF mM 128 #[.val (.long q1), .second, .val (.long q2), .second, .val (.long q3), .second, .val (.long q4), .second, .val (.int p8), .val (.int (own_nz (p8 &&& (1 : Int32)))), .val (.int (own_nz (p8 &&& (2 : Int32)))), .val .null, .val (.long ((p8 >>> ((11 : Int32) &&& 31)).toInt64)), .second, .val (.ref b_3), .val (.ref b_5), .val (.int (own_af q3 q1)), .unset, .unset] [(.int (XT.cmpL (own_minL q4 q2) q4))])) t_ := by
      intro t_ kt
      by_cases h1 : (own_minL q4 q2) = q4
      · by_cases h2 : q4 = q2
        · have hj : (own_bl q4 q2) = (0 : Int32) := if_neg (fun z => z.2 h2)
          rw [hj] at kt
          show Steps pP.tables eE below (T_9.setTop (mkF mM 128 #[.val (.long q1), .second, .val (.long q2), .second, .val (.long q3), .second, .val (.long q4), .second, .val (.int p8), .val (.int (own_nz (p8 &&& (1 : Int32)))), .val (.int (own_nz (p8 &&& (2 : Int32)))), .val .null, .val (.long ((p8 >>> ((11 : Int32) &&& 31)).toInt64)), .second, .val (.ref b_3), .val (.ref b_5), .val (.int (own_af q3 q1)), .unset, .unset] [(.int (XT.cmpL (own_minL q4 q2) q4))])) _
          refine XS.ifNo X_9.here hx rfl (hb hby at_128) rfl (XT.ll_ne_f h1) ?_
          show Steps pP.tables eE below (T_9.setTop (mkF mM 131 #[.val (.long q1), .second, .val (.long q2), .second, .val (.long q3), .second, .val (.long q4), .second, .val (.int p8), .val (.int (own_nz (p8 &&& (1 : Int32)))), .val (.int (own_nz (p8 &&& (2 : Int32)))), .val .null, .val (.long ((p8 >>> ((11 : Int32) &&& 31)).toInt64)), .second, .val (.ref b_3), .val (.ref b_5), .val (.int (own_af q3 q1)), .unset, .unset] [])) _
          refine XT.lload X_9.here hx rfl (hb hby at_131) rfl ?_
          show Steps pP.tables eE below (T_9.setTop (mkF mM 133 #[.val (.long q1), .second, .val (.long q2), .second, .val (.long q3), .second, .val (.long q4), .second, .val (.int p8), .val (.int (own_nz (p8 &&& (1 : Int32)))), .val (.int (own_nz (p8 &&& (2 : Int32)))), .val .null, .val (.long ((p8 >>> ((11 : Int32) &&& 31)).toInt64)), .second, .val (.ref b_3), .val (.ref b_5), .val (.int (own_af q3 q1)), .unset, .unset] [(.long q4)])) _
          refine XT.lloadN X_9.here hx rfl (hb hby at_133) rfl ?_
          show Steps pP.tables eE below (T_9.setTop (mkF mM 134 #[.val (.long q1), .second, .val (.long q2), .second, .val (.long q3), .second, .val (.long q4), .second, .val (.int p8), .val (.int (own_nz (p8 &&& (1 : Int32)))), .val (.int (own_nz (p8 &&& (2 : Int32)))), .val .null, .val (.long ((p8 >>> ((11 : Int32) &&& 31)).toInt64)), .second, .val (.ref b_3), .val (.ref b_5), .val (.int (own_af q3 q1)), .unset, .unset] [(.long q2), (.long q4)])) _
          refine XT.lcmp X_9.here hx rfl (hb hby at_134) rfl ?_
          show Steps pP.tables eE below (T_9.setTop (mkF mM 135 #[.val (.long q1), .second, .val (.long q2), .second, .val (.long q3), .second, .val (.long q4), .second, .val (.int p8), .val (.int (own_nz (p8 &&& (1 : Int32)))), .val (.int (own_nz (p8 &&& (2 : Int32)))), .val .null, .val (.long ((p8 >>> ((11 : Int32) &&& 31)).toInt64)), .second, .val (.ref b_3), .val (.ref b_5), .val (.int (own_af q3 q1)), .unset, .unset] [(.int (XT.cmpL q4 q2))])) _
          refine XS.ifYes X_9.here hx rfl (pc0 := 135) (pc' := 142) rfl (hb hby at_135) rfl (XT.ll_eq_t h2) (by decide) (by decide) ?_
          show Steps pP.tables eE below (T_9.setTop (mkF mM 142 #[.val (.long q1), .second, .val (.long q2), .second, .val (.long q3), .second, .val (.long q4), .second, .val (.int p8), .val (.int (own_nz (p8 &&& (1 : Int32)))), .val (.int (own_nz (p8 &&& (2 : Int32)))), .val .null, .val (.long ((p8 >>> ((11 : Int32) &&& 31)).toInt64)), .second, .val (.ref b_3), .val (.ref b_5), .val (.int (own_af q3 q1)), .unset, .unset] [])) _
          refine XS.iconst X_9.here hx rfl (hb hby at_142) ?_
          show Steps pP.tables eE below (T_9.setTop (mkF mM 143 #[.val (.long q1), .second, .val (.long q2), .second, .val (.long q3), .second, .val (.long q4), .second, .val (.int p8), .val (.int (own_nz (p8 &&& (1 : Int32)))), .val (.int (own_nz (p8 &&& (2 : Int32)))), .val .null, .val (.long ((p8 >>> ((11 : Int32) &&& 31)).toInt64)), .second, .val (.ref b_3), .val (.ref b_5), .val (.int (own_af q3 q1)), .unset, .unset] [(.int (0 : Int32))])) _
          exact kt
        · have hj : (own_bl q4 q2) = (1 : Int32) := if_pos ⟨h1, h2⟩
          rw [hj] at kt
          show Steps pP.tables eE below (T_9.setTop (mkF mM 128 #[.val (.long q1), .second, .val (.long q2), .second, .val (.long q3), .second, .val (.long q4), .second, .val (.int p8), .val (.int (own_nz (p8 &&& (1 : Int32)))), .val (.int (own_nz (p8 &&& (2 : Int32)))), .val .null, .val (.long ((p8 >>> ((11 : Int32) &&& 31)).toInt64)), .second, .val (.ref b_3), .val (.ref b_5), .val (.int (own_af q3 q1)), .unset, .unset] [(.int (XT.cmpL (own_minL q4 q2) q4))])) _
          refine XS.ifNo X_9.here hx rfl (hb hby at_128) rfl (XT.ll_ne_f h1) ?_
          show Steps pP.tables eE below (T_9.setTop (mkF mM 131 #[.val (.long q1), .second, .val (.long q2), .second, .val (.long q3), .second, .val (.long q4), .second, .val (.int p8), .val (.int (own_nz (p8 &&& (1 : Int32)))), .val (.int (own_nz (p8 &&& (2 : Int32)))), .val .null, .val (.long ((p8 >>> ((11 : Int32) &&& 31)).toInt64)), .second, .val (.ref b_3), .val (.ref b_5), .val (.int (own_af q3 q1)), .unset, .unset] [])) _
          refine XT.lload X_9.here hx rfl (hb hby at_131) rfl ?_
          show Steps pP.tables eE below (T_9.setTop (mkF mM 133 #[.val (.long q1), .second, .val (.long q2), .second, .val (.long q3), .second, .val (.long q4), .second, .val (.int p8), .val (.int (own_nz (p8 &&& (1 : Int32)))), .val (.int (own_nz (p8 &&& (2 : Int32)))), .val .null, .val (.long ((p8 >>> ((11 : Int32) &&& 31)).toInt64)), .second, .val (.ref b_3), .val (.ref b_5), .val (.int (own_af q3 q1)), .unset, .unset] [(.long q4)])) _
          refine XT.lloadN X_9.here hx rfl (hb hby at_133) rfl ?_
          show Steps pP.tables eE below (T_9.setTop (mkF mM 134 #[.val (.long q1), .second, .val (.long q2), .second, .val (.long q3), .second, .val (.long q4), .second, .val (.int p8), .val (.int (own_nz (p8 &&& (1 : Int32)))), .val (.int (own_nz (p8 &&& (2 : Int32)))), .val .null, .val (.long ((p8 >>> ((11 : Int32) &&& 31)).toInt64)), .second, .val (.ref b_3), .val (.ref b_5), .val (.int (own_af q3 q1)), .unset, .unset] [(.long q2), (.long q4)])) _
          refine XT.lcmp X_9.here hx rfl (hb hby at_134) rfl ?_
          show Steps pP.tables eE below (T_9.setTop (mkF mM 135 #[.val (.long q1), .second, .val (.long q2), .second, .val (.long q3), .second, .val (.long q4), .second, .val (.int p8), .val (.int (own_nz (p8 &&& (1 : Int32)))), .val (.int (own_nz (p8 &&& (2 : Int32)))), .val .null, .val (.long ((p8 >>> ((11 : Int32) &&& 31)).toInt64)), .second, .val (.ref b_3), .val (.ref b_5), .val (.int (own_af q3 q1)), .unset, .unset] [(.int (XT.cmpL q4 q2))])) _
          refine XS.ifNo X_9.here hx rfl (hb hby at_135) rfl (XT.ll_eq_f h2) ?_
          show Steps pP.tables eE below (T_9.setTop (mkF mM 138 #[.val (.long q1), .second, .val (.long q2), .second, .val (.long q3), .second, .val (.long q4), .second, .val (.int p8), .val (.int (own_nz (p8 &&& (1 : Int32)))), .val (.int (own_nz (p8 &&& (2 : Int32)))), .val .null, .val (.long ((p8 >>> ((11 : Int32) &&& 31)).toInt64)), .second, .val (.ref b_3), .val (.ref b_5), .val (.int (own_af q3 q1)), .unset, .unset] [])) _
          refine XS.iconst X_9.here hx rfl (hb hby at_138) ?_
          show Steps pP.tables eE below (T_9.setTop (mkF mM 139 #[.val (.long q1), .second, .val (.long q2), .second, .val (.long q3), .second, .val (.long q4), .second, .val (.int p8), .val (.int (own_nz (p8 &&& (1 : Int32)))), .val (.int (own_nz (p8 &&& (2 : Int32)))), .val .null, .val (.long ((p8 >>> ((11 : Int32) &&& 31)).toInt64)), .second, .val (.ref b_3), .val (.ref b_5), .val (.int (own_af q3 q1)), .unset, .unset] [(.int (1 : Int32))])) _
          refine XS.goto X_9.here hx rfl (pc0 := 139) (pc' := 143) rfl (hb hby at_139) (by decide) (by decide) ?_
          show Steps pP.tables eE below (T_9.setTop (mkF mM 143 #[.val (.long q1), .second, .val (.long q2), .second, .val (.long q3), .second, .val (.long q4), .second, .val (.int p8), .val (.int (own_nz (p8 &&& (1 : Int32)))), .val (.int (own_nz (p8 &&& (2 : Int32)))), .val .null, .val (.long ((p8 >>> ((11 : Int32) &&& 31)).toInt64)), .second, .val (.ref b_3), .val (.ref b_5), .val (.int (own_af q3 q1)), .unset, .unset] [(.int (1 : Int32))])) _
          exact kt
      · have hj : (own_bl q4 q2) = (0 : Int32) := if_neg (fun z => h1 z.1)
        rw [hj] at kt
        show Steps pP.tables eE below (T_9.setTop (mkF mM 128 #[.val (.long q1), .second, .val (.long q2), .second, .val (.long q3), .second, .val (.long q4), .second, .val (.int p8), .val (.int (own_nz (p8 &&& (1 : Int32)))), .val (.int (own_nz (p8 &&& (2 : Int32)))), .val .null, .val (.long ((p8 >>> ((11 : Int32) &&& 31)).toInt64)), .second, .val (.ref b_3), .val (.ref b_5), .val (.int (own_af q3 q1)), .unset, .unset] [(.int (XT.cmpL (own_minL q4 q2) q4))])) _
        refine XS.ifYes X_9.here hx rfl (pc0 := 128) (pc' := 142) rfl (hb hby at_128) rfl (XT.ll_ne_t h1) (by decide) (by decide) ?_
        show Steps pP.tables eE below (T_9.setTop (mkF mM 142 #[.val (.long q1), .second, .val (.long q2), .second, .val (.long q3), .second, .val (.long q4), .second, .val (.int p8), .val (.int (own_nz (p8 &&& (1 : Int32)))), .val (.int (own_nz (p8 &&& (2 : Int32)))), .val .null, .val (.long ((p8 >>> ((11 : Int32) &&& 31)).toInt64)), .second, .val (.ref b_3), .val (.ref b_5), .val (.int (own_af q3 q1)), .unset, .unset] [])) _
        refine XS.iconst X_9.here hx rfl (hb hby at_142) ?_
        show Steps pP.tables eE below (T_9.setTop (mkF mM 143 #[.val (.long q1), .second, .val (.long q2), .second, .val (.long q3), .second, .val (.long q4), .second, .val (.int p8), .val (.int (own_nz (p8 &&& (1 : Int32)))), .val (.int (own_nz (p8 &&& (2 : Int32)))), .val .null, .val (.long ((p8 >>> ((11 : Int32) &&& 31)).toInt64)), .second, .val (.ref b_3), .val (.ref b_5), .val (.int (own_af q3 q1)), .unset, .unset] [(.int (0 : Int32))])) _
        exact kt
    refine jn_10 _ ?_
    show Steps pP.tables eE below (T_9.setTop (mkF mM 143 #[.val (.long q1), .second, .val (.long q2), .second, .val (.long q3), .second, .val (.long q4), .second, .val (.int p8), .val (.int (own_nz (p8 &&& (1 : Int32)))), .val (.int (own_nz (p8 &&& (2 : Int32)))), .val .null, .val (.long ((p8 >>> ((11 : Int32) &&& 31)).toInt64)), .second, .val (.ref b_3), .val (.ref b_5), .val (.int (own_af q3 q1)), .unset, .unset] [(.int (own_bl q4 q2))])) _
    refine XS.istore X_9.here hx rfl (hb hby at_143) rfl (l' := #[.val (.long q1), .second, .val (.long q2), .second, .val (.long q3), .second, .val (.long q4), .second, .val (.int p8), .val (.int (own_nz (p8 &&& (1 : Int32)))), .val (.int (own_nz (p8 &&& (2 : Int32)))), .val .null, .val (.long ((p8 >>> ((11 : Int32) &&& 31)).toInt64)), .second, .val (.ref b_3), .val (.ref b_5), .val (.int (own_af q3 q1)), .val (.int (own_bl q4 q2)), .unset]) rfl ?_
    show Steps pP.tables eE below (T_9.setTop (mkF mM 145 #[.val (.long q1), .second, .val (.long q2), .second, .val (.long q3), .second, .val (.long q4), .second, .val (.int p8), .val (.int (own_nz (p8 &&& (1 : Int32)))), .val (.int (own_nz (p8 &&& (2 : Int32)))), .val .null, .val (.long ((p8 >>> ((11 : Int32) &&& 31)).toInt64)), .second, .val (.ref b_3), .val (.ref b_5), .val (.int (own_af q3 q1)), .val (.int (own_bl q4 q2)), .unset] [])) _
    refine XS.iload X_9.here hx rfl (hb hby at_145) rfl ?_
    show Steps pP.tables eE below (T_9.setTop (mkF mM 147 #[.val (.long q1), .second, .val (.long q2), .second, .val (.long q3), .second, .val (.long q4), .second, .val (.int p8), .val (.int (own_nz (p8 &&& (1 : Int32)))), .val (.int (own_nz (p8 &&& (2 : Int32)))), .val .null, .val (.long ((p8 >>> ((11 : Int32) &&& 31)).toInt64)), .second, .val (.ref b_3), .val (.ref b_5), .val (.int (own_af q3 q1)), .val (.int (own_bl q4 q2)), .unset] [(.int (own_af q3 q1))])) _
    have jn_11 : ∀ t_, Steps pP.tables eE below (T_9.setTop (mkF mM 160 #[.val (.long q1), .second, .val (.long q2), .second, .val (.long q3), .second, .val (.long q4), .second, .val (.int p8), .val (.int (own_nz (p8 &&& (1 : Int32)))), .val (.int (own_nz (p8 &&& (2 : Int32)))), .val .null, .val (.long ((p8 >>> ((11 : Int32) &&& 31)).toInt64)), .second, .val (.ref b_3), .val (.ref b_5), .val (.int (own_af q3 q1)), .val (.int (own_bl q4 q2)), .unset] [(.int (own_and (own_af q3 q1) (own_bl q4 q2)))])) t_ → Steps pP.tables eE below (T_9.setTop (mkF mM 147 #[.val (.long q1), .second, .val (.long q2), .second, .val (.long q3), .second, .val (.long q4), .second, .val (.int p8), .val (.int (own_nz (p8 &&& (1 : Int32)))), .val (.int (own_nz (p8 &&& (2 : Int32)))), .val .null, .val (.long ((p8 >>> ((11 : Int32) &&& 31)).toInt64)), .second, .val (.ref b_3), .val (.ref b_5), .val (.int (own_af q3 q1)), .val (.int (own_bl q4 q2)), .unset] [(.int (own_af q3 q1))])) t_ := by
      intro t_ kt
      by_cases h1 : (own_af q3 q1) = 0
      · have hj : (own_and (own_af q3 q1) (own_bl q4 q2)) = (0 : Int32) := if_pos h1
        rw [hj] at kt
        show Steps pP.tables eE below (T_9.setTop (mkF mM 147 #[.val (.long q1), .second, .val (.long q2), .second, .val (.long q3), .second, .val (.long q4), .second, .val (.int p8), .val (.int (own_nz (p8 &&& (1 : Int32)))), .val (.int (own_nz (p8 &&& (2 : Int32)))), .val .null, .val (.long ((p8 >>> ((11 : Int32) &&& 31)).toInt64)), .second, .val (.ref b_3), .val (.ref b_5), .val (.int (own_af q3 q1)), .val (.int (own_bl q4 q2)), .unset] [(.int (own_af q3 q1))])) _
        refine XS.ifYes X_9.here hx rfl (pc0 := 147) (pc' := 159) rfl (hb hby at_147) rfl (XT.i0_eq_t h1) (by decide) (by decide) ?_
        show Steps pP.tables eE below (T_9.setTop (mkF mM 159 #[.val (.long q1), .second, .val (.long q2), .second, .val (.long q3), .second, .val (.long q4), .second, .val (.int p8), .val (.int (own_nz (p8 &&& (1 : Int32)))), .val (.int (own_nz (p8 &&& (2 : Int32)))), .val .null, .val (.long ((p8 >>> ((11 : Int32) &&& 31)).toInt64)), .second, .val (.ref b_3), .val (.ref b_5), .val (.int (own_af q3 q1)), .val (.int (own_bl q4 q2)), .unset] [])) _
        refine XS.iconst X_9.here hx rfl (hb hby at_159) ?_
        show Steps pP.tables eE below (T_9.setTop (mkF mM 160 #[.val (.long q1), .second, .val (.long q2), .second, .val (.long q3), .second, .val (.long q4), .second, .val (.int p8), .val (.int (own_nz (p8 &&& (1 : Int32)))), .val (.int (own_nz (p8 &&& (2 : Int32)))), .val .null, .val (.long ((p8 >>> ((11 : Int32) &&& 31)).toInt64)), .second, .val (.ref b_3), .val (.ref b_5), .val (.int (own_af q3 q1)), .val (.int (own_bl q4 q2)), .unset] [(.int (0 : Int32))])) _
        exact kt
      · by_cases h2 : (own_bl q4 q2) = 0
        · have hj : (own_and (own_af q3 q1) (own_bl q4 q2)) = (0 : Int32) := (if_neg h1).trans (if_pos h2)
          rw [hj] at kt
          show Steps pP.tables eE below (T_9.setTop (mkF mM 147 #[.val (.long q1), .second, .val (.long q2), .second, .val (.long q3), .second, .val (.long q4), .second, .val (.int p8), .val (.int (own_nz (p8 &&& (1 : Int32)))), .val (.int (own_nz (p8 &&& (2 : Int32)))), .val .null, .val (.long ((p8 >>> ((11 : Int32) &&& 31)).toInt64)), .second, .val (.ref b_3), .val (.ref b_5), .val (.int (own_af q3 q1)), .val (.int (own_bl q4 q2)), .unset] [(.int (own_af q3 q1))])) _
          refine XS.ifNo X_9.here hx rfl (hb hby at_147) rfl (XT.i0_eq_f h1) ?_
          show Steps pP.tables eE below (T_9.setTop (mkF mM 150 #[.val (.long q1), .second, .val (.long q2), .second, .val (.long q3), .second, .val (.long q4), .second, .val (.int p8), .val (.int (own_nz (p8 &&& (1 : Int32)))), .val (.int (own_nz (p8 &&& (2 : Int32)))), .val .null, .val (.long ((p8 >>> ((11 : Int32) &&& 31)).toInt64)), .second, .val (.ref b_3), .val (.ref b_5), .val (.int (own_af q3 q1)), .val (.int (own_bl q4 q2)), .unset] [])) _
          refine XS.iload X_9.here hx rfl (hb hby at_150) rfl ?_
          show Steps pP.tables eE below (T_9.setTop (mkF mM 152 #[.val (.long q1), .second, .val (.long q2), .second, .val (.long q3), .second, .val (.long q4), .second, .val (.int p8), .val (.int (own_nz (p8 &&& (1 : Int32)))), .val (.int (own_nz (p8 &&& (2 : Int32)))), .val .null, .val (.long ((p8 >>> ((11 : Int32) &&& 31)).toInt64)), .second, .val (.ref b_3), .val (.ref b_5), .val (.int (own_af q3 q1)), .val (.int (own_bl q4 q2)), .unset] [(.int (own_bl q4 q2))])) _
          refine XS.ifYes X_9.here hx rfl (pc0 := 152) (pc' := 159) rfl (hb hby at_152) rfl (XT.i0_eq_t h2) (by decide) (by decide) ?_
          show Steps pP.tables eE below (T_9.setTop (mkF mM 159 #[.val (.long q1), .second, .val (.long q2), .second, .val (.long q3), .second, .val (.long q4), .second, .val (.int p8), .val (.int (own_nz (p8 &&& (1 : Int32)))), .val (.int (own_nz (p8 &&& (2 : Int32)))), .val .null, .val (.long ((p8 >>> ((11 : Int32) &&& 31)).toInt64)), .second, .val (.ref b_3), .val (.ref b_5), .val (.int (own_af q3 q1)), .val (.int (own_bl q4 q2)), .unset] [])) _
          refine XS.iconst X_9.here hx rfl (hb hby at_159) ?_
          show Steps pP.tables eE below (T_9.setTop (mkF mM 160 #[.val (.long q1), .second, .val (.long q2), .second, .val (.long q3), .second, .val (.long q4), .second, .val (.int p8), .val (.int (own_nz (p8 &&& (1 : Int32)))), .val (.int (own_nz (p8 &&& (2 : Int32)))), .val .null, .val (.long ((p8 >>> ((11 : Int32) &&& 31)).toInt64)), .second, .val (.ref b_3), .val (.ref b_5), .val (.int (own_af q3 q1)), .val (.int (own_bl q4 q2)), .unset] [(.int (0 : Int32))])) _
          exact kt
        · have hj : (own_and (own_af q3 q1) (own_bl q4 q2)) = (1 : Int32) := (if_neg h1).trans (if_neg h2)
          rw [hj] at kt
          show Steps pP.tables eE below (T_9.setTop (mkF mM 147 #[.val (.long q1), .second, .val (.long q2), .second, .val (.long q3), .second, .val (.long q4), .second, .val (.int p8), .val (.int (own_nz (p8 &&& (1 : Int32)))), .val (.int (own_nz (p8 &&& (2 : Int32)))), .val .null, .val (.long ((p8 >>> ((11 : Int32) &&& 31)).toInt64)), .second, .val (.ref b_3), .val (.ref b_5), .val (.int (own_af q3 q1)), .val (.int (own_bl q4 q2)), .unset] [(.int (own_af q3 q1))])) _
          refine XS.ifNo X_9.here hx rfl (hb hby at_147) rfl (XT.i0_eq_f h1) ?_
          show Steps pP.tables eE below (T_9.setTop (mkF mM 150 #[.val (.long q1), .second, .val (.long q2), .second, .val (.long q3), .second, .val (.long q4), .second, .val (.int p8), .val (.int (own_nz (p8 &&& (1 : Int32)))), .val (.int (own_nz (p8 &&& (2 : Int32)))), .val .null, .val (.long ((p8 >>> ((11 : Int32) &&& 31)).toInt64)), .second, .val (.ref b_3), .val (.ref b_5), .val (.int (own_af q3 q1)), .val (.int (own_bl q4 q2)), .unset] [])) _
          refine XS.iload X_9.here hx rfl (hb hby at_150) rfl ?_
          show Steps pP.tables eE below (T_9.setTop (mkF mM 152 #[.val (.long q1), .second, .val (.long q2), .second, .val (.long q3), .second, .val (.long q4), .second, .val (.int p8), .val (.int (own_nz (p8 &&& (1 : Int32)))), .val (.int (own_nz (p8 &&& (2 : Int32)))), .val .null, .val (.long ((p8 >>> ((11 : Int32) &&& 31)).toInt64)), .second, .val (.ref b_3), .val (.ref b_5), .val (.int (own_af q3 q1)), .val (.int (own_bl q4 q2)), .unset] [(.int (own_bl q4 q2))])) _
          refine XS.ifNo X_9.here hx rfl (hb hby at_152) rfl (XT.i0_eq_f h2) ?_
          show Steps pP.tables eE below (T_9.setTop (mkF mM 155 #[.val (.long q1), .second, .val (.long q2), .second, .val (.long q3), .second, .val (.long q4), .second, .val (.int p8), .val (.int (own_nz (p8 &&& (1 : Int32)))), .val (.int (own_nz (p8 &&& (2 : Int32)))), .val .null, .val (.long ((p8 >>> ((11 : Int32) &&& 31)).toInt64)), .second, .val (.ref b_3), .val (.ref b_5), .val (.int (own_af q3 q1)), .val (.int (own_bl q4 q2)), .unset] [])) _
          refine XS.iconst X_9.here hx rfl (hb hby at_155) ?_
          show Steps pP.tables eE below (T_9.setTop (mkF mM 156 #[.val (.long q1), .second, .val (.long q2), .second, .val (.long q3), .second, .val (.long q4), .second, .val (.int p8), .val (.int (own_nz (p8 &&& (1 : Int32)))), .val (.int (own_nz (p8 &&& (2 : Int32)))), .val .null, .val (.long ((p8 >>> ((11 : Int32) &&& 31)).toInt64)), .second, .val (.ref b_3), .val (.ref b_5), .val (.int (own_af q3 q1)), .val (.int (own_bl q4 q2)), .unset] [(.int (1 : Int32))])) _
          refine XS.goto X_9.here hx rfl (pc0 := 156) (pc' := 160) rfl (hb hby at_156) (by decide) (by decide) ?_
          show Steps pP.tables eE below (T_9.setTop (mkF mM 160 #[.val (.long q1), .second, .val (.long q2), .second, .val (.long q3), .second, .val (.long q4), .second, .val (.int p8), .val (.int (own_nz (p8 &&& (1 : Int32)))), .val (.int (own_nz (p8 &&& (2 : Int32)))), .val .null, .val (.long ((p8 >>> ((11 : Int32) &&& 31)).toInt64)), .second, .val (.ref b_3), .val (.ref b_5), .val (.int (own_af q3 q1)), .val (.int (own_bl q4 q2)), .unset] [(.int (1 : Int32))])) _
          exact kt
    refine jn_11 _ ?_
    show Steps pP.tables eE below (T_9.setTop (mkF mM 160 #[.val (.long q1), .second, .val (.long q2), .second, .val (.long q3), .second, .val (.long q4), .second, .val (.int p8), .val (.int (own_nz (p8 &&& (1 : Int32)))), .val (.int (own_nz (p8 &&& (2 : Int32)))), .val .null, .val (.long ((p8 >>> ((11 : Int32) &&& 31)).toInt64)), .second, .val (.ref b_3), .val (.ref b_5), .val (.int (own_af q3 q1)), .val (.int (own_bl q4 q2)), .unset] [(.int (own_and (own_af q3 q1) (own_bl q4 q2)))])) _
    refine XS.istore X_9.here hx rfl (hb hby at_160) rfl (l' := #[.val (.long q1), .second, .val (.long q2), .second, .val (.long q3), .second, .val (.long q4), .second, .val (.int p8), .val (.int (own_nz (p8 &&& (1 : Int32)))), .val (.int (own_nz (p8 &&& (2 : Int32)))), .val .null, .val (.long ((p8 >>> ((11 : Int32) &&& 31)).toInt64)), .second, .val (.ref b_3), .val (.ref b_5), .val (.int (own_af q3 q1)), .val (.int (own_bl q4 q2)), .val (.int (own_and (own_af q3 q1) (own_bl q4 q2)))]) rfl ?_
    show Steps pP.tables eE below (T_9.setTop (mkF mM 162 #[.val (.long q1), .second, .val (.long q2), .second, .val (.long q3), .second, .val (.long q4), .second, .val (.int p8), .val (.int (own_nz (p8 &&& (1 : Int32)))), .val (.int (own_nz (p8 &&& (2 : Int32)))), .val .null, .val (.long ((p8 >>> ((11 : Int32) &&& 31)).toInt64)), .second, .val (.ref b_3), .val (.ref b_5), .val (.int (own_af q3 q1)), .val (.int (own_bl q4 q2)), .val (.int (own_and (own_af q3 q1) (own_bl q4 q2)))] [])) _
    refine XS.aload X_9.here hx rfl (hb hby at_162) rfl rfl ?_
    show Steps pP.tables eE below (T_9.setTop (mkF mM 164 #[.val (.long q1), .second, .val (.long q2), .second, .val (.long q3), .second, .val (.long q4), .second, .val (.int p8), .val (.int (own_nz (p8 &&& (1 : Int32)))), .val (.int (own_nz (p8 &&& (2 : Int32)))), .val .null, .val (.long ((p8 >>> ((11 : Int32) &&& 31)).toInt64)), .second, .val (.ref b_3), .val (.ref b_5), .val (.int (own_af q3 q1)), .val (.int (own_bl q4 q2)), .val (.int (own_and (own_af q3 q1) (own_bl q4 q2)))] [(.ref b_5)])) _
    refine XS.aload X_9.here hx rfl (hb hby at_164) rfl rfl ?_
    show Steps pP.tables eE below (T_9.setTop (mkF mM 166 #[.val (.long q1), .second, .val (.long q2), .second, .val (.long q3), .second, .val (.long q4), .second, .val (.int p8), .val (.int (own_nz (p8 &&& (1 : Int32)))), .val (.int (own_nz (p8 &&& (2 : Int32)))), .val .null, .val (.long ((p8 >>> ((11 : Int32) &&& 31)).toInt64)), .second, .val (.ref b_3), .val (.ref b_5), .val (.int (own_af q3 q1)), .val (.int (own_bl q4 q2)), .val (.int (own_and (own_af q3 q1) (own_bl q4 q2)))] [(.ref b_3), (.ref b_5)])) _
    refine st_12.trans ?_
    show Steps pP.tables eE below (T_12.setTop (mkF mM 169 #[.val (.long q1), .second, .val (.long q2), .second, .val (.long q3), .second, .val (.long q4), .second, .val (.int p8), .val (.int (own_nz (p8 &&& (1 : Int32)))), .val (.int (own_nz (p8 &&& (2 : Int32)))), .val .null, .val (.long ((p8 >>> ((11 : Int32) &&& 31)).toInt64)), .second, .val (.ref b_3), .val (.ref b_5), .val (.int (own_af q3 q1)), .val (.int (own_bl q4 q2)), .val (.int (own_and (own_af q3 q1) (own_bl q4 q2)))] [(.int (own_sp q1 q2 q3 q4))])) _
    refine XS.iload X_12.here hx rfl (hb hby at_169) rfl ?_
    show Steps pP.tables eE below (T_12.setTop (mkF mM 171 #[.val (.long q1), .second, .val (.long q2), .second, .val (.long q3), .second, .val (.long q4), .second, .val (.int p8), .val (.int (own_nz (p8 &&& (1 : Int32)))), .val (.int (own_nz (p8 &&& (2 : Int32)))), .val .null, .val (.long ((p8 >>> ((11 : Int32) &&& 31)).toInt64)), .second, .val (.ref b_3), .val (.ref b_5), .val (.int (own_af q3 q1)), .val (.int (own_bl q4 q2)), .val (.int (own_and (own_af q3 q1) (own_bl q4 q2)))] [(.int (own_and (own_af q3 q1) (own_bl q4 q2))), (.int (own_sp q1 q2 q3 q4))])) _
    refine XS.icmpNo X_12.here hx rfl (hb hby at_171) rfl (XT.ii_ne_f (own_spx q1 q2 q3 q4)) ?_
    show Steps pP.tables eE below (T_12.setTop (mkF mM 174 #[.val (.long q1), .second, .val (.long q2), .second, .val (.long q3), .second, .val (.long q4), .second, .val (.int p8), .val (.int (own_nz (p8 &&& (1 : Int32)))), .val (.int (own_nz (p8 &&& (2 : Int32)))), .val .null, .val (.long ((p8 >>> ((11 : Int32) &&& 31)).toInt64)), .second, .val (.ref b_3), .val (.ref b_5), .val (.int (own_af q3 q1)), .val (.int (own_bl q4 q2)), .val (.int (own_and (own_af q3 q1) (own_bl q4 q2)))] [])) _
    refine st_13 _ ?_
    show Steps pP.tables eE below (T_13.setTop (mkF mM 177 #[.val (.long q1), .second, .val (.long q2), .second, .val (.long q3), .second, .val (.long q4), .second, .val (.int p8), .val (.int (own_nz (p8 &&& (1 : Int32)))), .val (.int (own_nz (p8 &&& (2 : Int32)))), .val .null, .val (.long ((p8 >>> ((11 : Int32) &&& 31)).toInt64)), .second, .val (.ref b_3), .val (.ref b_5), .val (.int (own_af q3 q1)), .val (.int (own_bl q4 q2)), .val (.int (own_and (own_af q3 q1) (own_bl q4 q2)))] [(.ref xn)])) _
    refine XS.aload X_13.here hx rfl (hb hby at_177) rfl rfl ?_
    show Steps pP.tables eE below (T_13.setTop (mkF mM 179 #[.val (.long q1), .second, .val (.long q2), .second, .val (.long q3), .second, .val (.long q4), .second, .val (.int p8), .val (.int (own_nz (p8 &&& (1 : Int32)))), .val (.int (own_nz (p8 &&& (2 : Int32)))), .val .null, .val (.long ((p8 >>> ((11 : Int32) &&& 31)).toInt64)), .second, .val (.ref b_3), .val (.ref b_5), .val (.int (own_af q3 q1)), .val (.int (own_bl q4 q2)), .val (.int (own_and (own_af q3 q1) (own_bl q4 q2)))] [(.ref b_3), (.ref xn)])) _
    refine st_14.trans ?_
    show Steps pP.tables eE below (T_14.setTop (mkF mM 182 #[.val (.long q1), .second, .val (.long q2), .second, .val (.long q3), .second, .val (.long q4), .second, .val (.int p8), .val (.int (own_nz (p8 &&& (1 : Int32)))), .val (.int (own_nz (p8 &&& (2 : Int32)))), .val .null, .val (.long ((p8 >>> ((11 : Int32) &&& 31)).toInt64)), .second, .val (.ref b_3), .val (.ref b_5), .val (.int (own_af q3 q1)), .val (.int (own_bl q4 q2)), .val (.int (own_and (own_af q3 q1) (own_bl q4 q2)))] [(.int (0 : Int32))])) _
    refine XS.ifNo X_14.here hx rfl (hb hby at_182) rfl (by decide) ?_
    show Steps pP.tables eE below (T_14.setTop (mkF mM 185 #[.val (.long q1), .second, .val (.long q2), .second, .val (.long q3), .second, .val (.long q4), .second, .val (.int p8), .val (.int (own_nz (p8 &&& (1 : Int32)))), .val (.int (own_nz (p8 &&& (2 : Int32)))), .val .null, .val (.long ((p8 >>> ((11 : Int32) &&& 31)).toInt64)), .second, .val (.ref b_3), .val (.ref b_5), .val (.int (own_af q3 q1)), .val (.int (own_bl q4 q2)), .val (.int (own_and (own_af q3 q1) (own_bl q4 q2)))] [])) _
    refine XS.iconst X_14.here hx rfl (hb hby at_185) ?_
    show Steps pP.tables eE below (T_14.setTop (mkF mM 186 #[.val (.long q1), .second, .val (.long q2), .second, .val (.long q3), .second, .val (.long q4), .second, .val (.int p8), .val (.int (own_nz (p8 &&& (1 : Int32)))), .val (.int (own_nz (p8 &&& (2 : Int32)))), .val .null, .val (.long ((p8 >>> ((11 : Int32) &&& 31)).toInt64)), .second, .val (.ref b_3), .val (.ref b_5), .val (.int (own_af q3 q1)), .val (.int (own_bl q4 q2)), .val (.int (own_and (own_af q3 q1) (own_bl q4 q2)))] [(.int (1 : Int32))])) _
    refine XS.goto X_14.here hx rfl (pc0 := 186) (pc' := 190) rfl (hb hby at_186) (by decide) (by decide) ?_
    show Steps pP.tables eE below (T_14.setTop (mkF mM 190 #[.val (.long q1), .second, .val (.long q2), .second, .val (.long q3), .second, .val (.long q4), .second, .val (.int p8), .val (.int (own_nz (p8 &&& (1 : Int32)))), .val (.int (own_nz (p8 &&& (2 : Int32)))), .val .null, .val (.long ((p8 >>> ((11 : Int32) &&& 31)).toInt64)), .second, .val (.ref b_3), .val (.ref b_5), .val (.int (own_af q3 q1)), .val (.int (own_bl q4 q2)), .val (.int (own_and (own_af q3 q1) (own_bl q4 q2)))] [(.int (1 : Int32))])) _
    exact retN X_14 hx (t := .boolean) Bd.returns (by simp) (hb hby at_190) hr
  · show Q_lawn Z q1 q2 q3 q4 p8 xn cs h0 n0 _ T_14.heap _
    exact ⟨rfl, N_14⟩
set_option maxRecDepth 65536 in
set_option maxHeartbeats 40000000 in
theorem comes_1 {Post : Tables → Env → Array Value → State → Outcome → State → Prop} (hpost : ∀ tb e args s v u, (limb_1_1.after args s (.returned v) u = true ∧ limb_1_2.after args s (.returned v) u = true ∧ True) → FrameEnd s (.returned v) u (Jvm.fieldLocs frame_1_writes args s ++ Jvm.arrayLocs frame_1_arrays args s ++ Jvm.staticLocs frame_1_statics s) 16 128 → Post tb e args s (.returned v) u) :
    ArmFor flags0 classFile x code maxLocals ret World_1 tables_1 room_1 Calls_1 rest_1 Pre_1 Post := by
  intro l hfl _ _ p e ha hc hk s m args below hf hA hF happ hP
  obtain ⟨hcalls, hrest, hpre⟩ := hP
  obtain ⟨-, -, -, hnamed, -, -, -, hat⟩ := (Spec.applies_iff hf).mp happ
  obtain ⟨hg, hn⟩ := and_e (Cond.before_iff.mp (show (Jvm.Cond.and given_1 narrow_1).before args s = true from hpre))
  obtain ⟨hg1, hg2⟩ := and_e hg
  obtain ⟨hg3, hg4⟩ := and_e hg2
  obtain ⟨hg5, hg6⟩ := and_e hg4
  obtain ⟨hg7, hg8⟩ := and_e hg6
  obtain ⟨hg9, hg10⟩ := and_e hg8
  obtain ⟨w0, w1, w2, w3, w4, rfl⟩ : ∃ w0 w1 w2 w3 w4 : Value, args = #[w0, w1, w2, w3, w4] := by
    have hs : args.size = 5 := by simpa [Cond.value, given_1] using hg1
    obtain ⟨L⟩ := args
    match L, hs with
    | [w0, w1, w2, w3, w4], _ => exact ⟨w0, w1, w2, w3, w4, rfl⟩
  obtain ⟨i0, ei0⟩ := isL_v hg3
  obtain rfl : w0 = (.long i0) := Option.some.inj ei0
  obtain ⟨i1, ei1⟩ := isL_v hg5
  obtain rfl : w1 = (.long i1) := Option.some.inj ei1
  obtain ⟨i2, ei2⟩ := isL_v hg7
  obtain rfl : w2 = (.long i2) := Option.some.inj ei2
  obtain ⟨i3, ei3⟩ := isL_v hg9
  obtain rfl : w3 = (.long i3) := Option.some.inj ei3
  obtain ⟨i4, ei4⟩ := is_v hg10
  obtain rfl : w4 = (.int i4) := Option.some.inj ei4
  have hw := fun d (hd : d ∈ tables_1) => atoms_spec (ws := Jvm.Cond.code x code maxLocals ret :: tables_1) hat d (List.mem_cons_of_mem _ hd)
  have hfit : Fit s := fun {y c} hc i hi => by
    obtain ⟨ha, rfl⟩ := Array.getElem?_eq_some_iff.mp hc
    have q := List.all_eq_true.mp ((Array.all_eq_true_iff_forall_mem.mp hF) _ (Array.getElem_mem ha)) i (List.mem_range.mpr hi)
    simpa [Array.getElem?_eq_getElem hi] using q
  obtain ⟨hsets, hown0⟩ := atoms_of _ (rest_1_c_eq ▸ (show rest_1_c.before _ s = true from hrest))
  obtain ⟨hn1, hn2⟩ := and_e hn
  obtain ⟨x_BenchReport_Change_NONE, ev_x_BenchReport_Change_NONE⟩ := exa_v hn1
  have E_x_BenchReport_Change_NONE := Exa.start ev_x_BenchReport_Change_NONE hn1
  have S_BenchReport_Change_NONE := Sta.start ev_x_BenchReport_Change_NONE (Or.inr ⟨(hw _ (List.mem_of_getElem? (i := 28) rfl)), (hw _ (List.mem_of_getElem? (i := 55) rfl))⟩)
  have F_x_BenchReport_Change_NONE_firstRung := own_fld ev_x_BenchReport_Change_NONE (own_eql hn2)
  obtain ⟨cs, ecs⟩ := is_v (Cond.before_iff.mp (hsets _ (List.mem_of_getElem? (i := 1) rfl)))
  have S1 := Sta.start ecs (Or.inl (hsets _ (List.mem_of_getElem? (i := 0) rfl)))
  have hcs : ¬ cs = 0 := fun q => by
    have h2 := not_v (Cond.before_iff.mp (hsets _ (List.mem_of_getElem? (i := 2) rfl)))
    have h3 := eq_i ecs (Term.int_eval (0)) (congrArg Value.int q) (o := none) (first := s)
    rw [h3] at h2; cases h2
  by_cases hf4 : (i4 &&& (4 : Int32)) = 0
  · obtain ⟨n, o, h1, h2, h3, _, L, rfl, ⟨rfl, N⟩, hq⟩ := rm_lawn l s _ hw tables_1 i0 i1 i2 i3 i4 x_BenchReport_Change_NONE cs s.heap s.heap.size (Nat.le_refl _) hf4 S1 hcs S_BenchReport_Change_NONE E_x_BenchReport_Change_NONE F_x_BenchReport_Change_NONE_firstRung p e ha hc hk s m _ below hf ((Spec.applies_iff_loose hf).mp happ).1 ⟨rfl, State.Warmed39.refl s, rfl⟩ trivial
    exact ⟨n, _, h1, h2, h3, hpost _ _ _ _ _ _ ⟨Cond.after_iff.mpr rfl, Cond.after_iff.mpr (eq_i res_at (Term.int_eval (1)) rfl), trivial⟩ ⟨hq.1, hq.2.1, (hq.2.2.sift fun y hy => Or.inr (N y hy)).mono (by decide) (by decide)⟩⟩
  · obtain ⟨n, o, h1, h2, h3, _, L, rfl, ⟨rfl, N⟩, hq⟩ := rm_laws l s _ hw tables_1 i0 i1 i2 i3 i4 x_BenchReport_Change_NONE cs s.heap s.heap.size (Nat.le_refl _) hf4 S1 hcs S_BenchReport_Change_NONE E_x_BenchReport_Change_NONE F_x_BenchReport_Change_NONE_firstRung p e ha hc hk s m _ below hf ((Spec.applies_iff_loose hf).mp happ).1 ⟨rfl, State.Warmed39.refl s, rfl⟩ trivial
    exact ⟨n, _, h1, h2, h3, hpost _ _ _ _ _ _ ⟨Cond.after_iff.mpr rfl, Cond.after_iff.mpr (eq_i res_at (Term.int_eval (1)) rfl), trivial⟩ ⟨hq.1, hq.2.1, (hq.2.2.sift fun y hy => Or.inr (N y hy)).mono (by decide) (by decide)⟩⟩
theorem main_1_1 : Claimed_1_1 := comes_1 fun _ _ _ _ _ _ h hF => ⟨h.1, hF⟩
theorem main_1_2 : Claimed_1_2 := comes_1 fun _ _ _ _ _ _ h hF => ⟨h.2.1, hF⟩
end Jvm.Pilot.@@N@@
namespace Jvm.Pilot.@@N@@
open Jvm Jvm.ClassFile Sem Op Lib Jvm.Free Jvm.Stand Jvm.Pilot.@@N@@.Jvm.D
/-! MADE BY PROGRAM (witnessworld.py) out of the Statement's table words and the real class files: 20 classes; the members and pool entries that the words name. The judged class is class 1, her method 1. -/
namespace start1
open Jvm.ClassFile
def u (s : String) : CpInfo := .utf8 (stringToUtf16 s)
/-- a pool by its gaps: so many unusable entries, then the entry; so many at the end -/
def gap : Nat → List CpInfo → List CpInfo
  | 0, r => r
  | n + 1, r => .unusable :: gap n r
def poolList (es : List (Nat × CpInfo)) (last : Nat) : List CpInfo := es.foldr (fun e r => gap e.1 (e.2 :: r)) (gap last [])
def pool (es : List (Nat × CpInfo)) (last : Nat) : Array CpInfo := ⟨poolList es last⟩
def fileOf (pool : Array CpInfo) (this : Nat) (attrs : Array Attribute := #[]) (ms : Array MethodInfo := #[]) (fl : Nat := 33) (sup : Nat := 0) (ifs : Array Nat := #[]) (fds : Array FieldInfo := #[]) : ClassFile where
  minorVersion := 0
  majorVersion := 65
  constantPool := pool
  accessFlags := fl
  thisClass := this
  superClass := sup
  interfaces := ifs
  fields := fds
  methods := ms
  attributes := attrs
def plain (name : String) (sup : Option ClassId) : Class where
  name := name
  kind := .ordinary
  loader := none
  accessFlags := 33
  super := sup
  interfaces := #[]
  cf := none
  fields := #[]
  methods := #[]
  instanceTypes := #[]
  staticTypes := #[]
  resolved := #[]
  callSites := []
  init := .initialized
  statics := none
  mirror := none

def pool0 : Array CpInfo := pool [(5, u "<init>"), (0, u "()V"), (1, .class_ 10), (1, u "java/lang/Object")] 113

def k0c0 : Code := { maxStack := 0, maxLocals := 1, code := object_method_1_code, exceptionTable := #[], attributes := #[] }
def k0m0 : Method := { name := "<init>", desc := "()V", sig := { parameters := [], returnType := none }, accessFlags := 1, code := some k0c0 }
/-- java/lang/Object -/
def k0 : Class := { plain "java/lang/Object" none with
  accessFlags := 33
  interfaces := #[]
  cf := some (fileOf pool0 8 #[] #[{ accessFlags := 1, nameIndex := 5, descriptorIndex := 6, attributes := #[] }] 33 0 #[] #[])
  fields := #[]
  methods := #[k0m0]
  instanceTypes := #[]
  staticTypes := #[]
  resolved := Array.replicate 124 none
  statics := none }

def pool1 : Array CpInfo := pool [(2, .class_ 4), (1, u "java/lang/Object"), (0, u "<init>"), (0, u "()V"), (0, .methodref 8 9), (0, .class_ 10), (0, .nameAndType 11 12), (0, u "java/lang/String"), (0, u "valueOf"), (0, u "(C)Ljava/lang/String;"), (0, .class_ 14), (0, u "com/example/rolling_rung/rollingrung/cli/BenchReport$Operation"), (0, .methodref 13 16), (0, .nameAndType 5 17), (0, u "(ZJJJZLjava/lang/String;)V"), (0, .class_ 19), (0, u "com/example/rolling_rung/rollingrung/cli/BenchReport$Change"), (0, .methodref 18 21), (0, .nameAndType 5 22), (0, u "(JJ)V"), (0, .methodref 24 25), (0, .class_ 26), (0, .nameAndType 27 28), (0, u "java/lang/Math"), (0, u "max"), (0, u "(JJ)J"), (0, .methodref 24 30), (0, .nameAndType 31 28), (0, u "min"), (0, .methodref 18 33), (0, .nameAndType 34 35), (0, u "spans"), (0, u "(Lcom/example/rolling_rung/rollingrung/cli/BenchReport$Operation;)Z"), (0, .fieldref 18 37), (0, .nameAndType 38 39), (0, u "NONE"), (0, u "Lcom/example/rolling_rung/rollingrung/cli/BenchReport$Change;"), (0, .class_ 41), (0, u "com/example/rolling_rung/rollingrung/cli/ChangeSpansPinLaw"), (2, u "law"), (0, u "(JJJJI)Z")] 8

def k1m0 : Method := { name := "<init>", desc := "()V", sig := { parameters := [], returnType := none }, accessFlags := 1, code := none }
def k1c1 : Code := { maxStack := 11, maxLocals := 19, code := code, exceptionTable := #[], attributes := #[] }
def k1m1 : Method := { name := "law", desc := "(JJJJI)Z", sig := { parameters := [.long, .long, .long, .long, .int], returnType := some .boolean }, accessFlags := 9, code := some k1c1 }
/-- com/example/rolling_rung/rollingrung/cli/ChangeSpansPinLaw -/
def k1 : Class := { plain "com/example/rolling_rung/rollingrung/cli/ChangeSpansPinLaw" (some 0) with
  accessFlags := 49
  interfaces := #[]
  cf := some (fileOf pool1 40 #[] #[{ accessFlags := 1, nameIndex := 5, descriptorIndex := 6, attributes := #[] }, { accessFlags := 9, nameIndex := 44, descriptorIndex := 45, attributes := #[] }] 49 2 #[] #[])
  fields := #[]
  methods := #[k1m0, k1m1]
  instanceTypes := #[]
  staticTypes := #[]
  resolved := Array.replicate 54 none
  statics := none }

def pool2 : Array CpInfo := pool [(1, .methodref 2 3), (0, .class_ 4), (0, .nameAndType 5 6), (0, u "java/lang/Object"), (0, u "<init>"), (0, u "()V"), (0, .class_ 8), (0, u "java/lang/Record")] 13

def k2c0 : Code := { maxStack := 1, maxLocals := 1, code := jdk_30_method_1_code, exceptionTable := #[], attributes := #[] }
def k2m0 : Method := { name := "<init>", desc := "()V", sig := { parameters := [], returnType := none }, accessFlags := 4, code := some k2c0 }
/-- java/lang/Record -/
def k2 : Class := { plain "java/lang/Record" (some 0) with
  accessFlags := 1057
  interfaces := #[]
  cf := some (fileOf pool2 7 #[] #[{ accessFlags := 4, nameIndex := 5, descriptorIndex := 6, attributes := #[] }] 1057 2 #[] #[])
  fields := #[]
  methods := #[k2m0]
  instanceTypes := #[]
  staticTypes := #[]
  resolved := Array.replicate 22 none
  statics := none }

def pool3 : Array CpInfo := pool [(1, .methodref 2 3), (0, .class_ 4), (0, .nameAndType 5 6), (0, u "java/lang/Record"), (0, u "<init>"), (0, u "()V"), (0, .fieldref 8 9), (0, .class_ 10), (0, .nameAndType 11 12), (0, u "com/example/rolling_rung/rollingrung/cli/BenchReport$Operation"), (0, u "write"), (0, u "Z"), (0, .fieldref 8 14), (0, .nameAndType 15 16), (0, u "began"), (0, u "J"), (0, .fieldref 8 18), (0, .nameAndType 19 16), (0, u "ended"), (0, .fieldref 8 21), (0, .nameAndType 22 16), (0, u "version"), (0, .fieldref 8 24), (0, .nameAndType 25 12), (0, u "fenced"), (0, .fieldref 8 27), (0, .nameAndType 28 29), (0, u "failure"), (0, u "Ljava/lang/String;"), (12, u "(ZJJJZLjava/lang/String;)V"), (7, u "()J"), (3, .class_ 55), (0, u "com/example/rolling_rung/rollingrung/cli/BenchReport")] 24

def k3c0 : Code := { maxStack := 3, maxLocals := 10, code := prog_9_method_1_code, exceptionTable := #[], attributes := #[] }
def k3m0 : Method := { name := "<init>", desc := "(ZJJJZLjava/lang/String;)V", sig := { parameters := [.boolean, .long, .long, .long, .boolean, (.object "java/lang/String")], returnType := none }, accessFlags := 0, code := some k3c0 }
def k3c1 : Code := { maxStack := 2, maxLocals := 1, code := prog_9_method_6_code, exceptionTable := #[], attributes := #[] }
def k3m1 : Method := { name := "began", desc := "()J", sig := { parameters := [], returnType := some .long }, accessFlags := 1, code := some k3c1 }
def k3c2 : Code := { maxStack := 2, maxLocals := 1, code := prog_9_method_7_code, exceptionTable := #[], attributes := #[] }
def k3m2 : Method := { name := "ended", desc := "()J", sig := { parameters := [], returnType := some .long }, accessFlags := 1, code := some k3c2 }
/-- com/example/rolling_rung/rollingrung/cli/BenchReport$Operation -/
def k3 : Class := { plain "com/example/rolling_rung/rollingrung/cli/BenchReport$Operation" (some 2) with
  accessFlags := 48
  interfaces := #[]
  cf := some (fileOf pool3 8 #[.nestHost 54] #[{ accessFlags := 0, nameIndex := 5, descriptorIndex := 42, attributes := #[] }, { accessFlags := 1, nameIndex := 15, descriptorIndex := 50, attributes := #[] }, { accessFlags := 1, nameIndex := 19, descriptorIndex := 50, attributes := #[] }] 48 2 #[] #[{ accessFlags := 18, nameIndex := 11, descriptorIndex := 12, attributes := #[] }, { accessFlags := 18, nameIndex := 15, descriptorIndex := 16, attributes := #[] }, { accessFlags := 18, nameIndex := 19, descriptorIndex := 16, attributes := #[] }, { accessFlags := 18, nameIndex := 22, descriptorIndex := 16, attributes := #[] }, { accessFlags := 18, nameIndex := 25, descriptorIndex := 12, attributes := #[] }, { accessFlags := 18, nameIndex := 28, descriptorIndex := 29, attributes := #[] }])
  fields := #[{ name := "write", type := .boolean, accessFlags := 18, slot := 0, constantValue := 0 }, { name := "began", type := .long, accessFlags := 18, slot := 1, constantValue := 0 }, { name := "ended", type := .long, accessFlags := 18, slot := 2, constantValue := 0 }, { name := "version", type := .long, accessFlags := 18, slot := 3, constantValue := 0 }, { name := "fenced", type := .boolean, accessFlags := 18, slot := 4, constantValue := 0 }, { name := "failure", type := (.object "java/lang/String"), accessFlags := 18, slot := 5, constantValue := 0 }]
  methods := #[k3m0, k3m1, k3m2]
  instanceTypes := #[.boolean, .long, .long, .long, .boolean, (.object "java/lang/String")]
  staticTypes := #[]
  resolved := Array.replicate 80 none
  statics := none }

def pool4 : Array CpInfo := pool [(1, .methodref 2 3), (0, .class_ 4), (0, .nameAndType 5 6), (0, u "java/lang/Record"), (0, u "<init>"), (0, u "()V"), (0, .fieldref 8 9), (0, .class_ 10), (0, .nameAndType 11 12), (0, u "com/example/rolling_rung/rollingrung/cli/BenchReport$Change"), (0, u "firstRung"), (0, u "J"), (0, .fieldref 8 14), (0, .nameAndType 15 12), (0, u "lastRung"), (0, .methodref 17 18), (0, .class_ 19), (0, .nameAndType 20 21), (0, u "com/example/rolling_rung/rollingrung/cli/BenchReport$Operation"), (0, u "began"), (0, u "()J"), (0, .methodref 17 23), (0, .nameAndType 24 21), (0, u "ended"), (18, u "(JJ)V"), (2, u "NONE"), (0, u "Lcom/example/rolling_rung/rollingrung/cli/BenchReport$Change;"), (3, u "spans"), (0, u "(Lcom/example/rolling_rung/rollingrung/cli/BenchReport$Operation;)Z"), (8, .class_ 62), (0, u "com/example/rolling_rung/rollingrung/cli/BenchReport")] 21

def k4c0 : Code := { maxStack := 3, maxLocals := 5, code := prog_7_method_1_code, exceptionTable := #[], attributes := #[] }
def k4m0 : Method := { name := "<init>", desc := "(JJ)V", sig := { parameters := [.long, .long], returnType := none }, accessFlags := 0, code := some k4c0 }
def k4c1 : Code := { maxStack := 4, maxLocals := 2, code := prog_7_method_2_code, exceptionTable := #[], attributes := #[] }
def k4m1 : Method := { name := "spans", desc := "(Lcom/example/rolling_rung/rollingrung/cli/BenchReport$Operation;)Z", sig := { parameters := [(.object "com/example/rolling_rung/rollingrung/cli/BenchReport$Operation")], returnType := some .boolean }, accessFlags := 0, code := some k4c1 }
/-- com/example/rolling_rung/rollingrung/cli/BenchReport$Change -/
def k4 : Class := { plain "com/example/rolling_rung/rollingrung/cli/BenchReport$Change" (some 2) with
  accessFlags := 48
  interfaces := #[]
  cf := some (fileOf pool4 8 #[.nestHost 61] #[{ accessFlags := 0, nameIndex := 5, descriptorIndex := 43, attributes := #[] }, { accessFlags := 0, nameIndex := 51, descriptorIndex := 52, attributes := #[] }] 48 2 #[] #[{ accessFlags := 18, nameIndex := 11, descriptorIndex := 12, attributes := #[] }, { accessFlags := 18, nameIndex := 15, descriptorIndex := 12, attributes := #[] }, { accessFlags := 24, nameIndex := 46, descriptorIndex := 47, attributes := #[] }])
  fields := #[{ name := "firstRung", type := .long, accessFlags := 18, slot := 0, constantValue := 0 }, { name := "lastRung", type := .long, accessFlags := 18, slot := 1, constantValue := 0 }, { name := "NONE", type := (.object "com/example/rolling_rung/rollingrung/cli/BenchReport$Change"), accessFlags := 24, slot := 0, constantValue := 0 }]
  methods := #[k4m0, k4m1]
  instanceTypes := #[.long, .long]
  staticTypes := #[(.object "com/example/rolling_rung/rollingrung/cli/BenchReport$Change")]
  resolved := Array.replicate 84 none
  statics := some 0 }

def pool5 : Array CpInfo := pool [(1, .class_ 2), (0, u "java/lang/Math"), (1, .class_ 6), (1, u "java/lang/Object"), (0, u "<init>"), (0, u "()V"), (89, .class_ 100), (1, u "java/lang/Math$RandomNumberGeneratorHolder"), (20, u "(JJ)J"), (50, u "negativeZeroFloatBits"), (0, u "J"), (2, u "negativeZeroDoubleBits"), (21, u "max"), (2, u "min"), (43, u "$assertionsDisabled"), (0, u "Z"), (91, u "twoToTheDoubleScaleDown"), (0, u "D"), (4, u "twoToTheDoubleScaleUp"), (9, u "E"), (3, u "PI"), (2, u "TAU"), (2, u "DEGREES_TO_RADIANS"), (0, u "RADIANS_TO_DEGREES")] 94

def k5m0 : Method := { name := "<init>", desc := "()V", sig := { parameters := [], returnType := none }, accessFlags := 2, code := none }
def k5c1 : Code := { maxStack := 4, maxLocals := 4, code := jdk_29_method_66_code, exceptionTable := #[], attributes := #[] }
def k5m1 : Method := { name := "max", desc := "(JJ)J", sig := { parameters := [.long, .long], returnType := some .long }, accessFlags := 9, code := some k5c1 }
def k5c2 : Code := { maxStack := 4, maxLocals := 4, code := jdk_29_method_70_code, exceptionTable := #[], attributes := #[] }
def k5m2 : Method := { name := "min", desc := "(JJ)J", sig := { parameters := [.long, .long], returnType := some .long }, accessFlags := 9, code := some k5c2 }
/-- java/lang/Math -/
def k5 : Class := { plain "java/lang/Math" (some 0) with
  accessFlags := 49
  interfaces := #[]
  cf := some (fileOf pool5 1 #[.nestMembers #[98]] #[{ accessFlags := 2, nameIndex := 7, descriptorIndex := 8, attributes := #[] }, { accessFlags := 9, nameIndex := 198, descriptorIndex := 121, attributes := #[] }, { accessFlags := 9, nameIndex := 201, descriptorIndex := 121, attributes := #[] }] 49 4 #[] #[{ accessFlags := 25, nameIndex := 354, descriptorIndex := 339, attributes := #[] }, { accessFlags := 25, nameIndex := 358, descriptorIndex := 339, attributes := #[] }, { accessFlags := 25, nameIndex := 361, descriptorIndex := 339, attributes := #[] }, { accessFlags := 26, nameIndex := 364, descriptorIndex := 339, attributes := #[] }, { accessFlags := 26, nameIndex := 365, descriptorIndex := 339, attributes := #[] }, { accessFlags := 26, nameIndex := 172, descriptorIndex := 173, attributes := #[] }, { accessFlags := 26, nameIndex := 176, descriptorIndex := 173, attributes := #[] }, { accessFlags := 8, nameIndex := 344, descriptorIndex := 339, attributes := #[] }, { accessFlags := 8, nameIndex := 338, descriptorIndex := 339, attributes := #[] }, { accessFlags := 4120, nameIndex := 245, descriptorIndex := 246, attributes := #[] }])
  fields := #[{ name := "E", type := .double, accessFlags := 25, slot := 0, constantValue := 0 }, { name := "PI", type := .double, accessFlags := 25, slot := 1, constantValue := 0 }, { name := "TAU", type := .double, accessFlags := 25, slot := 2, constantValue := 0 }, { name := "DEGREES_TO_RADIANS", type := .double, accessFlags := 26, slot := 3, constantValue := 0 }, { name := "RADIANS_TO_DEGREES", type := .double, accessFlags := 26, slot := 4, constantValue := 0 }, { name := "negativeZeroFloatBits", type := .long, accessFlags := 26, slot := 5, constantValue := 0 }, { name := "negativeZeroDoubleBits", type := .long, accessFlags := 26, slot := 6, constantValue := 0 }, { name := "twoToTheDoubleScaleUp", type := .double, accessFlags := 8, slot := 7, constantValue := 0 }, { name := "twoToTheDoubleScaleDown", type := .double, accessFlags := 8, slot := 8, constantValue := 0 }, { name := "$assertionsDisabled", type := .boolean, accessFlags := 4120, slot := 9, constantValue := 0 }]
  methods := #[k5m0, k5m1, k5m2]
  instanceTypes := #[]
  staticTypes := #[.double, .double, .double, .double, .double, .long, .long, .double, .double, .boolean]
  resolved := Array.replicate 460 none
  statics := none }

def pool6 : Array CpInfo := pool [(1, .class_ 2), (0, u "java/io/Serializable"), (0, .class_ 4), (0, u "java/lang/Object")] 2

/-- java/io/Serializable -/
def k6 : Class := { plain "java/io/Serializable" (some 0) with
  accessFlags := 1537
  interfaces := #[]
  cf := some (fileOf pool6 1 #[] #[] 1537 3 #[] #[])
  fields := #[]
  methods := #[]
  instanceTypes := #[]
  staticTypes := #[]
  resolved := Array.replicate 7 none
  statics := none }

def pool7 : Array CpInfo := pool [(1, .class_ 2), (0, u "java/lang/Comparable"), (0, .class_ 4), (0, u "java/lang/Object")] 7

/-- java/lang/Comparable -/
def k7 : Class := { plain "java/lang/Comparable" (some 0) with
  accessFlags := 1537
  interfaces := #[]
  cf := some (fileOf pool7 1 #[] #[] 1537 3 #[] #[])
  fields := #[]
  methods := #[]
  instanceTypes := #[]
  staticTypes := #[]
  resolved := Array.replicate 12 none
  statics := none }

def pool8 : Array CpInfo := pool [(2, .class_ 4), (1, u "java/lang/CharSequence"), (42, .class_ 48), (0, u "java/lang/CharSequence$1CodePointIterator"), (10, .class_ 60), (0, u "java/lang/CharSequence$1CharIterator"), (5, .class_ 67), (0, u "java/lang/Object")] 63

/-- java/lang/CharSequence -/
def k8 : Class := { plain "java/lang/CharSequence" (some 0) with
  accessFlags := 1537
  interfaces := #[]
  cf := some (fileOf pool8 2 #[.nestMembers #[47, 59]] #[] 1537 66 #[] #[])
  fields := #[]
  methods := #[]
  instanceTypes := #[]
  staticTypes := #[]
  resolved := Array.replicate 131 none
  statics := none }

def pool9 : Array CpInfo := pool [(1, .class_ 2), (0, u "java/lang/constant/Constable"), (0, .class_ 4), (0, u "java/lang/Object")] 6

/-- java/lang/constant/Constable -/
def k9 : Class := { plain "java/lang/constant/Constable" (some 0) with
  accessFlags := 1537
  interfaces := #[]
  cf := some (fileOf pool9 1 #[] #[] 1537 3 #[] #[])
  fields := #[]
  methods := #[]
  instanceTypes := #[]
  staticTypes := #[]
  resolved := Array.replicate 11 none
  statics := none }

def pool10 : Array CpInfo := pool [(1, .class_ 2), (0, u "java/lang/constant/ConstantDesc"), (0, .class_ 4), (0, u "java/lang/Object")] 32

/-- java/lang/constant/ConstantDesc -/
def k10 : Class := { plain "java/lang/constant/ConstantDesc" (some 0) with
  accessFlags := 1537
  interfaces := #[]
  cf := some (fileOf pool10 1 #[] #[] 1537 3 #[] #[])
  fields := #[]
  methods := #[]
  instanceTypes := #[]
  staticTypes := #[]
  resolved := Array.replicate 37 none
  statics := none }

def pool11 : Array CpInfo := pool [(1, .methodref 2 3), (0, .class_ 4), (0, .nameAndType 5 6), (0, u "java/lang/Object"), (0, u "<init>"), (0, u "()V"), (2, .fieldref 10 11), (0, .class_ 12), (0, .nameAndType 13 14), (0, u "java/lang/String"), (0, u "value"), (0, u "[B"), (0, .fieldref 10 16), (0, .nameAndType 17 18), (0, u "coder"), (0, u "B"), (2, u "hash"), (0, u "I"), (2, u "hashIsZero"), (0, u "Z"), (11, .fieldref 10 39), (0, .nameAndType 40 26), (0, u "COMPACT_STRINGS"), (12, u "toBytes"), (53, .class_ 109), (1, u "java/lang/StringLatin1"), (99, .methodref 10 210), (0, .nameAndType 5 211), (0, u "([BB)V"), (157, u "(C)Z"), (205, .class_ 576), (0, u "java/lang/CharSequence"), (22, u "CASE_INSENSITIVE_ORDER"), (0, u "Ljava/util/Comparator;"), (181, u "valueOf"), (0, u "(C)Ljava/lang/String;"), (231, .methodref 107 1016), (0, .nameAndType 1017 369), (0, u "canEncode"), (0, .methodref 107 1019), (0, .nameAndType 53 1020), (0, u "(C)[B"), (80, u "serialPersistentFields"), (0, u "[Ljava/io/ObjectStreamField;"), (0, .class_ 1104), (0, u "java/lang/String$CaseInsensitiveComparator"), (1, .class_ 1107), (0, u "java/io/Serializable"), (0, .class_ 1109), (0, u "java/lang/Comparable"), (0, .class_ 1111), (0, u "java/lang/constant/Constable"), (0, .class_ 1113), (0, u "java/lang/constant/ConstantDesc"), (2, u "serialVersionUID"), (0, u "J"), (3, u "REPL"), (0, u "C"), (2, u "LATIN1"), (1, u "UTF16")] 323

def k11m0 : Method := { name := "<init>", desc := "()V", sig := { parameters := [], returnType := none }, accessFlags := 1, code := none }
def k11c1 : Code := { maxStack := 4, maxLocals := 1, code := jdk_42_method_139_code, exceptionTable := #[], attributes := #[] }
def k11m1 : Method := { name := "valueOf", desc := "(C)Ljava/lang/String;", sig := { parameters := [.char], returnType := some (.object "java/lang/String") }, accessFlags := 9, code := some k11c1 }
def k11c2 : Code := { maxStack := 2, maxLocals := 3, code := jdk_42_method_151_code, exceptionTable := #[], attributes := #[] }
def k11m2 : Method := { name := "<init>", desc := "([BB)V", sig := { parameters := [(.array .byte), .byte], returnType := none }, accessFlags := 0, code := some k11c2 }
/-- java/lang/String -/
def k11 : Class := { plain "java/lang/String" (some 0) with
  accessFlags := 49
  interfaces := #[6, 7, 8, 9, 10]
  cf := some (fileOf pool11 10 #[.nestMembers #[1103]] #[{ accessFlags := 1, nameIndex := 5, descriptorIndex := 6, attributes := #[] }, { accessFlags := 9, nameIndex := 782, descriptorIndex := 783, attributes := #[] }, { accessFlags := 0, nameIndex := 5, descriptorIndex := 211, attributes := #[] }] 49 2 #[1106, 1108, 575, 1110, 1112] #[{ accessFlags := 18, nameIndex := 13, descriptorIndex := 14, attributes := #[] }, { accessFlags := 18, nameIndex := 17, descriptorIndex := 18, attributes := #[] }, { accessFlags := 2, nameIndex := 21, descriptorIndex := 22, attributes := #[] }, { accessFlags := 2, nameIndex := 25, descriptorIndex := 26, attributes := #[] }, { accessFlags := 26, nameIndex := 1116, descriptorIndex := 1117, attributes := #[] }, { accessFlags := 24, nameIndex := 40, descriptorIndex := 26, attributes := #[] }, { accessFlags := 26, nameIndex := 1101, descriptorIndex := 1102, attributes := #[] }, { accessFlags := 26, nameIndex := 1121, descriptorIndex := 1122, attributes := #[] }, { accessFlags := 25, nameIndex := 599, descriptorIndex := 600, attributes := #[] }, { accessFlags := 24, nameIndex := 1125, descriptorIndex := 18, attributes := #[] }, { accessFlags := 24, nameIndex := 1127, descriptorIndex := 18, attributes := #[] }])
  fields := #[{ name := "value", type := (.array .byte), accessFlags := 18, slot := 0, constantValue := 0 }, { name := "coder", type := .byte, accessFlags := 18, slot := 1, constantValue := 0 }, { name := "hash", type := .int, accessFlags := 2, slot := 2, constantValue := 0 }, { name := "hashIsZero", type := .boolean, accessFlags := 2, slot := 3, constantValue := 0 }, { name := "serialVersionUID", type := .long, accessFlags := 26, slot := 0, constantValue := 0 }, { name := "COMPACT_STRINGS", type := .boolean, accessFlags := 24, slot := 1, constantValue := 0 }, { name := "serialPersistentFields", type := (.array (.object "java/io/ObjectStreamField")), accessFlags := 26, slot := 2, constantValue := 0 }, { name := "REPL", type := .char, accessFlags := 26, slot := 3, constantValue := 0 }, { name := "CASE_INSENSITIVE_ORDER", type := (.object "java/util/Comparator"), accessFlags := 25, slot := 4, constantValue := 0 }, { name := "LATIN1", type := .byte, accessFlags := 24, slot := 5, constantValue := 0 }, { name := "UTF16", type := .byte, accessFlags := 24, slot := 6, constantValue := 0 }]
  methods := #[k11m0, k11m1, k11m2]
  instanceTypes := #[(.array .byte), .byte, .int, .boolean]
  staticTypes := #[.long, .boolean, (.array (.object "java/io/ObjectStreamField")), .char, (.object "java/util/Comparator"), .byte, .byte]
  resolved := Array.replicate 1451 none
  statics := some 1 }

def pool12 : Array CpInfo := pool [(4, .class_ 6), (1, u "java/lang/Object"), (0, u "<init>"), (0, u "()V"), (5, .class_ 16), (1, u "java/lang/StringLatin1"), (73, u "canEncode"), (14, u "(C)Z"), (15, u "$assertionsDisabled"), (0, u "Z"), (98, .class_ 223), (1, u "java/lang/StringLatin1$LinesSpliterator"), (156, u "toBytes"), (1, u "(C)[B"), (7, .class_ 391), (0, u "java/lang/StringLatin1$CharsSpliterator")] 3

def k12m0 : Method := { name := "<init>", desc := "()V", sig := { parameters := [], returnType := none }, accessFlags := 0, code := none }
def k12c1 : Code := { maxStack := 2, maxLocals := 1, code := jdk_43_method_3_code, exceptionTable := #[], attributes := #[] }
def k12m1 : Method := { name := "canEncode", desc := "(C)Z", sig := { parameters := [.char], returnType := some .boolean }, accessFlags := 9, code := some k12c1 }
def k12c2 : Code := { maxStack := 4, maxLocals := 1, code := jdk_43_method_46_code, exceptionTable := #[], attributes := #[] }
def k12m2 : Method := { name := "toBytes", desc := "(C)[B", sig := { parameters := [.char], returnType := some (.array .byte) }, accessFlags := 9, code := some k12c2 }
/-- java/lang/StringLatin1 -/
def k12 : Class := { plain "java/lang/StringLatin1" (some 0) with
  accessFlags := 48
  interfaces := #[]
  cf := some (fileOf pool12 14 #[.nestMembers #[390, 221]] #[{ accessFlags := 0, nameIndex := 7, descriptorIndex := 8, attributes := #[] }, { accessFlags := 9, nameIndex := 90, descriptorIndex := 105, attributes := #[] }, { accessFlags := 9, nameIndex := 380, descriptorIndex := 382, attributes := #[] }] 48 4 #[] #[{ accessFlags := 4120, nameIndex := 121, descriptorIndex := 122, attributes := #[] }])
  fields := #[{ name := "$assertionsDisabled", type := .boolean, accessFlags := 4120, slot := 0, constantValue := 0 }]
  methods := #[k12m0, k12m1, k12m2]
  instanceTypes := #[]
  staticTypes := #[.boolean]
  resolved := Array.replicate 395 none
  statics := none }

def pool13 : Array CpInfo := pool [(2, .class_ 4), (1, u "java/lang/Object"), (0, u "<init>"), (0, u "()V"), (17, .class_ 26), (1, u "jdk/internal/util/Preconditions"), (28, .class_ 56), (0, u "jdk/internal/util/Preconditions$4"), (57, .class_ 115), (0, u "jdk/internal/util/Preconditions$1"), (7, u "SIOOBE_FORMATTER"), (0, u "Ljava/util/function/BiFunction;"), (0, .class_ 126), (0, u "jdk/internal/util/Preconditions$2"), (3, u "AIOOBE_FORMATTER"), (0, .class_ 132), (0, u "jdk/internal/util/Preconditions$3"), (3, u "IOOBE_FORMATTER")] 57

def k13m0 : Method := { name := "<init>", desc := "()V", sig := { parameters := [], returnType := none }, accessFlags := 1, code := none }
/-- jdk/internal/util/Preconditions -/
def k13 : Class := { plain "jdk/internal/util/Preconditions" (some 0) with
  accessFlags := 33
  interfaces := #[]
  cf := some (fileOf pool13 24 #[.nestMembers #[55, 131, 125, 114]] #[{ accessFlags := 1, nameIndex := 5, descriptorIndex := 6, attributes := #[] }] 33 2 #[] #[{ accessFlags := 25, nameIndex := 123, descriptorIndex := 124, attributes := #[] }, { accessFlags := 25, nameIndex := 130, descriptorIndex := 124, attributes := #[] }, { accessFlags := 25, nameIndex := 136, descriptorIndex := 124, attributes := #[] }])
  fields := #[{ name := "SIOOBE_FORMATTER", type := (.object "java/util/function/BiFunction"), accessFlags := 25, slot := 0, constantValue := 0 }, { name := "AIOOBE_FORMATTER", type := (.object "java/util/function/BiFunction"), accessFlags := 25, slot := 1, constantValue := 0 }, { name := "IOOBE_FORMATTER", type := (.object "java/util/function/BiFunction"), accessFlags := 25, slot := 2, constantValue := 0 }]
  methods := #[k13m0]
  instanceTypes := #[]
  staticTypes := #[(.object "java/util/function/BiFunction"), (.object "java/util/function/BiFunction"), (.object "java/util/function/BiFunction")]
  resolved := Array.replicate 194 none
  statics := some 2 }

def pool14 : Array CpInfo := pool [(9, u "<init>"), (6, .class_ 18), (1, u "java/lang/Object"), (0, u "()V"), (1, .class_ 23), (1, u "jdk/internal/util/ArraysSupport"), (0, u "LOG2_ARRAY_LONG_INDEX_SCALE"), (0, u "I"), (2, u "U"), (0, u "Ljdk/internal/misc/Unsafe;"), (8, u "BIG_ENDIAN"), (0, u "Z"), (8, u "LOG2_BYTE_BIT_SIZE"), (4, u "LOG2_ARRAY_INT_INDEX_SCALE"), (54, u "JLA"), (0, u "Ljdk/internal/access/JavaLangAccess;"), (11, u "LOG2_ARRAY_BOOLEAN_INDEX_SCALE"), (9, u "LOG2_ARRAY_BYTE_INDEX_SCALE"), (5, u "LOG2_ARRAY_CHAR_INDEX_SCALE"), (5, u "LOG2_ARRAY_SHORT_INDEX_SCALE"), (18, u "LOG2_ARRAY_FLOAT_INDEX_SCALE"), (24, u "LOG2_ARRAY_DOUBLE_INDEX_SCALE"), (89, u "T_BOOLEAN"), (2, u "T_CHAR"), (1, u "T_FLOAT"), (1, u "T_DOUBLE"), (1, u "T_BYTE"), (1, u "T_SHORT"), (1, u "T_INT"), (1, u "T_LONG"), (1, u "SOFT_MAX_ARRAY_LENGTH")] 83

def k14m0 : Method := { name := "<init>", desc := "()V", sig := { parameters := [], returnType := none }, accessFlags := 2, code := none }
/-- jdk/internal/util/ArraysSupport -/
def k14 : Class := { plain "jdk/internal/util/ArraysSupport" (some 0) with
  accessFlags := 33
  interfaces := #[]
  cf := some (fileOf pool14 21 #[] #[{ accessFlags := 2, nameIndex := 9, descriptorIndex := 19, attributes := #[] }] 33 16 #[] #[{ accessFlags := 24, nameIndex := 28, descriptorIndex := 29, attributes := #[] }, { accessFlags := 26, nameIndex := 38, descriptorIndex := 39, attributes := #[] }, { accessFlags := 25, nameIndex := 121, descriptorIndex := 25, attributes := #[] }, { accessFlags := 25, nameIndex := 131, descriptorIndex := 25, attributes := #[] }, { accessFlags := 25, nameIndex := 137, descriptorIndex := 25, attributes := #[] }, { accessFlags := 25, nameIndex := 143, descriptorIndex := 25, attributes := #[] }, { accessFlags := 25, nameIndex := 53, descriptorIndex := 25, attributes := #[] }, { accessFlags := 25, nameIndex := 24, descriptorIndex := 25, attributes := #[] }, { accessFlags := 25, nameIndex := 162, descriptorIndex := 25, attributes := #[] }, { accessFlags := 25, nameIndex := 187, descriptorIndex := 25, attributes := #[] }, { accessFlags := 26, nameIndex := 48, descriptorIndex := 25, attributes := #[] }, { accessFlags := 25, nameIndex := 277, descriptorIndex := 25, attributes := #[] }, { accessFlags := 25, nameIndex := 280, descriptorIndex := 25, attributes := #[] }, { accessFlags := 25, nameIndex := 282, descriptorIndex := 25, attributes := #[] }, { accessFlags := 25, nameIndex := 284, descriptorIndex := 25, attributes := #[] }, { accessFlags := 25, nameIndex := 286, descriptorIndex := 25, attributes := #[] }, { accessFlags := 25, nameIndex := 288, descriptorIndex := 25, attributes := #[] }, { accessFlags := 25, nameIndex := 290, descriptorIndex := 25, attributes := #[] }, { accessFlags := 25, nameIndex := 292, descriptorIndex := 25, attributes := #[] }, { accessFlags := 26, nameIndex := 108, descriptorIndex := 109, attributes := #[] }, { accessFlags := 25, nameIndex := 294, descriptorIndex := 25, attributes := #[] }])
  fields := #[{ name := "U", type := (.object "jdk/internal/misc/Unsafe"), accessFlags := 24, slot := 0, constantValue := 0 }, { name := "BIG_ENDIAN", type := .boolean, accessFlags := 26, slot := 1, constantValue := 0 }, { name := "LOG2_ARRAY_BOOLEAN_INDEX_SCALE", type := .int, accessFlags := 25, slot := 2, constantValue := 0 }, { name := "LOG2_ARRAY_BYTE_INDEX_SCALE", type := .int, accessFlags := 25, slot := 3, constantValue := 0 }, { name := "LOG2_ARRAY_CHAR_INDEX_SCALE", type := .int, accessFlags := 25, slot := 4, constantValue := 0 }, { name := "LOG2_ARRAY_SHORT_INDEX_SCALE", type := .int, accessFlags := 25, slot := 5, constantValue := 0 }, { name := "LOG2_ARRAY_INT_INDEX_SCALE", type := .int, accessFlags := 25, slot := 6, constantValue := 0 }, { name := "LOG2_ARRAY_LONG_INDEX_SCALE", type := .int, accessFlags := 25, slot := 7, constantValue := 0 }, { name := "LOG2_ARRAY_FLOAT_INDEX_SCALE", type := .int, accessFlags := 25, slot := 8, constantValue := 0 }, { name := "LOG2_ARRAY_DOUBLE_INDEX_SCALE", type := .int, accessFlags := 25, slot := 9, constantValue := 0 }, { name := "LOG2_BYTE_BIT_SIZE", type := .int, accessFlags := 26, slot := 10, constantValue := 0 }, { name := "T_BOOLEAN", type := .int, accessFlags := 25, slot := 11, constantValue := 0 }, { name := "T_CHAR", type := .int, accessFlags := 25, slot := 12, constantValue := 0 }, { name := "T_FLOAT", type := .int, accessFlags := 25, slot := 13, constantValue := 0 }, { name := "T_DOUBLE", type := .int, accessFlags := 25, slot := 14, constantValue := 0 }, { name := "T_BYTE", type := .int, accessFlags := 25, slot := 15, constantValue := 0 }, { name := "T_SHORT", type := .int, accessFlags := 25, slot := 16, constantValue := 0 }, { name := "T_INT", type := .int, accessFlags := 25, slot := 17, constantValue := 0 }, { name := "T_LONG", type := .int, accessFlags := 25, slot := 18, constantValue := 0 }, { name := "JLA", type := (.object "jdk/internal/access/JavaLangAccess"), accessFlags := 26, slot := 19, constantValue := 0 }, { name := "SOFT_MAX_ARRAY_LENGTH", type := .int, accessFlags := 25, slot := 20, constantValue := 0 }]
  methods := #[k14m0]
  instanceTypes := #[]
  staticTypes := #[(.object "jdk/internal/misc/Unsafe"), .boolean, .int, .int, .int, .int, .int, .int, .int, .int, .int, .int, .int, .int, .int, .int, .int, .int, .int, (.object "jdk/internal/access/JavaLangAccess"), .int]
  resolved := Array.replicate 378 none
  statics := none }

def pool15 : Array CpInfo := pool [(1, u "java/lang/Cloneable"), (0, .class_ 1), (0, u "java/lang/Object"), (0, .class_ 3)] 3

/-- java/lang/Cloneable -/
def k15 : Class := { plain "java/lang/Cloneable" (some 0) with
  accessFlags := 1537
  interfaces := #[]
  cf := some (fileOf pool15 2 #[] #[] 1537 4 #[] #[])
  fields := #[]
  methods := #[]
  instanceTypes := #[]
  staticTypes := #[]
  resolved := Array.replicate 8 none
  statics := none }

/-- the primitive byte -/
def k16 : Class := { plain "byte" none with kind := .primitive 'B', accessFlags := 0x411 }
/-- [B -/
def k17 : Class := { plain "[B" (some 0) with kind := .array 16 .byte, interfaces := #[15, 6], accessFlags := 1041 }

/-- the primitive int -/
def k18 : Class := { plain "int" none with kind := .primitive 'I', accessFlags := 0x411 }
/-- [I -/
def k19 : Class := { plain "[I" (some 0) with kind := .array 18 .int, interfaces := #[15, 6], accessFlags := 1041 }

def heap : Heap := #[{ cls := 4, slots := #[.ref 3], vm := .statics 4 },
  { cls := 11, slots := #[.long 0, .int 1, .null, .int 0, .null, .int 0, .int 0], vm := .statics 11 },
  { cls := 13, slots := #[.null, .null, .null], vm := .statics 13 },
  { cls := 4, slots := #[.long 9223372036854775807, .long 0], vm := .none }]
def classes : Array Class := #[k0, k1, k2, k3, k4, k5, k6, k7, k8, k9, k10, k11, k12, k13, k14, k15, k16, k17, k18, k19]
def interned : List (Array UInt16 × Addr) := []
def slotsUsed : Nat := 13
def theMethod : MethodId := ⟨1, 1⟩
def args0 : Array Value := #[.long 1, .long 9, .long 3, .long 4, .int 5]
def aboutOver (below : List Frame) : State where
  vm := { classes := classes, interned := interned.toArray }
  heap := heap
  slotsUsed := slotsUsed
  threads := #[{ frames := .invoking theMethod args0 :: below }]
def below0 : List Frame := [.native { method := ⟨0, 0⟩, args := #[] }]
def about1 : State := aboutOver below0
def p0 : Program := .bare "" "" ""
def e0 : Env := launch0.env 0 0 0
theorem w_frames : about1.frames = Frame.invoking theMethod args0 :: below0 := rfl
set_option maxRecDepth 65536 in
theorem w_args : argsFit about1.vm theMethod args0 = true := by decide +kernel
set_option maxRecDepth 65536 in
theorem w_heap : heapFits about1 = true := by decide +kernel
set_option maxRecDepth 65536 in
theorem w_runnable : about1.curStatus? = some .runnable := by decide +kernel
set_option maxRecDepth 65536 in
theorem w_alone : about1.alone = true := by decide +kernel
set_option maxRecDepth 65536 in
theorem w_named : about1.methodNamed? x = some theMethod := by decide +kernel
set_option maxRecDepth 65536 in
theorem w_hears : about1.hears theMethod below0 = true := by decide +kernel
set_option maxRecDepth 65536 in
theorem w_ripe : about1.ripe theMethod args0 below0 = true := by decide +kernel
theorem w_running : about1.status = .running := rfl
set_option maxRecDepth 65536 in
theorem w_room : about1.hasRoom e0.platform room_1 = true :=
  launch0.hasRoom_least _ room_1 (by decide +kernel) (by decide +kernel) (by decide +kernel) (by decide +kernel) (by decide +kernel) (by decide +kernel)
theorem allAtoms_all (ts : List Jvm.Cond) (a : Array Jvm.Value) (st : Jvm.State) : (allAtoms ts).before a st = ts.all (fun c => c.before a st) := by
  induction ts with
  | nil => rfl
  | cons c t ih =>
    show (Jvm.Cond.and c (allAtoms t)).before a st = _
    rw [Jvm.Cond.before_and, ih, List.all_cons]
def words1 : List Jvm.Cond := Jvm.Cond.code x code maxLocals ret :: tables_1
/-- a 'code' word, met by the world's own term for the bytes: nothing is compared byte by byte -/
theorem code_word {y : MethodName} {bytes : ByteArray} {mx : Nat} {rt : Option FieldType} {a : Array Value} {s : State} {m : MethodId} {meth : Method} {c : Code} (h1 : s.methodNamed? y = some m) (h2 : s.vm.method? m = some meth) (h3 : meth.code = some c) (h4 : c.code = bytes)
    (h5 : (c.maxLocals == mx && c.exceptionTable.isEmpty && decide (c.maxStack ≤ mostOperands) && decide (meth.sig.returnType = rt) && !meth.locks && decide (parseMethodDescriptor y.desc = some meth.sig)) = true) : (Jvm.Cond.code y bytes mx rt).before a s = true := by
  simp only [Bool.and_eq_true, beq_iff_eq, Bool.not_eq_true', decide_eq_true_eq] at h5
  obtain ⟨⟨⟨⟨⟨g1, g2⟩, g3⟩, g4⟩, g5⟩, g6⟩ := h5
  simp [Cond.before, Cond.holds, Cond.value, h1, h2, h3, h4, g1, g2, g3, g4, g5, g6]
def isCode : Jvm.Cond → Bool
  | .code _ _ _ _ => true
  | _ => false
theorem all_split {L : List Jvm.Cond} {P : Jvm.Cond → Bool} (h1 : L.all (fun c => isCode c || P c) = true) (h2 : ∀ c ∈ L.filter isCode, P c = true) : L.all P = true := by
  refine List.all_eq_true.mpr fun c hc => ?_
  have h := List.all_eq_true.mp h1 c hc
  rcases Bool.eq_false_or_eq_true (isCode c) with hi | hi
  · exact h2 c (List.mem_filter.mpr ⟨hc, hi⟩)
  · simpa [hi] using h
set_option maxRecDepth 65536 in
theorem w_c0 : (Jvm.Cond.code x code maxLocals ret).before args0 about1 = true := code_word (m := ⟨1, 1⟩) (meth := k1m1) (c := k1c1) (by decide +kernel) rfl rfl rfl (by decide +kernel)
set_option maxRecDepth 65536 in
theorem w_c1 : (Jvm.Cond.code ({ cls := "com/example/rolling_rung/rollingrung/cli/BenchReport$Operation", name := "<init>", desc := "(ZJJJZLjava/lang/String;)V" } : Jvm.MethodName) prog_9_method_1_code (10 : Nat) (Option.none : Option Jvm.ClassFile.FieldType)).before args0 about1 = true := code_word (m := ⟨3, 0⟩) (meth := k3m0) (c := k3c0) (by decide +kernel) rfl rfl rfl (by decide +kernel)
set_option maxRecDepth 65536 in
theorem w_c2 : (Jvm.Cond.code ({ cls := "java/lang/Record", name := "<init>", desc := "()V" } : Jvm.MethodName) jdk_30_method_1_code (1 : Nat) (Option.none : Option Jvm.ClassFile.FieldType)).before args0 about1 = true := code_word (m := ⟨2, 0⟩) (meth := k2m0) (c := k2c0) (by decide +kernel) rfl rfl rfl (by decide +kernel)
set_option maxRecDepth 65536 in
theorem w_c3 : (Jvm.Cond.code ({ cls := "java/lang/Object", name := "<init>", desc := "()V" } : Jvm.MethodName) object_method_1_code (1 : Nat) (Option.none : Option Jvm.ClassFile.FieldType)).before args0 about1 = true := code_word (m := ⟨0, 0⟩) (meth := k0m0) (c := k0c0) (by decide +kernel) rfl rfl rfl (by decide +kernel)
set_option maxRecDepth 65536 in
theorem w_c4 : (Jvm.Cond.code ({ cls := "com/example/rolling_rung/rollingrung/cli/BenchReport$Change", name := "<init>", desc := "(JJ)V" } : Jvm.MethodName) prog_7_method_1_code (5 : Nat) (Option.none : Option Jvm.ClassFile.FieldType)).before args0 about1 = true := code_word (m := ⟨4, 0⟩) (meth := k4m0) (c := k4c0) (by decide +kernel) rfl rfl rfl (by decide +kernel)
set_option maxRecDepth 65536 in
theorem w_c5 : (Jvm.Cond.code ({ cls := "java/lang/Math", name := "max", desc := "(JJ)J" } : Jvm.MethodName) jdk_29_method_66_code (4 : Nat) (Option.some Jvm.ClassFile.FieldType.long)).before args0 about1 = true := code_word (m := ⟨5, 1⟩) (meth := k5m1) (c := k5c1) (by decide +kernel) rfl rfl rfl (by decide +kernel)
set_option maxRecDepth 65536 in
theorem w_c6 : (Jvm.Cond.code ({ cls := "java/lang/Math", name := "min", desc := "(JJ)J" } : Jvm.MethodName) jdk_29_method_70_code (4 : Nat) (Option.some Jvm.ClassFile.FieldType.long)).before args0 about1 = true := code_word (m := ⟨5, 2⟩) (meth := k5m2) (c := k5c2) (by decide +kernel) rfl rfl rfl (by decide +kernel)
set_option maxRecDepth 65536 in
theorem w_c7 : (Jvm.Cond.code ({ cls := "com/example/rolling_rung/rollingrung/cli/BenchReport$Change", name := "spans", desc := "(Lcom/example/rolling_rung/rollingrung/cli/BenchReport$Operation;)Z" } : Jvm.MethodName) prog_7_method_2_code (2 : Nat) (Option.some Jvm.ClassFile.FieldType.boolean)).before args0 about1 = true := code_word (m := ⟨4, 1⟩) (meth := k4m1) (c := k4c1) (by decide +kernel) rfl rfl rfl (by decide +kernel)
set_option maxRecDepth 65536 in
theorem w_c8 : (Jvm.Cond.code ({ cls := "com/example/rolling_rung/rollingrung/cli/BenchReport$Operation", name := "began", desc := "()J" } : Jvm.MethodName) prog_9_method_6_code (1 : Nat) (Option.some Jvm.ClassFile.FieldType.long)).before args0 about1 = true := code_word (m := ⟨3, 1⟩) (meth := k3m1) (c := k3c1) (by decide +kernel) rfl rfl rfl (by decide +kernel)
set_option maxRecDepth 65536 in
theorem w_c9 : (Jvm.Cond.code ({ cls := "java/lang/String", name := "valueOf", desc := "(C)Ljava/lang/String;" } : Jvm.MethodName) jdk_42_method_139_code (1 : Nat) (Option.some (Jvm.ClassFile.FieldType.object "java/lang/String"))).before args0 about1 = true := code_word (m := ⟨11, 1⟩) (meth := k11m1) (c := k11c1) (by decide +kernel) rfl rfl rfl (by decide +kernel)
set_option maxRecDepth 65536 in
theorem w_c10 : (Jvm.Cond.code ({ cls := "java/lang/StringLatin1", name := "canEncode", desc := "(C)Z" } : Jvm.MethodName) jdk_43_method_3_code (1 : Nat) (Option.some Jvm.ClassFile.FieldType.boolean)).before args0 about1 = true := code_word (m := ⟨12, 1⟩) (meth := k12m1) (c := k12c1) (by decide +kernel) rfl rfl rfl (by decide +kernel)
set_option maxRecDepth 65536 in
theorem w_c11 : (Jvm.Cond.code ({ cls := "java/lang/StringLatin1", name := "toBytes", desc := "(C)[B" } : Jvm.MethodName) jdk_43_method_46_code (1 : Nat) (Option.some (Jvm.ClassFile.FieldType.array Jvm.ClassFile.FieldType.byte))).before args0 about1 = true := code_word (m := ⟨12, 2⟩) (meth := k12m2) (c := k12c2) (by decide +kernel) rfl rfl rfl (by decide +kernel)
set_option maxRecDepth 65536 in
theorem w_c12 : (Jvm.Cond.code ({ cls := "java/lang/String", name := "<init>", desc := "([BB)V" } : Jvm.MethodName) jdk_42_method_151_code (3 : Nat) (Option.none : Option Jvm.ClassFile.FieldType)).before args0 about1 = true := code_word (m := ⟨11, 2⟩) (meth := k11m2) (c := k11c2) (by decide +kernel) rfl rfl rfl (by decide +kernel)
set_option maxRecDepth 65536 in
theorem w_c13 : (Jvm.Cond.code ({ cls := "com/example/rolling_rung/rollingrung/cli/BenchReport$Operation", name := "ended", desc := "()J" } : Jvm.MethodName) prog_9_method_7_code (1 : Nat) (Option.some Jvm.ClassFile.FieldType.long)).before args0 about1 = true := code_word (m := ⟨3, 2⟩) (meth := k3m2) (c := k3c2) (by decide +kernel) rfl rfl rfl (by decide +kernel)
def codes1 : List Jvm.Cond := [Jvm.Cond.code x code maxLocals ret, Jvm.Cond.code ({ cls := "com/example/rolling_rung/rollingrung/cli/BenchReport$Operation", name := "<init>", desc := "(ZJJJZLjava/lang/String;)V" } : Jvm.MethodName) prog_9_method_1_code (10 : Nat) (Option.none : Option Jvm.ClassFile.FieldType), Jvm.Cond.code ({ cls := "java/lang/Record", name := "<init>", desc := "()V" } : Jvm.MethodName) jdk_30_method_1_code (1 : Nat) (Option.none : Option Jvm.ClassFile.FieldType), Jvm.Cond.code ({ cls := "java/lang/Object", name := "<init>", desc := "()V" } : Jvm.MethodName) object_method_1_code (1 : Nat) (Option.none : Option Jvm.ClassFile.FieldType), Jvm.Cond.code ({ cls := "com/example/rolling_rung/rollingrung/cli/BenchReport$Change", name := "<init>", desc := "(JJ)V" } : Jvm.MethodName) prog_7_method_1_code (5 : Nat) (Option.none : Option Jvm.ClassFile.FieldType), Jvm.Cond.code ({ cls := "java/lang/Math", name := "max", desc := "(JJ)J" } : Jvm.MethodName) jdk_29_method_66_code (4 : Nat) (Option.some Jvm.ClassFile.FieldType.long), Jvm.Cond.code ({ cls := "java/lang/Math", name := "min", desc := "(JJ)J" } : Jvm.MethodName) jdk_29_method_70_code (4 : Nat) (Option.some Jvm.ClassFile.FieldType.long), Jvm.Cond.code ({ cls := "com/example/rolling_rung/rollingrung/cli/BenchReport$Change", name := "spans", desc := "(Lcom/example/rolling_rung/rollingrung/cli/BenchReport$Operation;)Z" } : Jvm.MethodName) prog_7_method_2_code (2 : Nat) (Option.some Jvm.ClassFile.FieldType.boolean), Jvm.Cond.code ({ cls := "com/example/rolling_rung/rollingrung/cli/BenchReport$Operation", name := "began", desc := "()J" } : Jvm.MethodName) prog_9_method_6_code (1 : Nat) (Option.some Jvm.ClassFile.FieldType.long), Jvm.Cond.code ({ cls := "java/lang/String", name := "valueOf", desc := "(C)Ljava/lang/String;" } : Jvm.MethodName) jdk_42_method_139_code (1 : Nat) (Option.some (Jvm.ClassFile.FieldType.object "java/lang/String")), Jvm.Cond.code ({ cls := "java/lang/StringLatin1", name := "canEncode", desc := "(C)Z" } : Jvm.MethodName) jdk_43_method_3_code (1 : Nat) (Option.some Jvm.ClassFile.FieldType.boolean), Jvm.Cond.code ({ cls := "java/lang/StringLatin1", name := "toBytes", desc := "(C)[B" } : Jvm.MethodName) jdk_43_method_46_code (1 : Nat) (Option.some (Jvm.ClassFile.FieldType.array Jvm.ClassFile.FieldType.byte)), Jvm.Cond.code ({ cls := "java/lang/String", name := "<init>", desc := "([BB)V" } : Jvm.MethodName) jdk_42_method_151_code (3 : Nat) (Option.none : Option Jvm.ClassFile.FieldType), Jvm.Cond.code ({ cls := "com/example/rolling_rung/rollingrung/cli/BenchReport$Operation", name := "ended", desc := "()J" } : Jvm.MethodName) prog_9_method_7_code (1 : Nat) (Option.some Jvm.ClassFile.FieldType.long)]
set_option maxRecDepth 65536 in
theorem codes_eq : words1.filter isCode = codes1 := rfl
theorem w_codes : ∀ c ∈ words1.filter isCode, c.before args0 about1 = true := by
  rw [codes_eq]
  intro c hc
  simp only [codes1, List.mem_cons, List.not_mem_nil, or_false] at hc
  rcases hc with rfl | rfl | rfl | rfl | rfl | rfl | rfl | rfl | rfl | rfl | rfl | rfl | rfl | rfl
  · exact w_c0
  · exact w_c1
  · exact w_c2
  · exact w_c3
  · exact w_c4
  · exact w_c5
  · exact w_c6
  · exact w_c7
  · exact w_c8
  · exact w_c9
  · exact w_c10
  · exact w_c11
  · exact w_c12
  · exact w_c13
set_option maxRecDepth 65536 in
theorem w_t1 : (words1.take 24).all (fun c => isCode c || c.before args0 about1) = true := by decide +kernel
set_option maxRecDepth 65536 in
theorem w_t2 : ((words1.drop 24).take 24).all (fun c => isCode c || c.before args0 about1) = true := by decide +kernel
set_option maxRecDepth 65536 in
theorem w_t3 : (((words1.drop 24).drop 24).take 24).all (fun c => isCode c || c.before args0 about1) = true := by decide +kernel
set_option maxRecDepth 65536 in
theorem w_t4 : (((words1.drop 24).drop 24).drop 24).all (fun c => isCode c || c.before args0 about1) = true := by decide +kernel
theorem w_tables : (allAtoms (Jvm.Cond.code x code maxLocals ret :: tables_1)).before args0 about1 = true := by
  rw [allAtoms_all]
  show words1.all (fun c => c.before args0 about1) = true
  refine all_split ?_ w_codes
  rw [← List.take_append_drop 24 words1, List.all_append, w_t1, ← List.take_append_drop 24 (words1.drop 24), List.all_append, w_t2, ← List.take_append_drop 24 ((words1.drop 24).drop 24), List.all_append, w_t3, w_t4]
  rfl
set_option maxRecDepth 65536 in
theorem w_rest : rest_1_c.before args0 about1 = true := by decide +kernel
set_option maxRecDepth 65536 in
theorem w_case : (Jvm.Cond.and given_1 narrow_1).before args0 about1 = true := by decide +kernel
theorem w_applies : (headSpec (Jvm.Cond.code x code maxLocals ret :: tables_1) room_1).applies x e0.platform about1 = true :=
  (Spec.applies_iff w_frames).mpr ⟨w_running, w_runnable, w_alone, w_named, w_hears, w_ripe, w_room, w_tables⟩
theorem atStart : AtStart classFile x code maxLocals ret World_1 tables_1 room_1 Calls_1 rest_1 Pre_1 launch0 p0 e0 about1 theMethod args0 below0 :=
  ⟨lists_1, trivial, launch0.admits_env _ _ _, launch0.least_env, fairChoices_fair.cas, fairChoices_fair.clock, w_frames, w_args, w_heap, w_applies, trivial, w_rest, w_case⟩
end start1
theorem witness_1 : WitnessClaimed_1 := ⟨start1.p0, start1.e0, start1.about1, start1.theMethod, start1.args0, start1.below0, start1.atStart⟩
end Jvm.Pilot.@@N@@
