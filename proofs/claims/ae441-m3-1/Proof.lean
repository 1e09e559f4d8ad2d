import JvmDerived
import JvmDerived.Pilot.@@N@@Statement
import JvmDerived.Pilot.@@N@@Code
set_option linter.unusedVariables false
set_option linter.unusedSimpArgs false
namespace Jvm.RoadKit
open Sem ClassFile Op Lib Jvm.Stand Jvm.Free Jvm.LawKit
section New
variable {p : Program} {l : Launch} {e : Env} {R : Room} {s : State} {m : MethodId} {args : Array Value} {below : List Frame} {meth : Method} {c : Code} {T : State} {locs : List Loc} {cells slots : Nat}
theorem retI (X : Stand p l e R s m args below meth c T locs cells slots) (hx : p.tables.exec = Jvm.exec) {pc : Nat} {Ls : Array Slot} {z : Int32} {rest : List Value} (hret : meth.sig.returnType = some .int) (hd : decode c.code pc = .ok (.ireturn, 1)) {fs : List Frame}
    (hl : ∀ (f : JFrame) (acts : List Action), f.method = m → f.locked = none → f.entered = [] → (doReturn e (T.setTop f) acts (some (.int z))).1 = T.setFrames fs) : Steps p.tables e below (T.setTop (mkF m pc Ls (.int z :: rest))) (T.setFrames fs) := by
  have hm' : T.vm.method? m = some meth := X.method'
  have hn : narrow .int (.int z) = .int z := rfl
  show Steps p.tables e below (T.setTop { method := m, pc := pc, locals := Ls, stack := _ :: rest, locked := none }) _
  jvm_step X.here [X.here.top, hx, hd, hm', hret, hn]
  first | (intro acts; rw [hl _ acts rfl rfl rfl]) | rw [hl _ _ rfl rfl rfl]
  exact Steps.refl _
end New
end Jvm.RoadKit
@@BLOCK:NumsL.lean.txt@@
namespace Jvm.Pilot.@@N@@
open Jvm Jvm.ClassFile Sem Op Lib Jvm.Free Jvm.Stand Jvm.LawKit Jvm.RoadKit Bundle Jvm.Pilot.@@N@@.Jvm.D
theorem own_eqi {args : Array Value} {first s : State} {o : Option Outcome} {idx : List Nat} {t : Term} {k : Int32} (h : (Jvm.Cond.eq t (.int k)).value args first o s idx = some true) : t.eval args first o idx s = some (.int k) := by
  simp only [Cond.value, Term.eval] at h
  cases ht : t.eval args first o idx s with
  | none => simp [ht] at h
  | some x => cases x <;> simp [ht] at h ⊢; exact h
theorem own_eql {args : Array Value} {first s : State} {o : Option Outcome} {idx : List Nat} {t : Term} {k : Int64} (h : (Jvm.Cond.eq t (.long k)).value args first o s idx = some true) : t.eval args first o idx s = some (.long k) := by
  simp only [Cond.value, Term.eval] at h
  cases ht : t.eval args first o idx s with
  | none => simp [ht] at h
  | some x => cases x <;> simp [ht] at h ⊢; exact h
theorem own_eqr {args : Array Value} {first s : State} {o : Option Outcome} {idx : List Nat} {t u : Term} {a : Addr} (hu : u.eval args first o idx s = some (.ref a)) (h : (Jvm.Cond.eq t u).value args first o s idx = some true) : t.eval args first o idx s = some (.ref a) := by
  simp only [Cond.value, hu] at h
  cases ht : t.eval args first o idx s with
  | none => simp [ht] at h
  | some x => cases x <;> simp [ht] at h ⊢; exact h
theorem own_fld {args : Array Value} {s : State} {t : Term} {x : Addr} {C n d : String} {v : Value} (ht : t.eval args s none [] s = some (.ref x)) (h : (Term.field t C n d).eval args s none [] s = some v) : Fld s s.heap x C n d v := Fld.start ((fld_at ht).symm.trans h)
theorem own_exa_ns {Z : State} {h : Heap} {a : Addr} {C : String} (F : Exa Z h a C) : ∀ c : Cell, h[a]? = some c → c.vm.isStatics = false := fun c hc => by
  obtain ⟨cell, k, h1, -, -, h4, -⟩ := F
  cases h1.symm.trans hc
  exact h4
theorem own_sta_keep {Z : State} {h h' : Heap} {C n d : String} {v : Value} {ws : List Addr} (F : Sta Z h C n d v) (K : Keep h h' ws) (hn : ∀ x ∈ ws, ∀ c : Cell, h[x]? = some c → c.vm.isStatics = false) : Sta Z h' C n d v := by
  obtain ⟨cf, i, k, f, st, cell, h1, h2, h3, h4, h5, h6, h7⟩ := F
  refine ⟨cf, i, k, f, st, cell, h1, h2, h3, h4, K.2.1 st cell h5 (fun q => ?_), h6, h7⟩
  rw [hn st q cell h5] at h6
  cases h6
theorem own_c255 (x : Int32) : ¬ (255 : Int32) < ((x &&& (255 : Int32)).toUInt32.toUInt16.toUInt32.toInt32) := by
  have e : (x &&& (255 : Int32)).toInt = x.toInt % 2 ^ 8 := Jvm.Kit.i32_mask x 255 (k := 8) (by decide) (by decide)
  have q : ((x &&& (255 : Int32)).toUInt32.toUInt16.toUInt32.toInt32) = (x &&& (255 : Int32)) := by
    apply Int32.toBitVec_inj.mp
    show ((x.toBitVec &&& 255#32).setWidth 16).setWidth 32 = x.toBitVec &&& 255#32
    apply BitVec.eq_of_toNat_eq
    have h : (x.toBitVec &&& 255#32).toNat < 256 := by
      rw [BitVec.toNat_and]
      exact Nat.lt_of_le_of_lt Nat.and_le_right (by decide)
    simp only [BitVec.toNat_setWidth]
    omega
  rw [q, Int32.lt_iff_toInt_lt, e]
  show ¬ (255 : Int) < _
  omega
theorem own_even (x : Int32) : (x &&& (-2 : Int32)) % (2 : Int32) = 0 := by
  have h : ∃ y : Int, (x &&& (-2 : Int32)).toInt = 2 * y := by
    refine ⟨(x &&& (-2 : Int32)).toInt / 2, ?_⟩
    have hb : (x &&& (-2 : Int32)).toBitVec.toNat % 2 = 0 := by
      show (x.toBitVec &&& 4294967294#32).toNat % 2 = 0
      rw [BitVec.toNat_and]
      have : ((x.toBitVec.toNat &&& (4294967294#32).toNat)) % 2 = (x.toBitVec.toNat % 2) &&& ((4294967294#32).toNat % 2) := by
        have := Nat.and_mod_two_pow (a := x.toBitVec.toNat) (b := (4294967294#32).toNat) (n := 1)
        simpa using this
      rw [this]
      show _ &&& 0 = 0
      simp
    have ht : (x &&& (-2 : Int32)).toInt = (x &&& (-2 : Int32)).toBitVec.toInt := rfl
    rw [ht, BitVec.toInt_eq_toNat_cond]
    split <;> omega
  obtain ⟨y, hy⟩ := h
  apply Int32.toInt_inj.mp
  rw [Int32.toInt_mod, hy]
  show (2 * y).tmod 2 = 0
  exact Int.mul_tmod_right 2 y
theorem d_jdk_43m3_0 : decode jdk_43_method_3_code 0 = .ok (.iload_n 0, 1) := by decide +kernel
theorem d_jdk_43m3_1 : decode jdk_43_method_3_code 1 = .ok (.sipush 255, 3) := by decide +kernel
theorem d_jdk_43m3_4 : decode jdk_43_method_3_code 4 = .ok (.if_icmp .gt 7, 3) := by decide +kernel
theorem d_jdk_43m3_7 : decode jdk_43_method_3_code 7 = .ok (.iconst 1, 1) := by decide +kernel
theorem d_jdk_43m3_8 : decode jdk_43_method_3_code 8 = .ok (.goto 4, 3) := by decide +kernel
theorem d_jdk_43m3_12 : decode jdk_43_method_3_code 12 = .ok (.ireturn, 1) := by decide +kernel
theorem pn_0 : plainName "java/lang/StringLatin1" = true := by first | (simp [plainName, overriddenIn]; done) | decide +kernel
theorem ef_can (mM : MethodId) (x0 : Int32) : entryFrame mM #[(.int x0)] 1 = mkF mM 0 #[.val (.int x0)] [] := by first | (simp [entryFrame, mkF, argsToLocals, Value.category]; done) | rfl
def Q_can (Z : State) (p : Int32) (h0 : Heap) (n0 : Nat) (v_ : Option Value) (h_ : Heap) (L_ : List Loc) : Prop := v_ = some (.int (1 : Int32)) ∧ Fr n0 L_ ∧ h_ = h0
set_option maxRecDepth 65536 in
set_option maxHeartbeats 40000000 in
theorem rm_can (l : Launch) (Z : State) (a0 : Array Value) (hw : ∀ d ∈ tables_1, d.before a0 Z = true) (ws : List Jvm.Cond) (p : Int32) (h0 : Heap) (n0 : Nat) (Z0 : n0 ≤ h0.size) (hp : ¬ (255 : Int32) < p) :
    MetFree l (⟨"java/lang/StringLatin1", "canEncode", "(C)Z"⟩ : MethodName) (head1 (Jvm.Cond.code (⟨"java/lang/StringLatin1", "canEncode", "(C)Z"⟩ : MethodName) jdk_43_method_3_code 1 (some .boolean) :: ws) ({ frames := 0, cells := 0, slots := 0, locals := 0 } : Room)) (fun aa_ U_ => aa_ = #[(.int p)] ∧ Z.Warmed39 U_.vm ∧ U_.heap = h0) (fun _ _ _ _ _ => True) (fun _ U_ o_ U'_ => ∃ v_ L_, o_ = .returned v_ ∧ Q_can Z p h0 n0 v_ U'_.heap L_ ∧ FrameEnd U_ o_ U'_ L_ ({ frames := 0, cells := 0, slots := 0, locals := 0 } : Room).cells ({ frames := 0, cells := 0, slots := 0, locals := 0 } : Room).slots) := by
  refine MetFree.of_bodySF (plainFor_of_name pn_0) hisR ?_
  intro pP eE sS mM argsA below meth cC s₁ Bd hml0 hP hK
  obtain ⟨rfl, hZ, hh⟩ := hP
  have hx := Bd.exec
  have hby := Bd.bytes
  have hml : cC.maxLocals = 1 := hml0
  have hown : sS.vm.findClass "java/lang/StringLatin1" = some mM.cls := findClass_of_methodNamed Bd.named
  have hnm := (name_of_methodNamed Bd.named Bd.method).1
  have X0 : Stand pP l eE ({ frames := 0, cells := 0, slots := 0, locals := 0 } : Room) sS mM #[(.int p)] below meth cC s₁ [] 0 0 := Stand.of_body Bd
  have e0 : s₁.heap = h0 := by rw [← hh, Bd.state]; rfl
  have N0 := Fr.nil n0
  have pre0 : ∀ t_, Steps pP.tables eE below (s₁.setTop (mkF mM 0 #[.val (.int p)] [])) t_ → Steps pP.tables eE below (s₁.setTop (entryFrame mM #[(.int p)] 1)) t_ := fun t_ k_ => castTop (ef_can mM p) k_
  obtain ⟨fs, hr, hrun, hended, hW, hsame⟩ := X0.leave (v := some (.int (1 : Int32))) (fun h => by rw [Bd.returns] at h; cases h)
  refine ⟨_, _, pre0 _ ?_, hrun, hended, _, _, rfl, ?_, ⟨_, rfl⟩, hW, hsame.mono (by decide) (by decide)⟩
  · show Steps pP.tables eE below (s₁.setTop (mkF mM 0 #[.val (.int p)] [])) _
    refine XS.iloadN X0.here hx rfl (hb hby d_jdk_43m3_0) rfl ?_
    show Steps pP.tables eE below (s₁.setTop (mkF mM 1 #[.val (.int p)] [(.int p)])) _
    refine XS.sipush X0.here hx rfl (hb hby d_jdk_43m3_1) ?_
    show Steps pP.tables eE below (s₁.setTop (mkF mM 4 #[.val (.int p)] [(.int (255 : Int32)), (.int p)])) _
    refine XS.icmpNo X0.here hx rfl (hb hby d_jdk_43m3_4) rfl (XT.ii_gt_f hp) ?_
    show Steps pP.tables eE below (s₁.setTop (mkF mM 7 #[.val (.int p)] [])) _
    refine XS.iconst X0.here hx rfl (hb hby d_jdk_43m3_7) ?_
    show Steps pP.tables eE below (s₁.setTop (mkF mM 8 #[.val (.int p)] [(.int (1 : Int32))])) _
    refine XS.goto X0.here hx rfl (pc0 := 8) (pc' := 12) rfl (hb hby d_jdk_43m3_8) (by decide) (by decide) ?_
    show Steps pP.tables eE below (s₁.setTop (mkF mM 12 #[.val (.int p)] [(.int (1 : Int32))])) _
    exact retN X0 hx (t := .boolean) Bd.returns (by simp) (hb hby d_jdk_43m3_12) hr
  · show Q_can Z p h0 n0 _ s₁.heap _
    rw [e0]
    exact ⟨rfl, N0, rfl⟩
theorem d_jdk_43m46_0 : decode jdk_43_method_46_code 0 = .ok (.iconst 1, 1) := by decide +kernel
theorem d_jdk_43m46_1 : decode jdk_43_method_46_code 1 = .ok (.newarray .byte, 2) := by decide +kernel
theorem d_jdk_43m46_3 : decode jdk_43_method_46_code 3 = .ok (.dup, 1) := by decide +kernel
theorem d_jdk_43m46_4 : decode jdk_43_method_46_code 4 = .ok (.iconst 0, 1) := by decide +kernel
theorem d_jdk_43m46_5 : decode jdk_43_method_46_code 5 = .ok (.iload_n 0, 1) := by decide +kernel
theorem d_jdk_43m46_6 : decode jdk_43_method_46_code 6 = .ok (.i2b, 1) := by decide +kernel
theorem d_jdk_43m46_7 : decode jdk_43_method_46_code 7 = .ok (.bastore, 1) := by decide +kernel
theorem d_jdk_43m46_8 : decode jdk_43_method_46_code 8 = .ok (.areturn, 1) := by decide +kernel
theorem ef_tob (mM : MethodId) (x0 : Int32) : entryFrame mM #[(.int x0)] 1 = mkF mM 0 #[.val (.int x0)] [] := by first | (simp [entryFrame, mkF, argsToLocals, Value.category]; done) | rfl
def Q_tob (Z : State) (p : Int32) (h0 : Heap) (n0 : Nat) (v_ : Option Value) (h_ : Heap) (L_ : List Loc) : Prop := ∃ b : Addr, ∃ k : ClassId, v_ = some (.ref b) ∧ Fr n0 L_ ∧ Keep h0 h_ [] ∧ h0.size ≤ b ∧ Arv Z h_ b k .byte (1 : Int32) [(.int (nar .byte (p.toInt8.toInt32)))] (.int (0 : Int32))
set_option maxRecDepth 65536 in
set_option maxHeartbeats 40000000 in
theorem rm_tob (l : Launch) (Z : State) (a0 : Array Value) (hw : ∀ d ∈ tables_1, d.before a0 Z = true) (ws : List Jvm.Cond) (p : Int32) (h0 : Heap) (n0 : Nat) (Z0 : n0 ≤ h0.size) :
    MetFree l (⟨"java/lang/StringLatin1", "toBytes", "(C)[B"⟩ : MethodName) (head1 (Jvm.Cond.code (⟨"java/lang/StringLatin1", "toBytes", "(C)[B"⟩ : MethodName) jdk_43_method_46_code 1 (some (.array .byte)) :: ws) ({ frames := 0, cells := 1, slots := 1, locals := 0 } : Room)) (fun aa_ U_ => aa_ = #[(.int p)] ∧ Z.Warmed39 U_.vm ∧ U_.heap = h0) (fun _ _ _ _ _ => True) (fun _ U_ o_ U'_ => ∃ v_ L_, o_ = .returned v_ ∧ Q_tob Z p h0 n0 v_ U'_.heap L_ ∧ FrameEnd U_ o_ U'_ L_ ({ frames := 0, cells := 1, slots := 1, locals := 0 } : Room).cells ({ frames := 0, cells := 1, slots := 1, locals := 0 } : Room).slots) := by
  refine MetFree.of_bodySF (plainFor_of_name pn_0) hisR ?_
  intro pP eE sS mM argsA below meth cC s₁ Bd hml0 hP hK
  obtain ⟨rfl, hZ, hh⟩ := hP
  have hx := Bd.exec
  have hby := Bd.bytes
  have hml : cC.maxLocals = 1 := hml0
  have hown : sS.vm.findClass "java/lang/StringLatin1" = some mM.cls := findClass_of_methodNamed Bd.named
  have hnm := (name_of_methodNamed Bd.named Bd.method).1
  have X0 : Stand pP l eE ({ frames := 0, cells := 1, slots := 1, locals := 0 } : Room) sS mM #[(.int p)] below meth cC s₁ [] 0 0 := Stand.of_body Bd
  have e0 : s₁.heap = h0 := by rw [← hh, Bd.state]; rfl
  have N0 := Fr.nil n0
  have pre0 : ∀ t_, Steps pP.tables eE below (s₁.setTop (mkF mM 0 #[.val (.int p)] [])) t_ → Steps pP.tables eE below (s₁.setTop (entryFrame mM #[(.int p)] 1)) t_ := fun t_ k_ => castTop (ef_tob mM p) k_
  obtain ⟨T_1, h_1, k_1, X_1, e_1, E_1, A_1, st_1⟩ := newP X0 hx hZ (hw _ (List.mem_of_getElem? (i := 14) rfl)) e0 (g := (mkF mM 1 #[.val (.int p)] [(.int (1 : Int32))])) rfl (hb hby d_jdk_43m46_1) rfl (by decide) (cap := 1) (by decide) (by decide) (by decide) (by decide)
  obtain ⟨b_1, g_1⟩ : ∃ z, z = h0.size := ⟨_, rfl⟩
  rw [← g_1] at A_1 st_1
  have g_b_1 : n0 ≤ b_1 := Nat.le_trans Z0 (Nat.le_of_eq g_1.symm)
  have sz_b_1 : h0.size ≤ b_1 := Nat.le_trans (Keep.refl h0 []).1 (Nat.le_of_eq g_1.symm)
  have Z_1 : n0 ≤ h_1.size := (Nat.le_trans Z0 E_1.1)
  have K_1 : Keep h0 h_1 [] := (Keep.refl h0 []).ext E_1
  have V_b_1 : Arv Z h_1 b_1 k_1 .byte (1 : Int32) [(.int (0 : Int32))] (.int (0 : Int32)) := (Arv.new A_1 (by decide)).pad (pad_rep [] (.int (0 : Int32)) 1)
  obtain ⟨cl_2, Ar_2, qa_2, Sa_2, Na_2, Ha_2, Ga_2⟩ := V_b_1
  have hin_2 : ¬ ((0 : Int32) < 0 ∨ cl_2.slots.size ≤ ((0 : Int32)).toNatClampNeg) := inb_of Sa_2 ⟨by decide, by decide⟩
  obtain ⟨T_2, h_2, X_2, e_2, W_2, st_2⟩ := stB X_1 hx hZ e_1 Ar_2 (j := (0 : Int32)) hin_2 (g := (mkF mM 7 #[.val (.int p)] [(.int (p.toInt8.toInt32)), (.int (0 : Int32)), (.ref b_1), (.ref b_1)])) rfl rfl (hb hby d_jdk_43m46_7)
  have V_2 : Arv Z h_2 b_1 k_1 .byte (1 : Int32) [(.int (nar .byte (p.toInt8.toInt32)))] (.int (0 : Int32)) := Arv.set Ar_2 qa_2 Sa_2 Na_2 Ha_2 Ga_2 (fits_nar_byte _) W_2 0 rfl (Nat.le_of_ble_eq_true rfl)
  have Z_2 : n0 ≤ h_2.size := (Nat.le_trans Z_1 (Keep.of_wr W_2).1)
  have K_2 : Keep h0 h_2 [] := K_1.wr W_2 (Or.inr sz_b_1)
  have N_2 := Fr.snoc X_2 N0 g_b_1
  obtain ⟨fs, hr, hrun, hended, hW, hsame⟩ := X_2.leave (v := some (.ref b_1)) (fun h => by rw [Bd.returns] at h; cases h)
  refine ⟨_, _, pre0 _ ?_, hrun, hended, _, _, rfl, ?_, ⟨_, rfl⟩, hW, hsame.mono (by decide) (by decide)⟩
  · show Steps pP.tables eE below (s₁.setTop (mkF mM 0 #[.val (.int p)] [])) _
    refine XS.iconst X0.here hx rfl (hb hby d_jdk_43m46_0) ?_
    show Steps pP.tables eE below (s₁.setTop (mkF mM 1 #[.val (.int p)] [(.int (1 : Int32))])) _
    refine st_1 _ ?_
    show Steps pP.tables eE below (T_1.setTop (mkF mM 3 #[.val (.int p)] [(.ref b_1)])) _
    refine XS.dup X_1.here hx rfl (hb hby d_jdk_43m46_3) rfl rfl ?_
    show Steps pP.tables eE below (T_1.setTop (mkF mM 4 #[.val (.int p)] [(.ref b_1), (.ref b_1)])) _
    refine XS.iconst X_1.here hx rfl (hb hby d_jdk_43m46_4) ?_
    show Steps pP.tables eE below (T_1.setTop (mkF mM 5 #[.val (.int p)] [(.int (0 : Int32)), (.ref b_1), (.ref b_1)])) _
    refine XS.iloadN X_1.here hx rfl (hb hby d_jdk_43m46_5) rfl ?_
    show Steps pP.tables eE below (T_1.setTop (mkF mM 6 #[.val (.int p)] [(.int p), (.int (0 : Int32)), (.ref b_1), (.ref b_1)])) _
    refine XT.i2b X_1.here hx rfl (hb hby d_jdk_43m46_6) rfl ?_
    show Steps pP.tables eE below (T_1.setTop (mkF mM 7 #[.val (.int p)] [(.int (p.toInt8.toInt32)), (.int (0 : Int32)), (.ref b_1), (.ref b_1)])) _
    refine st_2 _ ?_
    show Steps pP.tables eE below (T_2.setTop (mkF mM 8 #[.val (.int p)] [(.ref b_1)])) _
    exact retOut X_2 hx Bd.returns rfl (Or.inr (Or.inr (Or.inr (Or.inr ⟨rfl, rfl, rfl⟩)))) (hb hby d_jdk_43m46_8) hr
  · show Q_tob Z p h0 n0 _ T_2.heap _
    rw [e_2]
    exact ⟨b_1, k_1, rfl, N_2, K_2, sz_b_1, V_2⟩
theorem d_jdk_42m151_0 : decode jdk_42_method_151_code 0 = .ok (.aload_n 0, 1) := by decide +kernel
theorem d_jdk_42m151_1 : decode jdk_42_method_151_code 1 = .ok (.invokespecial 1, 3) := by decide +kernel
theorem d_jdk_42m151_4 : decode jdk_42_method_151_code 4 = .ok (.aload_n 0, 1) := by decide +kernel
theorem d_jdk_42m151_5 : decode jdk_42_method_151_code 5 = .ok (.aload_n 1, 1) := by decide +kernel
theorem d_jdk_42m151_6 : decode jdk_42_method_151_code 6 = .ok (.putfield 9, 3) := by decide +kernel
theorem d_jdk_42m151_9 : decode jdk_42_method_151_code 9 = .ok (.aload_n 0, 1) := by decide +kernel
theorem d_jdk_42m151_10 : decode jdk_42_method_151_code 10 = .ok (.iload_n 2, 1) := by decide +kernel
theorem d_jdk_42m151_11 : decode jdk_42_method_151_code 11 = .ok (.putfield 15, 3) := by decide +kernel
theorem d_jdk_42m151_14 : decode jdk_42_method_151_code 14 = .ok (.return_, 1) := by decide +kernel
theorem pn_1 : plainName "java/lang/String" = true := by first | (simp [plainName, overriddenIn]; done) | decide +kernel
theorem ef_sinit (mM : MethodId) (x0 : Addr) (x1 : Addr) (x2 : Int32) : entryFrame mM #[(.ref x0), (.ref x1), (.int x2)] 3 = mkF mM 0 #[.val (.ref x0), .val (.ref x1), .val (.int x2)] [] := by first | (simp [entryFrame, mkF, argsToLocals, Value.category]; done) | rfl
def Q_sinit (Z : State) (a : Addr) (w : Addr) (h0 : Heap) (n0 : Nat) (v_ : Option Value) (h_ : Heap) (L_ : List Loc) : Prop := v_ = none ∧ Fr n0 L_ ∧ Keep h0 h_ [a] ∧ Fld Z h_ a "java/lang/String" "value" "[B" (.ref w) ∧ Fld Z h_ a "java/lang/String" "coder" "B" (.int (0 : Int32)) ∧ Exa Z h_ a "java/lang/String"
set_option maxRecDepth 65536 in
set_option maxHeartbeats 40000000 in
theorem rm_sinit (l : Launch) (Z : State) (a0 : Array Value) (hw : ∀ d ∈ tables_1, d.before a0 Z = true) (ws : List Jvm.Cond) (a : Addr) (w : Addr) (h0 : Heap) (n0 : Nat) (Z0 : n0 ≤ h0.size) (F_value_a : Fld Z h0 a "java/lang/String" "value" "[B" .null) (F_coder_a : Fld Z h0 a "java/lang/String" "coder" "B" (.int (0 : Int32))) (E_a : Exa Z h0 a "java/lang/String") (g_a : n0 ≤ a) :
    MetFree l (⟨"java/lang/String", "<init>", "([BB)V"⟩ : MethodName) (head1 (Jvm.Cond.code (⟨"java/lang/String", "<init>", "([BB)V"⟩ : MethodName) jdk_42_method_151_code 3 none :: ws) ({ frames := 1, cells := 0, slots := 0, locals := 12 } : Room)) (fun aa_ U_ => aa_ = #[(.ref a), (.ref w), (.int (0 : Int32))] ∧ Z.Warmed39 U_.vm ∧ U_.heap = h0) (fun _ _ _ _ _ => True) (fun _ U_ o_ U'_ => ∃ v_ L_, o_ = .returned v_ ∧ Q_sinit Z a w h0 n0 v_ U'_.heap L_ ∧ FrameEnd U_ o_ U'_ L_ ({ frames := 1, cells := 0, slots := 0, locals := 12 } : Room).cells ({ frames := 1, cells := 0, slots := 0, locals := 12 } : Room).slots) := by
  refine MetFree.of_bodySF (plainFor_of_name pn_1) hisR ?_
  intro pP eE sS mM argsA below meth cC s₁ Bd hml0 hP hK
  obtain ⟨rfl, hZ, hh⟩ := hP
  have hx := Bd.exec
  have hby := Bd.bytes
  have hml : cC.maxLocals = 3 := hml0
  have hown : sS.vm.findClass "java/lang/String" = some mM.cls := findClass_of_methodNamed Bd.named
  have hnm := (name_of_methodNamed Bd.named Bd.method).1
  have X0 : Stand pP l eE ({ frames := 1, cells := 0, slots := 0, locals := 12 } : Room) sS mM #[(.ref a), (.ref w), (.int (0 : Int32))] below meth cC s₁ [] 0 0 := Stand.of_body Bd
  have e0 : s₁.heap = h0 := by rw [← hh, Bd.state]; rfl
  have N0 := Fr.nil n0
  have pre0 : ∀ t_, Steps pP.tables eE below (s₁.setTop (mkF mM 0 #[.val (.ref a), .val (.ref w), .val (.int (0 : Int32))] [])) t_ → Steps pP.tables eE below (s₁.setTop (entryFrame mM #[(.ref a), (.ref w), (.int (0 : Int32))] 3)) t_ := fun t_ k_ => castTop (ef_sinit mM a w (0 : Int32)) k_
  obtain ⟨T_1, X_1, e_1, st_1⟩ := initO X0 hx hZ hown (hw _ (List.mem_of_getElem? (i := 19) rfl)) (hw _ (List.mem_of_getElem? (i := 20) rfl)) (hw _ (List.mem_of_getElem? (i := 21) rfl)) e0 (g := (mkF mM 1 #[.val (.ref a), .val (.ref w), .val (.int (0 : Int32))] [(.ref a)])) rfl (by rw [hml]; rfl) rfl (hb hby d_jdk_42m151_1) (by decide) (W := 0) (by show 2 * 0 + _ ≤ _; exact Nat.le_of_eq rfl) (by decide)
  obtain ⟨T_2, h_2, X_2, e_2, W_2, st_2⟩ := putF X_1 hx hZ hown (host := "") (Or.inl (hw _ (List.mem_of_getElem? (i := 22) rfl))) Via.refl e_1 F_value_a E_a (Or.inr ⟨(hw _ (List.mem_of_getElem? (i := 23) rfl)), rfl, hnm⟩) (hw _ (List.mem_of_getElem? (i := 10) rfl)) (ty := (.array .byte)) (by decide) rfl rfl (g := (mkF mM 6 #[.val (.ref a), .val (.ref w), .val (.int (0 : Int32))] [(.ref w), (.ref a)])) rfl rfl (hb hby d_jdk_42m151_6)
  have Fw_2 := F_value_a.same W_2
  have Z_2 : n0 ≤ h_2.size := (Nat.le_trans Z0 (Keep.of_wr W_2).1)
  have K_2 : Keep h0 h_2 [a] := (Keep.refl h0 [a]).wr W_2 (Or.inl (List.mem_of_getElem? (i := 0) rfl))
  have N_2 := Fr.snoc X_2 N0 g_a
  obtain ⟨T_3, h_3, X_3, e_3, W_3, st_3⟩ := putFN X_2 hx hZ hown (hw _ (List.mem_of_getElem? (i := 24) rfl)) Via.refl e_2 (F_coder_a.other W_2 (Or.inr (slot_ne (Or.inr (hw _ (List.mem_of_getElem? (i := 25) rfl))) (Or.inr (hw _ (List.mem_of_getElem? (i := 23) rfl))) (by decide) (t := .byte) (t' := (.array .byte)) (by decide) (by decide)))) (E_a.wr W_2) (Or.inr ⟨(hw _ (List.mem_of_getElem? (i := 25) rfl)), rfl, hnm⟩) (hw _ (List.mem_of_getElem? (i := 10) rfl)) (ty := .byte) (v' := (.int (0 : Int32))) (by decide) rfl rfl (g := (mkF mM 11 #[.val (.ref a), .val (.ref w), .val (.int (0 : Int32))] [(.int (0 : Int32)), (.ref a)])) rfl rfl (hb hby d_jdk_42m151_11)
  have Fw_3 := (F_coder_a.other W_2 (Or.inr (slot_ne (Or.inr (hw _ (List.mem_of_getElem? (i := 25) rfl))) (Or.inr (hw _ (List.mem_of_getElem? (i := 23) rfl))) (by decide) (t := .byte) (t' := (.array .byte)) (by decide) (by decide)))).same W_3
  have Z_3 : n0 ≤ h_3.size := (Nat.le_trans Z_2 (Keep.of_wr W_3).1)
  have K_3 : Keep h0 h_3 [a] := K_2.wr W_3 (Or.inl (List.mem_of_getElem? (i := 0) rfl))
  have N_3 := Fr.snoc X_3 N_2 g_a
  obtain ⟨fs, hr, hrun, hended, hW, hsame⟩ := X_3.leave (v := none) (fun _ => rfl)
  refine ⟨_, _, pre0 _ ?_, hrun, hended, _, _, rfl, ?_, ⟨_, rfl⟩, hW, hsame.mono (by decide) (by decide)⟩
  · show Steps pP.tables eE below (s₁.setTop (mkF mM 0 #[.val (.ref a), .val (.ref w), .val (.int (0 : Int32))] [])) _
    refine XS.aloadN X0.here hx rfl (hb hby d_jdk_42m151_0) rfl rfl ?_
    show Steps pP.tables eE below (s₁.setTop (mkF mM 1 #[.val (.ref a), .val (.ref w), .val (.int (0 : Int32))] [(.ref a)])) _
    refine st_1 _ ?_
    show Steps pP.tables eE below (T_1.setTop (mkF mM 4 #[.val (.ref a), .val (.ref w), .val (.int (0 : Int32))] [])) _
    refine XS.aloadN X_1.here hx rfl (hb hby d_jdk_42m151_4) rfl rfl ?_
    show Steps pP.tables eE below (T_1.setTop (mkF mM 5 #[.val (.ref a), .val (.ref w), .val (.int (0 : Int32))] [(.ref a)])) _
    refine XS.aloadN X_1.here hx rfl (hb hby d_jdk_42m151_5) rfl rfl ?_
    show Steps pP.tables eE below (T_1.setTop (mkF mM 6 #[.val (.ref a), .val (.ref w), .val (.int (0 : Int32))] [(.ref w), (.ref a)])) _
    refine st_2 _ ?_
    show Steps pP.tables eE below (T_2.setTop (mkF mM 9 #[.val (.ref a), .val (.ref w), .val (.int (0 : Int32))] [])) _
    refine XS.aloadN X_2.here hx rfl (hb hby d_jdk_42m151_9) rfl rfl ?_
    show Steps pP.tables eE below (T_2.setTop (mkF mM 10 #[.val (.ref a), .val (.ref w), .val (.int (0 : Int32))] [(.ref a)])) _
    refine XS.iloadN X_2.here hx rfl (hb hby d_jdk_42m151_10) rfl ?_
    show Steps pP.tables eE below (T_2.setTop (mkF mM 11 #[.val (.ref a), .val (.ref w), .val (.int (0 : Int32))] [(.int (0 : Int32)), (.ref a)])) _
    refine st_3 _ ?_
    show Steps pP.tables eE below (T_3.setTop (mkF mM 14 #[.val (.ref a), .val (.ref w), .val (.int (0 : Int32))] [])) _
    exact X_3.returnOut hx Bd.returns (hb hby d_jdk_42m151_14) hr
  · show Q_sinit Z a w h0 n0 _ T_3.heap _
    rw [e_3]
    exact ⟨rfl, N_3, K_3, (Fw_2.other W_3 (Or.inr (slot_ne (Or.inr (hw _ (List.mem_of_getElem? (i := 23) rfl))) (Or.inr (hw _ (List.mem_of_getElem? (i := 25) rfl))) (by decide) (t := (.array .byte)) (t' := .byte) (by decide) (by decide)))), Fw_3, ((E_a.wr W_2).wr W_3)⟩
theorem d_jdk_42m139_0 : decode jdk_42_method_139_code 0 = .ok (.getstatic 38, 3) := by decide +kernel
theorem d_jdk_42m139_3 : decode jdk_42_method_139_code 3 = .ok (.ifCond .eq 23, 3) := by decide +kernel
theorem d_jdk_42m139_6 : decode jdk_42_method_139_code 6 = .ok (.iload_n 0, 1) := by decide +kernel
theorem d_jdk_42m139_7 : decode jdk_42_method_139_code 7 = .ok (.invokestatic 1015, 3) := by decide +kernel
theorem pd_0 : parseMethodDescriptor "(C)Z" = some ⟨[.char], some .boolean⟩ := by decide +kernel
theorem d_jdk_42m139_10 : decode jdk_42_method_139_code 10 = .ok (.ifCond .eq 16, 3) := by decide +kernel
theorem d_jdk_42m139_13 : decode jdk_42_method_139_code 13 = .ok (.new 10, 3) := by decide +kernel
theorem d_jdk_42m139_16 : decode jdk_42_method_139_code 16 = .ok (.dup, 1) := by decide +kernel
theorem d_jdk_42m139_17 : decode jdk_42_method_139_code 17 = .ok (.iload_n 0, 1) := by decide +kernel
theorem d_jdk_42m139_18 : decode jdk_42_method_139_code 18 = .ok (.invokestatic 1018, 3) := by decide +kernel
theorem pd_1 : parseMethodDescriptor "(C)[B" = some ⟨[.char], some (.array .byte)⟩ := by decide +kernel
theorem d_jdk_42m139_21 : decode jdk_42_method_139_code 21 = .ok (.iconst 0, 1) := by decide +kernel
theorem d_jdk_42m139_22 : decode jdk_42_method_139_code 22 = .ok (.invokespecial 209, 3) := by decide +kernel
theorem pd_2 : parseMethodDescriptor "([BB)V" = some ⟨[(.array .byte), .byte], none⟩ := by decide +kernel
theorem d_jdk_42m139_25 : decode jdk_42_method_139_code 25 = .ok (.areturn, 1) := by decide +kernel
theorem ef_valof (mM : MethodId) (x0 : Int32) : entryFrame mM #[(.int x0)] 1 = mkF mM 0 #[.val (.int x0)] [] := by first | (simp [entryFrame, mkF, argsToLocals, Value.category]; done) | rfl
def Q_valof (Z : State) (p : Int32) (cs : Int32) (h0 : Heap) (n0 : Nat) (v_ : Option Value) (h_ : Heap) (L_ : List Loc) : Prop := ∃ b : Addr, ∃ d : Addr, ∃ k : ClassId, v_ = some (.ref b) ∧ Fr n0 L_ ∧ Keep h0 h_ [] ∧ h0.size ≤ b ∧ h0.size ≤ d ∧ Exa Z h_ b "java/lang/String" ∧ Fld Z h_ b "java/lang/String" "value" "[B" (.ref d) ∧ Fld Z h_ b "java/lang/String" "coder" "B" (.int (0 : Int32)) ∧ Arv Z h_ d k .byte (1 : Int32) [(.int (nar .byte (p.toInt8.toInt32)))] (.int (0 : Int32))
set_option maxRecDepth 65536 in
set_option maxHeartbeats 40000000 in
theorem rm_valof (l : Launch) (Z : State) (a0 : Array Value) (hw : ∀ d ∈ tables_1, d.before a0 Z = true) (ws : List Jvm.Cond) (p : Int32) (cs : Int32) (h0 : Heap) (n0 : Nat) (Z0 : n0 ≤ h0.size) (S_String_COMPACT_STRINGS : Sta Z h0 "java/lang/String" "COMPACT_STRINGS" "Z" (.int cs)) (hcs : ¬ cs = 0) (hp : ¬ (255 : Int32) < p) :
    MetFree l (⟨"java/lang/String", "valueOf", "(C)Ljava/lang/String;"⟩ : MethodName) (head1 (Jvm.Cond.code (⟨"java/lang/String", "valueOf", "(C)Ljava/lang/String;"⟩ : MethodName) jdk_42_method_139_code 1 (some (.object "java/lang/String")) :: ws) ({ frames := 2, cells := 2, slots := 5, locals := 27 } : Room)) (fun aa_ U_ => aa_ = #[(.int p)] ∧ Z.Warmed39 U_.vm ∧ U_.heap = h0) (fun _ _ _ _ _ => True) (fun _ U_ o_ U'_ => ∃ v_ L_, o_ = .returned v_ ∧ Q_valof Z p cs h0 n0 v_ U'_.heap L_ ∧ FrameEnd U_ o_ U'_ L_ ({ frames := 2, cells := 2, slots := 5, locals := 27 } : Room).cells ({ frames := 2, cells := 2, slots := 5, locals := 27 } : Room).slots) := by
  refine MetFree.of_bodySF (plainFor_of_name pn_1) hisR ?_
  intro pP eE sS mM argsA below meth cC s₁ Bd hml0 hP hK
  obtain ⟨rfl, hZ, hh⟩ := hP
  have hx := Bd.exec
  have hby := Bd.bytes
  have hml : cC.maxLocals = 1 := hml0
  have hown : sS.vm.findClass "java/lang/String" = some mM.cls := findClass_of_methodNamed Bd.named
  have hnm := (name_of_methodNamed Bd.named Bd.method).1
  have X0 : Stand pP l eE ({ frames := 2, cells := 2, slots := 5, locals := 27 } : Room) sS mM #[(.int p)] below meth cC s₁ [] 0 0 := Stand.of_body Bd
  have e0 : s₁.heap = h0 := by rw [← hh, Bd.state]; rfl
  have N0 := Fr.nil n0
  have pre0 : ∀ t_, Steps pP.tables eE below (s₁.setTop (mkF mM 0 #[.val (.int p)] [])) t_ → Steps pP.tables eE below (s₁.setTop (entryFrame mM #[(.int p)] 1)) t_ := fun t_ k_ => castTop (ef_valof mM p) k_
  obtain ⟨T_1, X_1, e_1, st_1⟩ := getS2 X0 hx hZ hown (host := "") (Or.inl (hw _ (List.mem_of_getElem? (i := 4) rfl))) Via.refl e0 S_String_COMPACT_STRINGS (g := (mkF mM 0 #[.val (.int p)] [])) rfl (hb hby d_jdk_42m139_0)
  obtain ⟨_, _, ⟨T_2, L_2, k_2, n_2⟩, -, X_2, ⟨Lc_2, hQ_2, l_2, y_2, z_2⟩, st_2⟩ := Jvm.LawKit.callS X_1 hx (y := (⟨"java/lang/StringLatin1", "canEncode", "(C)Z"⟩ : MethodName)) hown (mvT hZ (hw _ (List.mem_of_getElem? (i := 5) rfl))) (mvT hZ (hw _ (List.mem_of_getElem? (i := 6) rfl))) (mvT hZ (hw _ (List.mem_of_getElem? (i := 7) rfl))) (mvT hZ (hw _ (List.mem_of_getElem? (i := 8) rfl))) (by decide) (backOf (W := 0) (rm_can l Z a0 hw [] p h0 n0 Z0 hp) hZ (hw _ (List.mem_of_getElem? (i := 8) rfl)) (hw _ (List.mem_of_getElem? (i := 7) rfl)) (by decide) (by decide)) (g := (mkF mM 7 #[.val (.int p)] [(.int p)])) rfl (by rw [hml]; rfl) (argsL := [(.int p)]) (rest := []) (lenOf pd_0 rfl) rfl (by show 2 * 0 + _ ≤ _; exact Nat.le_of_eq rfl) (hb hby d_jdk_42m139_7) (fun _ _ => ⟨rfl, e_1, (by decide : 0 + 0 ≤ _), (by decide : 0 + 0 ≤ _)⟩)
  dsimp only [Pt.U, Pt.locs, Pt.cells, Pt.slots] at X_2 l_2 y_2 z_2 st_2 hQ_2
  subst l_2 y_2 z_2
  obtain ⟨rfl, N_2q, eh_2⟩ := hQ_2
  have N_2 := Fr.app N0 N_2q
  obtain ⟨T_3, h_3, X_3, e_3, E_3, A_3, D_3, -, st_3⟩ := newO X_2 hx hZ hown (hw _ (List.mem_of_getElem? (i := 9) rfl)) (hw _ (List.mem_of_getElem? (i := 10) rfl)) (hw _ (List.mem_of_getElem? (i := 2) rfl)) eh_2 (g := (mkF mM 13 #[.val (.int p)] [])) rfl (hb hby d_jdk_42m139_13) (by decide) (by decide)
  obtain ⟨b_3, g_3⟩ : ∃ z, z = h0.size := ⟨_, rfl⟩
  rw [← g_3] at A_3 D_3 st_3
  have g_b_3 : n0 ≤ b_3 := Nat.le_trans Z0 (Nat.le_of_eq g_3.symm)
  have sz_b_3 : h0.size ≤ b_3 := Nat.le_trans (Keep.refl h0 []).1 (Nat.le_of_eq g_3.symm)
  have Z_3 : n0 ≤ h_3.size := (Nat.le_trans Z0 E_3.1)
  have K_3 : Keep h0 h_3 [] := (Keep.refl h0 []).ext E_3
  have F_value_b_3__3 : Fld Z h_3 b_3 "java/lang/String" "value" "[B" .null := D_3 (Or.inr (hw _ (List.mem_of_getElem? (i := 23) rfl))) (ty := (.array .byte)) (by decide)
  have F_coder_b_3__3 : Fld Z h_3 b_3 "java/lang/String" "coder" "B" (.int (0 : Int32)) := D_3 (Or.inr (hw _ (List.mem_of_getElem? (i := 25) rfl))) (ty := .byte) (by decide)
  obtain ⟨_, _, ⟨T_4, L_4, k_4, n_4⟩, -, X_4, ⟨Lc_4, hQ_4, l_4, y_4, z_4⟩, st_4⟩ := Jvm.LawKit.callS X_3 hx (y := (⟨"java/lang/StringLatin1", "toBytes", "(C)[B"⟩ : MethodName)) hown (mvT hZ (hw _ (List.mem_of_getElem? (i := 11) rfl))) (mvT hZ (hw _ (List.mem_of_getElem? (i := 12) rfl))) (mvT hZ (hw _ (List.mem_of_getElem? (i := 7) rfl))) (mvT hZ (hw _ (List.mem_of_getElem? (i := 13) rfl))) (by decide) (backOf (W := 2) (rm_tob l Z a0 hw [] p h_3 n0 Z_3 ) hZ (hw _ (List.mem_of_getElem? (i := 13) rfl)) (hw _ (List.mem_of_getElem? (i := 7) rfl)) (by decide) (by decide)) (g := (mkF mM 18 #[.val (.int p)] [(.int p), (.ref b_3), (.ref b_3)])) rfl (by rw [hml]; rfl) (argsL := [(.int p)]) (rest := [(.ref b_3), (.ref b_3)]) (lenOf pd_1 rfl) rfl (by show 2 * 0 + _ ≤ _; exact Nat.le_of_eq rfl) (hb hby d_jdk_42m139_18) (fun _ _ => ⟨rfl, e_3, (by decide : 1 + 1 ≤ _), (by decide : 4 + 1 ≤ _)⟩)
  dsimp only [Pt.U, Pt.locs, Pt.cells, Pt.slots] at X_4 l_4 y_4 z_4 st_4 hQ_4
  subst l_4 y_4 z_4
  obtain ⟨b__4, ⟨k__4, ⟨rfl, N_4q, Kc_4, pfsz_b_4, pfV_b_4⟩⟩⟩ := hQ_4
  have Z_4 : n0 ≤ T_4.heap.size := (Nat.le_trans Z_3 Kc_4.1)
  have K_4 : Keep h0 T_4.heap [] := K_3.trans Kc_4 all0
  have sz_b__4 : h0.size ≤ b__4 := Nat.le_trans K_3.1 pfsz_b_4
  have g_b__4 : n0 ≤ b__4 := Nat.le_trans Z_3 pfsz_b_4
  have N_4 := Fr.app N_2 N_4q
  obtain ⟨_, _, ⟨T_5, L_5, k_5, n_5⟩, -, X_5, ⟨Lc_5, hQ_5, l_5, y_5, z_5⟩, st_5⟩ := X_4.specialBack hx (y := (⟨"java/lang/String", "<init>", "([BB)V"⟩ : MethodName)) rfl hown (mvT hZ (hw _ (List.mem_of_getElem? (i := 15) rfl))) (mvT hZ (hw _ (List.mem_of_getElem? (i := 16) rfl))) (mvT hZ (hw _ (List.mem_of_getElem? (i := 18) rfl))) (by decide) (backOf (W := 1) (rm_sinit l Z a0 hw [] b_3 b__4 T_4.heap n0 Z_4 (F_value_b_3__3.keep Kc_4 nin0) (F_coder_b_3__3.keep Kc_4 nin0) (A_3.keep Kc_4) g_b_3) hZ (hw _ (List.mem_of_getElem? (i := 18) rfl)) (hw _ (List.mem_of_getElem? (i := 2) rfl)) (by decide) (by decide)) (g := (mkF mM 22 #[.val (.int p)] [(.int (0 : Int32)), (.ref b__4), (.ref b_3), (.ref b_3)])) rfl (by rw [hml]; rfl) (Steps.refl _) (a := b_3) (argsL := [(.ref b__4), (.int (0 : Int32))]) (rest := [(.ref b_3)]) (lenOf pd_2 rfl) rfl (by show 2 * 0 + _ ≤ _; exact Nat.le_of_eq rfl) (hb hby d_jdk_42m139_22) (fun _ _ => ⟨rfl, rfl, (by decide : 2 + 0 ≤ _), (by decide : 5 + 0 ≤ _)⟩)
  dsimp only [Pt.U, Pt.locs, Pt.cells, Pt.slots] at X_5 l_5 y_5 z_5 st_5 hQ_5
  subst l_5 y_5 z_5
  obtain ⟨rfl, N_5q, Kc_5, pfF_value_a_5, pfF_coder_a_5, pfE_a_5⟩ := hQ_5
  have Z_5 : n0 ≤ T_5.heap.size := (Nat.le_trans Z_4 Kc_5.1)
  have K_5 : Keep h0 T_5.heap [] := K_4.trans Kc_5 (allS (Or.inr sz_b_3) all0)
  have N_5 := Fr.app N_4 N_5q
  obtain ⟨fs, hr, hrun, hended, hW, hsame⟩ := X_5.leave (v := some (.ref b_3)) (fun h => by rw [Bd.returns] at h; cases h)
  refine ⟨_, _, pre0 _ ?_, hrun, hended, _, _, rfl, ?_, ⟨_, rfl⟩, hW, hsame.mono (by decide) (by decide)⟩
  · show Steps pP.tables eE below (s₁.setTop (mkF mM 0 #[.val (.int p)] [])) _
    refine st_1 _ ?_
    show Steps pP.tables eE below (T_1.setTop (mkF mM 3 #[.val (.int p)] [(.int cs)])) _
    refine XS.ifNo X_1.here hx rfl (hb hby d_jdk_42m139_3) rfl (XT.i0_eq_f hcs) ?_
    show Steps pP.tables eE below (T_1.setTop (mkF mM 6 #[.val (.int p)] [])) _
    refine XS.iloadN X_1.here hx rfl (hb hby d_jdk_42m139_6) rfl ?_
    show Steps pP.tables eE below (T_1.setTop (mkF mM 7 #[.val (.int p)] [(.int p)])) _
    refine st_2 _ ?_
    show Steps pP.tables eE below (T_2.setTop (mkF mM 10 #[.val (.int p)] [(.int (1 : Int32))])) _
    refine XS.ifNo X_2.here hx rfl (hb hby d_jdk_42m139_10) rfl (by decide) ?_
    show Steps pP.tables eE below (T_2.setTop (mkF mM 13 #[.val (.int p)] [])) _
    refine st_3 _ ?_
    show Steps pP.tables eE below (T_3.setTop (mkF mM 16 #[.val (.int p)] [(.ref b_3)])) _
    refine XS.dup X_3.here hx rfl (hb hby d_jdk_42m139_16) rfl rfl ?_
    show Steps pP.tables eE below (T_3.setTop (mkF mM 17 #[.val (.int p)] [(.ref b_3), (.ref b_3)])) _
    refine XS.iloadN X_3.here hx rfl (hb hby d_jdk_42m139_17) rfl ?_
    show Steps pP.tables eE below (T_3.setTop (mkF mM 18 #[.val (.int p)] [(.int p), (.ref b_3), (.ref b_3)])) _
    refine st_4 _ ?_
    show Steps pP.tables eE below (T_4.setTop (mkF mM 21 #[.val (.int p)] [(.ref b__4), (.ref b_3), (.ref b_3)])) _
    refine XS.iconst X_4.here hx rfl (hb hby d_jdk_42m139_21) ?_
    show Steps pP.tables eE below (T_4.setTop (mkF mM 22 #[.val (.int p)] [(.int (0 : Int32)), (.ref b__4), (.ref b_3), (.ref b_3)])) _
    refine st_5.trans ?_
    show Steps pP.tables eE below (T_5.setTop (mkF mM 25 #[.val (.int p)] [(.ref b_3)])) _
    exact retOut X_5 hx Bd.returns rfl (Or.inr (Or.inr (Or.inr (Or.inr ⟨rfl, rfl, rfl⟩)))) (hb hby d_jdk_42m139_25) hr
  · show Q_valof Z p cs h0 n0 _ T_5.heap _
    exact ⟨b_3, b__4, k__4, rfl, N_5, K_5, sz_b_3, sz_b__4, pfE_a_5, pfF_value_a_5, pfF_coder_a_5, (pfV_b_4.keep Kc_5 (ninS (Ne.symm (Nat.ne_of_lt (Nat.lt_of_lt_of_le A_3.lt pfsz_b_4))) nin0))⟩
theorem d_prog_63m3_0 : decode prog_63_method_3_code 0 = .ok (.iload_n 1, 1) := by decide +kernel
theorem d_prog_63m3_1 : decode prog_63_method_3_code 1 = .ok (.iconst 2, 1) := by decide +kernel
theorem d_prog_63m3_2 : decode prog_63_method_3_code 2 = .ok (.irem, 1) := by decide +kernel
theorem d_prog_63m3_3 : decode prog_63_method_3_code 3 = .ok (.ifCond .eq 18, 3) := by decide +kernel
theorem d_prog_63m3_21 : decode prog_63_method_3_code 21 = .ok (.iload_n 1, 1) := by decide +kernel
theorem d_prog_63m3_22 : decode prog_63_method_3_code 22 = .ok (.ireturn, 1) := by decide +kernel
theorem pn_2 : plainName "com/example/polyvane/polyvane/problem/Wfg" = true := by first | (simp [plainName, overriddenIn]; done) | decide +kernel
theorem ef_even (mM : MethodId) (x0 : Addr) (x1 : Int32) : entryFrame mM #[(.ref x0), (.int x1)] 2 = mkF mM 0 #[.val (.ref x0), .val (.int x1)] [] := by first | (simp [entryFrame, mkF, argsToLocals, Value.category]; done) | rfl
def Q_even (Z : State) (a : Addr) (p : Int32) (h0 : Heap) (n0 : Nat) (v_ : Option Value) (h_ : Heap) (L_ : List Loc) : Prop := v_ = some (.int p) ∧ Fr n0 L_ ∧ h_ = h0
set_option maxRecDepth 65536 in
set_option maxHeartbeats 40000000 in
theorem rm_even (l : Launch) (Z : State) (a0 : Array Value) (hw : ∀ d ∈ tables_1, d.before a0 Z = true) (ws : List Jvm.Cond) (a : Addr) (p : Int32) (h0 : Heap) (n0 : Nat) (Z0 : n0 ≤ h0.size) (hev : (p % (2 : Int32)) = 0) :
    MetFree l (⟨"com/example/polyvane/polyvane/problem/Wfg", "evenDistance", "(Ljava/lang/String;I)I"⟩ : MethodName) (head1 (Jvm.Cond.code (⟨"com/example/polyvane/polyvane/problem/Wfg", "evenDistance", "(Ljava/lang/String;I)I"⟩ : MethodName) prog_63_method_3_code 2 (some .int) :: ws) ({ frames := 0, cells := 0, slots := 0, locals := 0 } : Room)) (fun aa_ U_ => aa_ = #[(.ref a), (.int p)] ∧ Z.Warmed39 U_.vm ∧ U_.heap = h0) (fun _ _ _ _ _ => True) (fun _ U_ o_ U'_ => ∃ v_ L_, o_ = .returned v_ ∧ Q_even Z a p h0 n0 v_ U'_.heap L_ ∧ FrameEnd U_ o_ U'_ L_ ({ frames := 0, cells := 0, slots := 0, locals := 0 } : Room).cells ({ frames := 0, cells := 0, slots := 0, locals := 0 } : Room).slots) := by
  refine MetFree.of_bodySF (plainFor_of_name pn_2) hisR ?_
  intro pP eE sS mM argsA below meth cC s₁ Bd hml0 hP hK
  obtain ⟨rfl, hZ, hh⟩ := hP
  have hx := Bd.exec
  have hby := Bd.bytes
  have hml : cC.maxLocals = 2 := hml0
  have hown : sS.vm.findClass "com/example/polyvane/polyvane/problem/Wfg" = some mM.cls := findClass_of_methodNamed Bd.named
  have hnm := (name_of_methodNamed Bd.named Bd.method).1
  have X0 : Stand pP l eE ({ frames := 0, cells := 0, slots := 0, locals := 0 } : Room) sS mM #[(.ref a), (.int p)] below meth cC s₁ [] 0 0 := Stand.of_body Bd
  have e0 : s₁.heap = h0 := by rw [← hh, Bd.state]; rfl
  have N0 := Fr.nil n0
  have pre0 : ∀ t_, Steps pP.tables eE below (s₁.setTop (mkF mM 0 #[.val (.ref a), .val (.int p)] [])) t_ → Steps pP.tables eE below (s₁.setTop (entryFrame mM #[(.ref a), (.int p)] 2)) t_ := fun t_ k_ => castTop (ef_even mM a p) k_
  obtain ⟨fs, hr, hrun, hended, hW, hsame⟩ := X0.leave (v := some (.int p)) (fun h => by rw [Bd.returns] at h; cases h)
  refine ⟨_, _, pre0 _ ?_, hrun, hended, _, _, rfl, ?_, ⟨_, rfl⟩, hW, hsame.mono (by decide) (by decide)⟩
  · show Steps pP.tables eE below (s₁.setTop (mkF mM 0 #[.val (.ref a), .val (.int p)] [])) _
    refine XS.iloadN X0.here hx rfl (hb hby d_prog_63m3_0) rfl ?_
    show Steps pP.tables eE below (s₁.setTop (mkF mM 1 #[.val (.ref a), .val (.int p)] [(.int p)])) _
    refine XS.iconst X0.here hx rfl (hb hby d_prog_63m3_1) ?_
    show Steps pP.tables eE below (s₁.setTop (mkF mM 2 #[.val (.ref a), .val (.int p)] [(.int (2 : Int32)), (.int p)])) _
    refine iremM X0 hx rfl (hb hby d_prog_63m3_2) rfl (by decide) ?_
    show Steps pP.tables eE below (s₁.setTop (mkF mM 3 #[.val (.ref a), .val (.int p)] [(.int (p % (2 : Int32)))])) _
    refine XS.ifYes X0.here hx rfl (pc0 := 3) (pc' := 21) rfl (hb hby d_prog_63m3_3) rfl (XT.i0_eq_t hev) (by decide) (by decide) ?_
    show Steps pP.tables eE below (s₁.setTop (mkF mM 21 #[.val (.ref a), .val (.int p)] [])) _
    refine XS.iloadN X0.here hx rfl (hb hby d_prog_63m3_21) rfl ?_
    show Steps pP.tables eE below (s₁.setTop (mkF mM 22 #[.val (.ref a), .val (.int p)] [(.int p)])) _
    exact retI X0 hx Bd.returns (hb hby d_prog_63m3_22) hr
  · show Q_even Z a p h0 n0 _ s₁.heap _
    rw [e0]
    exact ⟨rfl, N0, rfl⟩
theorem pd_3 : parseMethodDescriptor "(C)Ljava/lang/String;" = some ⟨[.char], some (.object "java/lang/String")⟩ := by decide +kernel
theorem pd_4 : parseMethodDescriptor "(Ljava/lang/String;I)I" = some ⟨[(.object "java/lang/String"), .int], some .int⟩ := by decide +kernel
theorem pn_3 : plainName "com/example/polyvane/polyvane/problem/WfgEvenDistancePinLaw" = true := by first | (simp [plainName, overriddenIn]; done) | decide +kernel
theorem ef_law (mM : MethodId) (x0 : Int32) (x1 : Int32) : entryFrame mM #[(.int x0), (.int x1)] maxLocals = mkF mM 0 #[.val (.int x0), .val (.int x1), .unset, .unset, .unset] [] := by first | (simp [entryFrame, mkF, argsToLocals, Value.category, maxLocals]; done) | rfl
def Q_law (Z : State) (p1 : Int32) (p2 : Int32) (cs : Int32) (h0 : Heap) (n0 : Nat) (v_ : Option Value) (h_ : Heap) (L_ : List Loc) : Prop := v_ = some (.int (1 : Int32)) ∧ Fr n0 L_
set_option maxRecDepth 65536 in
set_option maxHeartbeats 40000000 in
theorem rm_law (l : Launch) (Z : State) (a0 : Array Value) (hw : ∀ d ∈ tables_1, d.before a0 Z = true) (ws : List Jvm.Cond) (p1 : Int32) (p2 : Int32) (cs : Int32) (h0 : Heap) (n0 : Nat) (Z0 : n0 ≤ h0.size) (S_String_COMPACT_STRINGS : Sta Z h0 "java/lang/String" "COMPACT_STRINGS" "Z" (.int cs)) (hcs : ¬ cs = 0) :
    MetFree l x (head1 (Jvm.Cond.code x code maxLocals ret :: ws) room_1) (fun aa_ U_ => aa_ = #[(.int p1), (.int p2)] ∧ Z.Warmed39 U_.vm ∧ U_.heap = h0) (fun _ _ _ _ _ => True) (fun _ U_ o_ U'_ => ∃ v_ L_, o_ = .returned v_ ∧ Q_law Z p1 p2 cs h0 n0 v_ U'_.heap L_ ∧ FrameEnd U_ o_ U'_ L_ 2 5) := by
  refine MetFree.of_bodySF (plainFor_of_name pn_3) hisR ?_
  intro pP eE sS mM argsA below meth cC s₁ Bd hml0 hP hK
  obtain ⟨rfl, hZ, hh⟩ := hP
  have hx := Bd.exec
  have hby := Bd.bytes
  have hml : cC.maxLocals = 5 := hml0
  have hown : sS.vm.findClass "com/example/polyvane/polyvane/problem/WfgEvenDistancePinLaw" = some mM.cls := findClass_of_methodNamed Bd.named
  have hnm := (name_of_methodNamed Bd.named Bd.method).1
  have X0 : Stand pP l eE room_1 sS mM #[(.int p1), (.int p2)] below meth cC s₁ [] 0 0 := Stand.of_body Bd
  have e0 : s₁.heap = h0 := by rw [← hh, Bd.state]; rfl
  have N0 := Fr.nil n0
  have pre0 : ∀ t_, Steps pP.tables eE below (s₁.setTop (mkF mM 0 #[.val (.int p1), .val (.int p2), .unset, .unset, .unset] [])) t_ → Steps pP.tables eE below (s₁.setTop (entryFrame mM #[(.int p1), (.int p2)] maxLocals)) t_ := fun t_ k_ => castTop (ef_law mM p1 p2) k_
  obtain ⟨_, _, ⟨T_1, L_1, k_1, n_1⟩, -, X_1, ⟨Lc_1, hQ_1, l_1, y_1, z_1⟩, st_1⟩ := Jvm.LawKit.callS X0 hx (y := (⟨"java/lang/String", "valueOf", "(C)Ljava/lang/String;"⟩ : MethodName)) hown (mvT hZ (hw _ (List.mem_of_getElem? (i := 0) rfl))) (mvT hZ (hw _ (List.mem_of_getElem? (i := 1) rfl))) (mvT hZ (hw _ (List.mem_of_getElem? (i := 2) rfl))) (mvT hZ (hw _ (List.mem_of_getElem? (i := 3) rfl))) (by decide) (backOf (W := 0) (rm_valof l Z a0 hw [] ((p2 &&& (255 : Int32)).toUInt32.toUInt16.toUInt32.toInt32) cs h0 n0 Z0 S_String_COMPACT_STRINGS hcs (own_c255 p2)) hZ (hw _ (List.mem_of_getElem? (i := 3) rfl)) (hw _ (List.mem_of_getElem? (i := 2) rfl)) (by decide) (by decide)) (g := (mkF mM 11 #[.val (.int p1), .val (.int p2), .val (.int (p1 &&& (-2 : Int32))), .unset, .unset] [(.int ((p2 &&& (255 : Int32)).toUInt32.toUInt16.toUInt32.toInt32))])) rfl (by rw [hml]; rfl) (argsL := [(.int ((p2 &&& (255 : Int32)).toUInt32.toUInt16.toUInt32.toInt32))]) (rest := []) (lenOf pd_3 rfl) rfl (by show 2 * 0 + _ ≤ _; exact Nat.le_of_eq rfl) (hb hby at_11) (fun _ _ => ⟨rfl, e0, (by decide : 0 + 2 ≤ _), (by decide : 0 + 5 ≤ _)⟩)
  dsimp only [Pt.U, Pt.locs, Pt.cells, Pt.slots] at X_1 l_1 y_1 z_1 st_1 hQ_1
  subst l_1 y_1 z_1
  obtain ⟨b__1, ⟨d__1, ⟨k__1, ⟨rfl, N_1q, Kc_1, pfsz_b_1, pfsz_d_1, pfE_b_1, pfF_value_b_1, pfF_coder_b_1, pfV_d_1⟩⟩⟩⟩ := hQ_1
  have Z_1 : n0 ≤ T_1.heap.size := (Nat.le_trans Z0 Kc_1.1)
  have K_1 : Keep h0 T_1.heap [] := (Keep.refl h0 []).trans Kc_1 all0
  have sz_b__1 : h0.size ≤ b__1 := Nat.le_trans (Keep.refl h0 []).1 pfsz_b_1
  have g_b__1 : n0 ≤ b__1 := Nat.le_trans Z0 pfsz_b_1
  have sz_d__1 : h0.size ≤ d__1 := Nat.le_trans (Keep.refl h0 []).1 pfsz_d_1
  have g_d__1 : n0 ≤ d__1 := Nat.le_trans Z0 pfsz_d_1
  have N_1 := Fr.app N0 N_1q
  obtain ⟨_, _, ⟨T_2, L_2, k_2, n_2⟩, -, X_2, ⟨Lc_2, hQ_2, l_2, y_2, z_2⟩, st_2⟩ := Jvm.LawKit.callS X_1 hx (y := (⟨"com/example/polyvane/polyvane/problem/Wfg", "evenDistance", "(Ljava/lang/String;I)I"⟩ : MethodName)) hown (mvT hZ (hw _ (List.mem_of_getElem? (i := 26) rfl))) (mvT hZ (hw _ (List.mem_of_getElem? (i := 27) rfl))) (mvT hZ (hw _ (List.mem_of_getElem? (i := 28) rfl))) (mvT hZ (hw _ (List.mem_of_getElem? (i := 29) rfl))) (by decide) (backOf (W := 0) (rm_even l Z a0 hw [] b__1 (p1 &&& (-2 : Int32)) T_1.heap n0 Z_1 (own_even p1)) hZ (hw _ (List.mem_of_getElem? (i := 29) rfl)) (hw _ (List.mem_of_getElem? (i := 28) rfl)) (by decide) (by decide)) (g := (mkF mM 17 #[.val (.int p1), .val (.int p2), .val (.int (p1 &&& (-2 : Int32))), .val (.ref b__1), .unset] [(.int (p1 &&& (-2 : Int32))), (.ref b__1)])) rfl (by rw [hml]; rfl) (argsL := [(.ref b__1), (.int (p1 &&& (-2 : Int32)))]) (rest := []) (lenOf pd_4 rfl) rfl (by show 2 * 0 + _ ≤ _; exact Nat.le_of_eq rfl) (hb hby at_17) (fun _ _ => ⟨rfl, rfl, (by decide : 2 + 0 ≤ _), (by decide : 5 + 0 ≤ _)⟩)
  dsimp only [Pt.U, Pt.locs, Pt.cells, Pt.slots] at X_2 l_2 y_2 z_2 st_2 hQ_2
  subst l_2 y_2 z_2
  obtain ⟨rfl, N_2q, eh_2⟩ := hQ_2
  have N_2 := Fr.app N_1 N_2q
  obtain ⟨fs, hr, hrun, hended, hW, hsame⟩ := X_2.leave (v := some (.int (1 : Int32))) (fun h => by rw [Bd.returns] at h; cases h)
  refine ⟨_, _, pre0 _ ?_, hrun, hended, _, _, rfl, ?_, ⟨_, rfl⟩, hW, hsame.mono (by decide) (by decide)⟩
  · show Steps pP.tables eE below (s₁.setTop (mkF mM 0 #[.val (.int p1), .val (.int p2), .unset, .unset, .unset] [])) _
    refine XS.iloadN X0.here hx rfl (hb hby at_0) rfl ?_
    show Steps pP.tables eE below (s₁.setTop (mkF mM 1 #[.val (.int p1), .val (.int p2), .unset, .unset, .unset] [(.int p1)])) _
    refine XS.bipush X0.here hx rfl (hb hby at_1) ?_
    show Steps pP.tables eE below (s₁.setTop (mkF mM 3 #[.val (.int p1), .val (.int p2), .unset, .unset, .unset] [(.int (-2 : Int32)), (.int p1)])) _
    refine XS.iand X0.here hx rfl (hb hby at_3) rfl ?_
    show Steps pP.tables eE below (s₁.setTop (mkF mM 4 #[.val (.int p1), .val (.int p2), .unset, .unset, .unset] [(.int (p1 &&& (-2 : Int32)))])) _
    refine XS.istoreN X0.here hx rfl (hb hby at_4) rfl (l' := #[.val (.int p1), .val (.int p2), .val (.int (p1 &&& (-2 : Int32))), .unset, .unset]) rfl ?_
    show Steps pP.tables eE below (s₁.setTop (mkF mM 5 #[.val (.int p1), .val (.int p2), .val (.int (p1 &&& (-2 : Int32))), .unset, .unset] [])) _
    refine XS.iloadN X0.here hx rfl (hb hby at_5) rfl ?_
    show Steps pP.tables eE below (s₁.setTop (mkF mM 6 #[.val (.int p1), .val (.int p2), .val (.int (p1 &&& (-2 : Int32))), .unset, .unset] [(.int p2)])) _
    refine XS.sipush X0.here hx rfl (hb hby at_6) ?_
    show Steps pP.tables eE below (s₁.setTop (mkF mM 9 #[.val (.int p1), .val (.int p2), .val (.int (p1 &&& (-2 : Int32))), .unset, .unset] [(.int (255 : Int32)), (.int p2)])) _
    refine XS.iand X0.here hx rfl (hb hby at_9) rfl ?_
    show Steps pP.tables eE below (s₁.setTop (mkF mM 10 #[.val (.int p1), .val (.int p2), .val (.int (p1 &&& (-2 : Int32))), .unset, .unset] [(.int (p2 &&& (255 : Int32)))])) _
    refine XT.i2c X0.here hx rfl (hb hby at_10) rfl ?_
    show Steps pP.tables eE below (s₁.setTop (mkF mM 11 #[.val (.int p1), .val (.int p2), .val (.int (p1 &&& (-2 : Int32))), .unset, .unset] [(.int ((p2 &&& (255 : Int32)).toUInt32.toUInt16.toUInt32.toInt32))])) _
    refine st_1 _ ?_
    show Steps pP.tables eE below (T_1.setTop (mkF mM 14 #[.val (.int p1), .val (.int p2), .val (.int (p1 &&& (-2 : Int32))), .unset, .unset] [(.ref b__1)])) _
    refine XS.astoreN X_1.here hx rfl (hb hby at_14) rfl rfl (l' := #[.val (.int p1), .val (.int p2), .val (.int (p1 &&& (-2 : Int32))), .val (.ref b__1), .unset]) rfl ?_
    show Steps pP.tables eE below (T_1.setTop (mkF mM 15 #[.val (.int p1), .val (.int p2), .val (.int (p1 &&& (-2 : Int32))), .val (.ref b__1), .unset] [])) _
    refine XS.aloadN X_1.here hx rfl (hb hby at_15) rfl rfl ?_
    show Steps pP.tables eE below (T_1.setTop (mkF mM 16 #[.val (.int p1), .val (.int p2), .val (.int (p1 &&& (-2 : Int32))), .val (.ref b__1), .unset] [(.ref b__1)])) _
    refine XS.iloadN X_1.here hx rfl (hb hby at_16) rfl ?_
    show Steps pP.tables eE below (T_1.setTop (mkF mM 17 #[.val (.int p1), .val (.int p2), .val (.int (p1 &&& (-2 : Int32))), .val (.ref b__1), .unset] [(.int (p1 &&& (-2 : Int32))), (.ref b__1)])) _
    refine st_2 _ ?_
    show Steps pP.tables eE below (T_2.setTop (mkF mM 20 #[.val (.int p1), .val (.int p2), .val (.int (p1 &&& (-2 : Int32))), .val (.ref b__1), .unset] [(.int (p1 &&& (-2 : Int32)))])) _
    refine XS.istore X_2.here hx rfl (hb hby at_20) rfl (l' := #[.val (.int p1), .val (.int p2), .val (.int (p1 &&& (-2 : Int32))), .val (.ref b__1), .val (.int (p1 &&& (-2 : Int32)))]) rfl ?_
    show Steps pP.tables eE below (T_2.setTop (mkF mM 22 #[.val (.int p1), .val (.int p2), .val (.int (p1 &&& (-2 : Int32))), .val (.ref b__1), .val (.int (p1 &&& (-2 : Int32)))] [])) _
    refine XS.iload X_2.here hx rfl (hb hby at_22) rfl ?_
    show Steps pP.tables eE below (T_2.setTop (mkF mM 24 #[.val (.int p1), .val (.int p2), .val (.int (p1 &&& (-2 : Int32))), .val (.ref b__1), .val (.int (p1 &&& (-2 : Int32)))] [(.int (p1 &&& (-2 : Int32)))])) _
    refine XS.iloadN X_2.here hx rfl (hb hby at_24) rfl ?_
    show Steps pP.tables eE below (T_2.setTop (mkF mM 25 #[.val (.int p1), .val (.int p2), .val (.int (p1 &&& (-2 : Int32))), .val (.ref b__1), .val (.int (p1 &&& (-2 : Int32)))] [(.int (p1 &&& (-2 : Int32))), (.int (p1 &&& (-2 : Int32)))])) _
    refine XS.icmpNo X_2.here hx rfl (hb hby at_25) rfl (XT.ii_ne_f rfl) ?_
    show Steps pP.tables eE below (T_2.setTop (mkF mM 28 #[.val (.int p1), .val (.int p2), .val (.int (p1 &&& (-2 : Int32))), .val (.ref b__1), .val (.int (p1 &&& (-2 : Int32)))] [])) _
    refine XS.iconst X_2.here hx rfl (hb hby at_28) ?_
    show Steps pP.tables eE below (T_2.setTop (mkF mM 29 #[.val (.int p1), .val (.int p2), .val (.int (p1 &&& (-2 : Int32))), .val (.ref b__1), .val (.int (p1 &&& (-2 : Int32)))] [(.int (1 : Int32))])) _
    refine XS.goto X_2.here hx rfl (pc0 := 29) (pc' := 33) rfl (hb hby at_29) (by decide) (by decide) ?_
    show Steps pP.tables eE below (T_2.setTop (mkF mM 33 #[.val (.int p1), .val (.int p2), .val (.int (p1 &&& (-2 : Int32))), .val (.ref b__1), .val (.int (p1 &&& (-2 : Int32)))] [(.int (1 : Int32))])) _
    exact retN X_2 hx (t := .boolean) Bd.returns (by simp) (hb hby at_33) hr
  · show Q_law Z p1 p2 cs h0 n0 _ T_2.heap _
    exact ⟨rfl, N_2⟩
set_option maxRecDepth 65536 in
set_option maxHeartbeats 40000000 in
theorem comes_1 {Post : Tables → Env → Array Value → State → Outcome → State → Prop} (hpost : ∀ tb e args s v u, (limb_1_1.after args s (.returned v) u = true ∧ limb_1_2.after args s (.returned v) u = true ∧ True) → FrameEnd s (.returned v) u (Jvm.fieldLocs frame_1_writes args s ++ Jvm.arrayLocs frame_1_arrays args s ++ Jvm.staticLocs frame_1_statics s) 16 128 → Post tb e args s (.returned v) u) :
    ArmFor flags0 classFile x code maxLocals ret World_1 tables_1 room_1 Calls_1 rest_1 Pre_1 Post := by
  intro l hfl _ _ p e ha hc hk s m args below hf hA hF happ hP
  obtain ⟨hcalls, hrest, hpre⟩ := hP
  obtain ⟨-, -, -, hnamed, -, -, -, hat⟩ := (Spec.applies_iff hf).mp happ
  obtain ⟨hg, hn⟩ := and_e (Cond.before_iff.mp (show (Jvm.Cond.and given_1 narrow_1).before args s = true from hpre))
  obtain ⟨hg1, hg2⟩ := and_e hg
  obtain ⟨hg3, hg4⟩ := and_e hg2
  obtain ⟨w0, w1, rfl⟩ : ∃ w0 w1 : Value, args = #[w0, w1] := by
    have hs : args.size = 2 := by simpa [Cond.value, given_1] using hg1
    obtain ⟨L⟩ := args
    match L, hs with
    | [w0, w1], _ => exact ⟨w0, w1, rfl⟩
  obtain ⟨i0, ei0⟩ := is_v hg3
  obtain rfl : w0 = (.int i0) := Option.some.inj ei0
  obtain ⟨i1, ei1⟩ := is_v hg4
  obtain rfl : w1 = (.int i1) := Option.some.inj ei1
  have hw := fun d (hd : d ∈ tables_1) => atoms_spec (ws := Jvm.Cond.code x code maxLocals ret :: tables_1) hat d (List.mem_cons_of_mem _ hd)
  have hfit : Fit s := fun {y c} hc i hi => by
    obtain ⟨ha, rfl⟩ := Array.getElem?_eq_some_iff.mp hc
    have q := List.all_eq_true.mp ((Array.all_eq_true_iff_forall_mem.mp hF) _ (Array.getElem_mem ha)) i (List.mem_range.mpr hi)
    simpa [Array.getElem?_eq_getElem hi] using q
  obtain ⟨hsets, hown0⟩ := atoms_of _ (rest_1_c_eq ▸ (show rest_1_c.before _ s = true from hrest))
  obtain ⟨cs, ecs⟩ := is_v (Cond.before_iff.mp (hsets _ (List.mem_of_getElem? (i := 1) rfl)))
  have S1 := Sta.start ecs (Or.inl (hsets _ (List.mem_of_getElem? (i := 0) rfl)))
  have hcs : ¬ cs = 0 := fun q => by
    have h2 := not_v (Cond.before_iff.mp (hsets _ (List.mem_of_getElem? (i := 2) rfl)))
    have h3 := eq_i ecs (Term.int_eval (0)) (congrArg Value.int q) (o := none) (first := s)
    rw [h3] at h2; cases h2
  obtain ⟨n, o, h1, h2, h3, _, L, rfl, ⟨rfl, N⟩, hq⟩ := rm_law l s _ hw tables_1 i0 i1 cs s.heap s.heap.size (Nat.le_refl _) S1 hcs p e ha hc hk s m _ below hf ((Spec.applies_iff_loose hf).mp happ).1 ⟨rfl, State.Warmed39.refl s, rfl⟩ trivial
  exact ⟨n, _, h1, h2, h3, hpost _ _ _ _ _ _ ⟨Cond.after_iff.mpr rfl, Cond.after_iff.mpr (eq_i res_at (Term.int_eval (1)) rfl), trivial⟩ ⟨hq.1, hq.2.1, (hq.2.2.sift fun y hy => Or.inr (N y hy)).mono (by decide) (by decide)⟩⟩
theorem main_1_1 : Claimed_1_1 := comes_1 fun _ _ _ _ _ _ h hF => ⟨h.1, hF⟩
theorem main_1_2 : Claimed_1_2 := comes_1 fun _ _ _ _ _ _ h hF => ⟨h.2.1, hF⟩
end Jvm.Pilot.@@N@@
namespace Jvm.Pilot.@@N@@
open Jvm Jvm.ClassFile Sem Op Lib Jvm.Free Jvm.Stand Jvm.Pilot.@@N@@.Jvm.D
/-! MADE BY PROGRAM (witnessworld.py) out of the Statement's table words and the real class files: 18 classes; the members and pool entries that the words name. The judged class is class 1, her method 1. -/
namespace start1
open Jvm.ClassFile
def u (s : String) : CpInfo := .utf8 (stringToUtf16 s)
/-- a pool by its gaps: so many unusable entries, then the entry; so many at the end -/
def gap : Nat → List CpInfo → List CpInfo
  | 0, r => r
  | n + 1, r => .unusable :: gap n r
def poolList (es : List (Nat × CpInfo)) (last : Nat) : List CpInfo := es.foldr (fun e r => gap e.1 (e.2 :: r)) (gap last [])
def pool (es : List (Nat × CpInfo)) (last : Nat) : Array CpInfo := ⟨poolList es last⟩
def fileOf (pool : Array CpInfo) (this : Nat) (attrs : Array Attribute := #[]) (ms : Array MethodInfo := #[]) (fl : Nat := 33) (sup : Nat := 0) (ifs : Array Nat := #[]) (fds : Array FieldInfo := #[]) : ClassFile where
  minorVersion := 0
  majorVersion := 65
  constantPool := pool
  accessFlags := fl
  thisClass := this
  superClass := sup
  interfaces := ifs
  fields := fds
  methods := ms
  attributes := attrs
def plain (name : String) (sup : Option ClassId) : Class where
  name := name
  kind := .ordinary
  loader := none
  accessFlags := 33
  super := sup
  interfaces := #[]
  cf := none
  fields := #[]
  methods := #[]
  instanceTypes := #[]
  staticTypes := #[]
  resolved := #[]
  callSites := []
  init := .initialized
  statics := none
  mirror := none

def pool0 : Array CpInfo := pool [(5, u "<init>"), (0, u "()V"), (1, .class_ 10), (1, u "java/lang/Object")] 113

def k0c0 : Code := { maxStack := 0, maxLocals := 1, code := object_method_1_code, exceptionTable := #[], attributes := #[] }
def k0m0 : Method := { name := "<init>", desc := "()V", sig := { parameters := [], returnType := none }, accessFlags := 1, code := some k0c0 }
/-- java/lang/Object -/
def k0 : Class := { plain "java/lang/Object" none with
  accessFlags := 33
  interfaces := #[]
  cf := some (fileOf pool0 8 #[] #[{ accessFlags := 1, nameIndex := 5, descriptorIndex := 6, attributes := #[] }] 33 0 #[] #[])
  fields := #[]
  methods := #[k0m0]
  instanceTypes := #[]
  staticTypes := #[]
  resolved := Array.replicate 124 none
  statics := none }

def pool1 : Array CpInfo := pool [(2, .class_ 4), (1, u "java/lang/Object"), (0, u "<init>"), (0, u "()V"), (0, .methodref 8 9), (0, .class_ 10), (0, .nameAndType 11 12), (0, u "java/lang/String"), (0, u "valueOf"), (0, u "(C)Ljava/lang/String;"), (0, .methodref 14 15), (0, .class_ 16), (0, .nameAndType 17 18), (0, u "com/example/polyvane/polyvane/problem/Wfg"), (0, u "evenDistance"), (0, u "(Ljava/lang/String;I)I"), (0, .class_ 20), (0, u "com/example/polyvane/polyvane/problem/WfgEvenDistancePinLaw"), (2, u "law"), (0, u "(II)Z")] 3

def k1m0 : Method := { name := "<init>", desc := "()V", sig := { parameters := [], returnType := none }, accessFlags := 2, code := none }
def k1c1 : Code := { maxStack := 2, maxLocals := 5, code := code, exceptionTable := #[], attributes := #[] }
def k1m1 : Method := { name := "law", desc := "(II)Z", sig := { parameters := [.int, .int], returnType := some .boolean }, accessFlags := 9, code := some k1c1 }
/-- com/example/polyvane/polyvane/problem/WfgEvenDistancePinLaw -/
def k1 : Class := { plain "com/example/polyvane/polyvane/problem/WfgEvenDistancePinLaw" (some 0) with
  accessFlags := 49
  interfaces := #[]
  cf := some (fileOf pool1 19 #[] #[{ accessFlags := 2, nameIndex := 5, descriptorIndex := 6, attributes := #[] }, { accessFlags := 9, nameIndex := 23, descriptorIndex := 24, attributes := #[] }] 49 2 #[] #[])
  fields := #[]
  methods := #[k1m0, k1m1]
  instanceTypes := #[]
  staticTypes := #[]
  resolved := Array.replicate 28 none
  statics := none }

def pool2 : Array CpInfo := pool [(1, .class_ 2), (0, u "java/io/Serializable"), (0, .class_ 4), (0, u "java/lang/Object")] 2

/-- java/io/Serializable -/
def k2 : Class := { plain "java/io/Serializable" (some 0) with
  accessFlags := 1537
  interfaces := #[]
  cf := some (fileOf pool2 1 #[] #[] 1537 3 #[] #[])
  fields := #[]
  methods := #[]
  instanceTypes := #[]
  staticTypes := #[]
  resolved := Array.replicate 7 none
  statics := none }

def pool3 : Array CpInfo := pool [(1, .class_ 2), (0, u "java/lang/Comparable"), (0, .class_ 4), (0, u "java/lang/Object")] 7

/-- java/lang/Comparable -/
def k3 : Class := { plain "java/lang/Comparable" (some 0) with
  accessFlags := 1537
  interfaces := #[]
  cf := some (fileOf pool3 1 #[] #[] 1537 3 #[] #[])
  fields := #[]
  methods := #[]
  instanceTypes := #[]
  staticTypes := #[]
  resolved := Array.replicate 12 none
  statics := none }

def pool4 : Array CpInfo := pool [(2, .class_ 4), (1, u "java/lang/CharSequence"), (42, .class_ 48), (0, u "java/lang/CharSequence$1CodePointIterator"), (10, .class_ 60), (0, u "java/lang/CharSequence$1CharIterator"), (5, .class_ 67), (0, u "java/lang/Object")] 63

/-- java/lang/CharSequence -/
def k4 : Class := { plain "java/lang/CharSequence" (some 0) with
  accessFlags := 1537
  interfaces := #[]
  cf := some (fileOf pool4 2 #[.nestMembers #[47, 59]] #[] 1537 66 #[] #[])
  fields := #[]
  methods := #[]
  instanceTypes := #[]
  staticTypes := #[]
  resolved := Array.replicate 131 none
  statics := none }

def pool5 : Array CpInfo := pool [(1, .class_ 2), (0, u "java/lang/constant/Constable"), (0, .class_ 4), (0, u "java/lang/Object")] 6

/-- java/lang/constant/Constable -/
def k5 : Class := { plain "java/lang/constant/Constable" (some 0) with
  accessFlags := 1537
  interfaces := #[]
  cf := some (fileOf pool5 1 #[] #[] 1537 3 #[] #[])
  fields := #[]
  methods := #[]
  instanceTypes := #[]
  staticTypes := #[]
  resolved := Array.replicate 11 none
  statics := none }

def pool6 : Array CpInfo := pool [(1, .class_ 2), (0, u "java/lang/constant/ConstantDesc"), (0, .class_ 4), (0, u "java/lang/Object")] 32

/-- java/lang/constant/ConstantDesc -/
def k6 : Class := { plain "java/lang/constant/ConstantDesc" (some 0) with
  accessFlags := 1537
  interfaces := #[]
  cf := some (fileOf pool6 1 #[] #[] 1537 3 #[] #[])
  fields := #[]
  methods := #[]
  instanceTypes := #[]
  staticTypes := #[]
  resolved := Array.replicate 37 none
  statics := none }

def pool7 : Array CpInfo := pool [(1, .methodref 2 3), (0, .class_ 4), (0, .nameAndType 5 6), (0, u "java/lang/Object"), (0, u "<init>"), (0, u "()V"), (2, .fieldref 10 11), (0, .class_ 12), (0, .nameAndType 13 14), (0, u "java/lang/String"), (0, u "value"), (0, u "[B"), (0, .fieldref 10 16), (0, .nameAndType 17 18), (0, u "coder"), (0, u "B"), (2, u "hash"), (0, u "I"), (2, u "hashIsZero"), (0, u "Z"), (11, .fieldref 10 39), (0, .nameAndType 40 26), (0, u "COMPACT_STRINGS"), (12, u "toBytes"), (53, .class_ 109), (1, u "java/lang/StringLatin1"), (99, .methodref 10 210), (0, .nameAndType 5 211), (0, u "([BB)V"), (157, u "(C)Z"), (205, .class_ 576), (0, u "java/lang/CharSequence"), (22, u "CASE_INSENSITIVE_ORDER"), (0, u "Ljava/util/Comparator;"), (181, u "valueOf"), (0, u "(C)Ljava/lang/String;"), (231, .methodref 107 1016), (0, .nameAndType 1017 369), (0, u "canEncode"), (0, .methodref 107 1019), (0, .nameAndType 53 1020), (0, u "(C)[B"), (80, u "serialPersistentFields"), (0, u "[Ljava/io/ObjectStreamField;"), (0, .class_ 1104), (0, u "java/lang/String$CaseInsensitiveComparator"), (1, .class_ 1107), (0, u "java/io/Serializable"), (0, .class_ 1109), (0, u "java/lang/Comparable"), (0, .class_ 1111), (0, u "java/lang/constant/Constable"), (0, .class_ 1113), (0, u "java/lang/constant/ConstantDesc"), (2, u "serialVersionUID"), (0, u "J"), (3, u "REPL"), (0, u "C"), (2, u "LATIN1"), (1, u "UTF16")] 323

def k7m0 : Method := { name := "<init>", desc := "()V", sig := { parameters := [], returnType := none }, accessFlags := 1, code := none }
def k7c1 : Code := { maxStack := 4, maxLocals := 1, code := jdk_42_method_139_code, exceptionTable := #[], attributes := #[] }
def k7m1 : Method := { name := "valueOf", desc := "(C)Ljava/lang/String;", sig := { parameters := [.char], returnType := some (.object "java/lang/String") }, accessFlags := 9, code := some k7c1 }
def k7c2 : Code := { maxStack := 2, maxLocals := 3, code := jdk_42_method_151_code, exceptionTable := #[], attributes := #[] }
def k7m2 : Method := { name := "<init>", desc := "([BB)V", sig := { parameters := [(.array .byte), .byte], returnType := none }, accessFlags := 0, code := some k7c2 }
/-- java/lang/String -/
def k7 : Class := { plain "java/lang/String" (some 0) with
  accessFlags := 49
  interfaces := #[2, 3, 4, 5, 6]
  cf := some (fileOf pool7 10 #[.nestMembers #[1103]] #[{ accessFlags := 1, nameIndex := 5, descriptorIndex := 6, attributes := #[] }, { accessFlags := 9, nameIndex := 782, descriptorIndex := 783, attributes := #[] }, { accessFlags := 0, nameIndex := 5, descriptorIndex := 211, attributes := #[] }] 49 2 #[1106, 1108, 575, 1110, 1112] #[{ accessFlags := 18, nameIndex := 13, descriptorIndex := 14, attributes := #[] }, { accessFlags := 18, nameIndex := 17, descriptorIndex := 18, attributes := #[] }, { accessFlags := 2, nameIndex := 21, descriptorIndex := 22, attributes := #[] }, { accessFlags := 2, nameIndex := 25, descriptorIndex := 26, attributes := #[] }, { accessFlags := 26, nameIndex := 1116, descriptorIndex := 1117, attributes := #[] }, { accessFlags := 24, nameIndex := 40, descriptorIndex := 26, attributes := #[] }, { accessFlags := 26, nameIndex := 1101, descriptorIndex := 1102, attributes := #[] }, { accessFlags := 26, nameIndex := 1121, descriptorIndex := 1122, attributes := #[] }, { accessFlags := 25, nameIndex := 599, descriptorIndex := 600, attributes := #[] }, { accessFlags := 24, nameIndex := 1125, descriptorIndex := 18, attributes := #[] }, { accessFlags := 24, nameIndex := 1127, descriptorIndex := 18, attributes := #[] }])
  fields := #[{ name := "value", type := (.array .byte), accessFlags := 18, slot := 0, constantValue := 0 }, { name := "coder", type := .byte, accessFlags := 18, slot := 1, constantValue := 0 }, { name := "hash", type := .int, accessFlags := 2, slot := 2, constantValue := 0 }, { name := "hashIsZero", type := .boolean, accessFlags := 2, slot := 3, constantValue := 0 }, { name := "serialVersionUID", type := .long, accessFlags := 26, slot := 0, constantValue := 0 }, { name := "COMPACT_STRINGS", type := .boolean, accessFlags := 24, slot := 1, constantValue := 0 }, { name := "serialPersistentFields", type := (.array (.object "java/io/ObjectStreamField")), accessFlags := 26, slot := 2, constantValue := 0 }, { name := "REPL", type := .char, accessFlags := 26, slot := 3, constantValue := 0 }, { name := "CASE_INSENSITIVE_ORDER", type := (.object "java/util/Comparator"), accessFlags := 25, slot := 4, constantValue := 0 }, { name := "LATIN1", type := .byte, accessFlags := 24, slot := 5, constantValue := 0 }, { name := "UTF16", type := .byte, accessFlags := 24, slot := 6, constantValue := 0 }]
  methods := #[k7m0, k7m1, k7m2]
  instanceTypes := #[(.array .byte), .byte, .int, .boolean]
  staticTypes := #[.long, .boolean, (.array (.object "java/io/ObjectStreamField")), .char, (.object "java/util/Comparator"), .byte, .byte]
  resolved := Array.replicate 1451 none
  statics := some 0 }

def pool8 : Array CpInfo := pool [(4, .class_ 6), (1, u "java/lang/Object"), (0, u "<init>"), (0, u "()V"), (5, .class_ 16), (1, u "java/lang/StringLatin1"), (73, u "canEncode"), (14, u "(C)Z"), (15, u "$assertionsDisabled"), (0, u "Z"), (98, .class_ 223), (1, u "java/lang/StringLatin1$LinesSpliterator"), (156, u "toBytes"), (1, u "(C)[B"), (7, .class_ 391), (0, u "java/lang/StringLatin1$CharsSpliterator")] 3

def k8m0 : Method := { name := "<init>", desc := "()V", sig := { parameters := [], returnType := none }, accessFlags := 0, code := none }
def k8c1 : Code := { maxStack := 2, maxLocals := 1, code := jdk_43_method_3_code, exceptionTable := #[], attributes := #[] }
def k8m1 : Method := { name := "canEncode", desc := "(C)Z", sig := { parameters := [.char], returnType := some .boolean }, accessFlags := 9, code := some k8c1 }
def k8c2 : Code := { maxStack := 4, maxLocals := 1, code := jdk_43_method_46_code, exceptionTable := #[], attributes := #[] }
def k8m2 : Method := { name := "toBytes", desc := "(C)[B", sig := { parameters := [.char], returnType := some (.array .byte) }, accessFlags := 9, code := some k8c2 }
/-- java/lang/StringLatin1 -/
def k8 : Class := { plain "java/lang/StringLatin1" (some 0) with
  accessFlags := 48
  interfaces := #[]
  cf := some (fileOf pool8 14 #[.nestMembers #[390, 221]] #[{ accessFlags := 0, nameIndex := 7, descriptorIndex := 8, attributes := #[] }, { accessFlags := 9, nameIndex := 90, descriptorIndex := 105, attributes := #[] }, { accessFlags := 9, nameIndex := 380, descriptorIndex := 382, attributes := #[] }] 48 4 #[] #[{ accessFlags := 4120, nameIndex := 121, descriptorIndex := 122, attributes := #[] }])
  fields := #[{ name := "$assertionsDisabled", type := .boolean, accessFlags := 4120, slot := 0, constantValue := 0 }]
  methods := #[k8m0, k8m1, k8m2]
  instanceTypes := #[]
  staticTypes := #[.boolean]
  resolved := Array.replicate 395 none
  statics := none }

def pool9 : Array CpInfo := pool [(1, .class_ 2), (0, u "com/example/polyvane/polyvane/problem/Problem"), (0, .class_ 4), (0, u "java/lang/Object")] 10

/-- com/example/polyvane/polyvane/problem/Problem -/
def k9 : Class := { plain "com/example/polyvane/polyvane/problem/Problem" (some 0) with
  accessFlags := 1537
  interfaces := #[]
  cf := some (fileOf pool9 1 #[] #[] 1537 3 #[] #[])
  fields := #[]
  methods := #[]
  instanceTypes := #[]
  staticTypes := #[]
  resolved := Array.replicate 15 none
  statics := none }

def pool10 : Array CpInfo := pool [(2, .class_ 4), (1, u "java/lang/Object"), (22, .class_ 29), (1, u "com/example/polyvane/polyvane/problem/Wfg"), (0, u "name"), (0, u "Ljava/lang/String;"), (2, u "shape"), (0, u "Lcom/example/polyvane/polyvane/problem/FrontShape;"), (2, u "objectives"), (0, u "I"), (2, u "position"), (2, u "distance"), (57, .class_ 105), (1, u "com/example/polyvane/polyvane/problem/Wfg$Reduction"), (34, .class_ 141), (0, u "com/example/polyvane/polyvane/problem/Problem"), (0, u "DEFAULT_DISTANCE"), (10, u "evenDistance"), (0, u "(Ljava/lang/String;I)I")] 57

def k10c0 : Code := { maxStack := 4, maxLocals := 2, code := prog_63_method_3_code, exceptionTable := #[], attributes := #[] }
def k10m0 : Method := { name := "evenDistance", desc := "(Ljava/lang/String;I)I", sig := { parameters := [(.object "java/lang/String"), .int], returnType := some .int }, accessFlags := 8, code := some k10c0 }
/-- com/example/polyvane/polyvane/problem/Wfg -/
def k10 : Class := { plain "com/example/polyvane/polyvane/problem/Wfg" (some 0) with
  accessFlags := 1057
  interfaces := #[9]
  cf := some (fileOf pool10 27 #[.nestMembers #[103]] #[{ accessFlags := 8, nameIndex := 153, descriptorIndex := 154, attributes := #[] }] 1057 2 #[140] #[{ accessFlags := 25, nameIndex := 142, descriptorIndex := 39, attributes := #[] }, { accessFlags := 18, nameIndex := 30, descriptorIndex := 31, attributes := #[] }, { accessFlags := 18, nameIndex := 34, descriptorIndex := 35, attributes := #[] }, { accessFlags := 18, nameIndex := 38, descriptorIndex := 39, attributes := #[] }, { accessFlags := 18, nameIndex := 42, descriptorIndex := 39, attributes := #[] }, { accessFlags := 18, nameIndex := 45, descriptorIndex := 39, attributes := #[] }])
  fields := #[{ name := "DEFAULT_DISTANCE", type := .int, accessFlags := 25, slot := 0, constantValue := 0 }, { name := "name", type := (.object "java/lang/String"), accessFlags := 18, slot := 0, constantValue := 0 }, { name := "shape", type := (.object "com/example/polyvane/polyvane/problem/FrontShape"), accessFlags := 18, slot := 1, constantValue := 0 }, { name := "objectives", type := .int, accessFlags := 18, slot := 2, constantValue := 0 }, { name := "position", type := .int, accessFlags := 18, slot := 3, constantValue := 0 }, { name := "distance", type := .int, accessFlags := 18, slot := 4, constantValue := 0 }]
  methods := #[k10m0]
  instanceTypes := #[(.object "java/lang/String"), (.object "com/example/polyvane/polyvane/problem/FrontShape"), .int, .int, .int]
  staticTypes := #[.int]
  resolved := Array.replicate 212 none
  statics := none }

def pool11 : Array CpInfo := pool [(2, .class_ 4), (1, u "java/lang/Object"), (0, u "<init>"), (0, u "()V"), (17, .class_ 26), (1, u "jdk/internal/util/Preconditions"), (28, .class_ 56), (0, u "jdk/internal/util/Preconditions$4"), (57, .class_ 115), (0, u "jdk/internal/util/Preconditions$1"), (7, u "SIOOBE_FORMATTER"), (0, u "Ljava/util/function/BiFunction;"), (0, .class_ 126), (0, u "jdk/internal/util/Preconditions$2"), (3, u "AIOOBE_FORMATTER"), (0, .class_ 132), (0, u "jdk/internal/util/Preconditions$3"), (3, u "IOOBE_FORMATTER")] 57

def k11m0 : Method := { name := "<init>", desc := "()V", sig := { parameters := [], returnType := none }, accessFlags := 1, code := none }
/-- jdk/internal/util/Preconditions -/
def k11 : Class := { plain "jdk/internal/util/Preconditions" (some 0) with
  accessFlags := 33
  interfaces := #[]
  cf := some (fileOf pool11 24 #[.nestMembers #[55, 131, 125, 114]] #[{ accessFlags := 1, nameIndex := 5, descriptorIndex := 6, attributes := #[] }] 33 2 #[] #[{ accessFlags := 25, nameIndex := 123, descriptorIndex := 124, attributes := #[] }, { accessFlags := 25, nameIndex := 130, descriptorIndex := 124, attributes := #[] }, { accessFlags := 25, nameIndex := 136, descriptorIndex := 124, attributes := #[] }])
  fields := #[{ name := "SIOOBE_FORMATTER", type := (.object "java/util/function/BiFunction"), accessFlags := 25, slot := 0, constantValue := 0 }, { name := "AIOOBE_FORMATTER", type := (.object "java/util/function/BiFunction"), accessFlags := 25, slot := 1, constantValue := 0 }, { name := "IOOBE_FORMATTER", type := (.object "java/util/function/BiFunction"), accessFlags := 25, slot := 2, constantValue := 0 }]
  methods := #[k11m0]
  instanceTypes := #[]
  staticTypes := #[(.object "java/util/function/BiFunction"), (.object "java/util/function/BiFunction"), (.object "java/util/function/BiFunction")]
  resolved := Array.replicate 194 none
  statics := some 1 }

def pool12 : Array CpInfo := pool [(9, u "<init>"), (6, .class_ 18), (1, u "java/lang/Object"), (0, u "()V"), (1, .class_ 23), (1, u "jdk/internal/util/ArraysSupport"), (0, u "LOG2_ARRAY_LONG_INDEX_SCALE"), (0, u "I"), (2, u "U"), (0, u "Ljdk/internal/misc/Unsafe;"), (8, u "BIG_ENDIAN"), (0, u "Z"), (8, u "LOG2_BYTE_BIT_SIZE"), (4, u "LOG2_ARRAY_INT_INDEX_SCALE"), (54, u "JLA"), (0, u "Ljdk/internal/access/JavaLangAccess;"), (11, u "LOG2_ARRAY_BOOLEAN_INDEX_SCALE"), (9, u "LOG2_ARRAY_BYTE_INDEX_SCALE"), (5, u "LOG2_ARRAY_CHAR_INDEX_SCALE"), (5, u "LOG2_ARRAY_SHORT_INDEX_SCALE"), (18, u "LOG2_ARRAY_FLOAT_INDEX_SCALE"), (24, u "LOG2_ARRAY_DOUBLE_INDEX_SCALE"), (89, u "T_BOOLEAN"), (2, u "T_CHAR"), (1, u "T_FLOAT"), (1, u "T_DOUBLE"), (1, u "T_BYTE"), (1, u "T_SHORT"), (1, u "T_INT"), (1, u "T_LONG"), (1, u "SOFT_MAX_ARRAY_LENGTH")] 83

def k12m0 : Method := { name := "<init>", desc := "()V", sig := { parameters := [], returnType := none }, accessFlags := 2, code := none }
/-- jdk/internal/util/ArraysSupport -/
def k12 : Class := { plain "jdk/internal/util/ArraysSupport" (some 0) with
  accessFlags := 33
  interfaces := #[]
  cf := some (fileOf pool12 21 #[] #[{ accessFlags := 2, nameIndex := 9, descriptorIndex := 19, attributes := #[] }] 33 16 #[] #[{ accessFlags := 24, nameIndex := 28, descriptorIndex := 29, attributes := #[] }, { accessFlags := 26, nameIndex := 38, descriptorIndex := 39, attributes := #[] }, { accessFlags := 25, nameIndex := 121, descriptorIndex := 25, attributes := #[] }, { accessFlags := 25, nameIndex := 131, descriptorIndex := 25, attributes := #[] }, { accessFlags := 25, nameIndex := 137, descriptorIndex := 25, attributes := #[] }, { accessFlags := 25, nameIndex := 143, descriptorIndex := 25, attributes := #[] }, { accessFlags := 25, nameIndex := 53, descriptorIndex := 25, attributes := #[] }, { accessFlags := 25, nameIndex := 24, descriptorIndex := 25, attributes := #[] }, { accessFlags := 25, nameIndex := 162, descriptorIndex := 25, attributes := #[] }, { accessFlags := 25, nameIndex := 187, descriptorIndex := 25, attributes := #[] }, { accessFlags := 26, nameIndex := 48, descriptorIndex := 25, attributes := #[] }, { accessFlags := 25, nameIndex := 277, descriptorIndex := 25, attributes := #[] }, { accessFlags := 25, nameIndex := 280, descriptorIndex := 25, attributes := #[] }, { accessFlags := 25, nameIndex := 282, descriptorIndex := 25, attributes := #[] }, { accessFlags := 25, nameIndex := 284, descriptorIndex := 25, attributes := #[] }, { accessFlags := 25, nameIndex := 286, descriptorIndex := 25, attributes := #[] }, { accessFlags := 25, nameIndex := 288, descriptorIndex := 25, attributes := #[] }, { accessFlags := 25, nameIndex := 290, descriptorIndex := 25, attributes := #[] }, { accessFlags := 25, nameIndex := 292, descriptorIndex := 25, attributes := #[] }, { accessFlags := 26, nameIndex := 108, descriptorIndex := 109, attributes := #[] }, { accessFlags := 25, nameIndex := 294, descriptorIndex := 25, attributes := #[] }])
  fields := #[{ name := "U", type := (.object "jdk/internal/misc/Unsafe"), accessFlags := 24, slot := 0, constantValue := 0 }, { name := "BIG_ENDIAN", type := .boolean, accessFlags := 26, slot := 1, constantValue := 0 }, { name := "LOG2_ARRAY_BOOLEAN_INDEX_SCALE", type := .int, accessFlags := 25, slot := 2, constantValue := 0 }, { name := "LOG2_ARRAY_BYTE_INDEX_SCALE", type := .int, accessFlags := 25, slot := 3, constantValue := 0 }, { name := "LOG2_ARRAY_CHAR_INDEX_SCALE", type := .int, accessFlags := 25, slot := 4, constantValue := 0 }, { name := "LOG2_ARRAY_SHORT_INDEX_SCALE", type := .int, accessFlags := 25, slot := 5, constantValue := 0 }, { name := "LOG2_ARRAY_INT_INDEX_SCALE", type := .int, accessFlags := 25, slot := 6, constantValue := 0 }, { name := "LOG2_ARRAY_LONG_INDEX_SCALE", type := .int, accessFlags := 25, slot := 7, constantValue := 0 }, { name := "LOG2_ARRAY_FLOAT_INDEX_SCALE", type := .int, accessFlags := 25, slot := 8, constantValue := 0 }, { name := "LOG2_ARRAY_DOUBLE_INDEX_SCALE", type := .int, accessFlags := 25, slot := 9, constantValue := 0 }, { name := "LOG2_BYTE_BIT_SIZE", type := .int, accessFlags := 26, slot := 10, constantValue := 0 }, { name := "T_BOOLEAN", type := .int, accessFlags := 25, slot := 11, constantValue := 0 }, { name := "T_CHAR", type := .int, accessFlags := 25, slot := 12, constantValue := 0 }, { name := "T_FLOAT", type := .int, accessFlags := 25, slot := 13, constantValue := 0 }, { name := "T_DOUBLE", type := .int, accessFlags := 25, slot := 14, constantValue := 0 }, { name := "T_BYTE", type := .int, accessFlags := 25, slot := 15, constantValue := 0 }, { name := "T_SHORT", type := .int, accessFlags := 25, slot := 16, constantValue := 0 }, { name := "T_INT", type := .int, accessFlags := 25, slot := 17, constantValue := 0 }, { name := "T_LONG", type := .int, accessFlags := 25, slot := 18, constantValue := 0 }, { name := "JLA", type := (.object "jdk/internal/access/JavaLangAccess"), accessFlags := 26, slot := 19, constantValue := 0 }, { name := "SOFT_MAX_ARRAY_LENGTH", type := .int, accessFlags := 25, slot := 20, constantValue := 0 }]
  methods := #[k12m0]
  instanceTypes := #[]
  staticTypes := #[(.object "jdk/internal/misc/Unsafe"), .boolean, .int, .int, .int, .int, .int, .int, .int, .int, .int, .int, .int, .int, .int, .int, .int, .int, .int, (.object "jdk/internal/access/JavaLangAccess"), .int]
  resolved := Array.replicate 378 none
  statics := none }

def pool13 : Array CpInfo := pool [(1, u "java/lang/Cloneable"), (0, .class_ 1), (0, u "java/lang/Object"), (0, .class_ 3)] 3

/-- java/lang/Cloneable -/
def k13 : Class := { plain "java/lang/Cloneable" (some 0) with
  accessFlags := 1537
  interfaces := #[]
  cf := some (fileOf pool13 2 #[] #[] 1537 4 #[] #[])
  fields := #[]
  methods := #[]
  instanceTypes := #[]
  staticTypes := #[]
  resolved := Array.replicate 8 none
  statics := none }

/-- the primitive byte -/
def k14 : Class := { plain "byte" none with kind := .primitive 'B', accessFlags := 0x411 }
/-- [B -/
def k15 : Class := { plain "[B" (some 0) with kind := .array 14 .byte, interfaces := #[13, 2], accessFlags := 1041 }

/-- the primitive int -/
def k16 : Class := { plain "int" none with kind := .primitive 'I', accessFlags := 0x411 }
/-- [I -/
def k17 : Class := { plain "[I" (some 0) with kind := .array 16 .int, interfaces := #[13, 2], accessFlags := 1041 }

def heap : Heap := #[{ cls := 7, slots := #[.long 0, .int 1, .null, .int 0, .null, .int 0, .int 0], vm := .statics 7 },
  { cls := 11, slots := #[.null, .null, .null], vm := .statics 11 }]
def classes : Array Class := #[k0, k1, k2, k3, k4, k5, k6, k7, k8, k9, k10, k11, k12, k13, k14, k15, k16, k17]
def interned : List (Array UInt16 × Addr) := []
def slotsUsed : Nat := 10
def theMethod : MethodId := ⟨1, 1⟩
def args0 : Array Value := #[.int 7, .int 65]
def aboutOver (below : List Frame) : State where
  vm := { classes := classes, interned := interned.toArray }
  heap := heap
  slotsUsed := slotsUsed
  threads := #[{ frames := .invoking theMethod args0 :: below }]
def below0 : List Frame := [.native { method := ⟨0, 0⟩, args := #[] }]
def about1 : State := aboutOver below0
def p0 : Program := .bare "" "" ""
def e0 : Env := launch0.env 0 0 0
theorem w_frames : about1.frames = Frame.invoking theMethod args0 :: below0 := rfl
set_option maxRecDepth 65536 in
theorem w_args : argsFit about1.vm theMethod args0 = true := by decide +kernel
set_option maxRecDepth 65536 in
theorem w_heap : heapFits about1 = true := by decide +kernel
set_option maxRecDepth 65536 in
theorem w_runnable : about1.curStatus? = some .runnable := by decide +kernel
set_option maxRecDepth 65536 in
theorem w_alone : about1.alone = true := by decide +kernel
set_option maxRecDepth 65536 in
theorem w_named : about1.methodNamed? x = some theMethod := by decide +kernel
set_option maxRecDepth 65536 in
theorem w_hears : about1.hears theMethod below0 = true := by decide +kernel
set_option maxRecDepth 65536 in
theorem w_ripe : about1.ripe theMethod args0 below0 = true := by decide +kernel
theorem w_running : about1.status = .running := rfl
set_option maxRecDepth 65536 in
theorem w_room : about1.hasRoom e0.platform room_1 = true :=
  launch0.hasRoom_least _ room_1 (by decide +kernel) (by decide +kernel) (by decide +kernel) (by decide +kernel) (by decide +kernel) (by decide +kernel)
theorem allAtoms_all (ts : List Jvm.Cond) (a : Array Jvm.Value) (st : Jvm.State) : (allAtoms ts).before a st = ts.all (fun c => c.before a st) := by
  induction ts with
  | nil => rfl
  | cons c t ih =>
    show (Jvm.Cond.and c (allAtoms t)).before a st = _
    rw [Jvm.Cond.before_and, ih, List.all_cons]
def words1 : List Jvm.Cond := Jvm.Cond.code x code maxLocals ret :: tables_1
/-- a 'code' word, met by the world's own term for the bytes: nothing is compared byte by byte -/
theorem code_word {y : MethodName} {bytes : ByteArray} {mx : Nat} {rt : Option FieldType} {a : Array Value} {s : State} {m : MethodId} {meth : Method} {c : Code} (h1 : s.methodNamed? y = some m) (h2 : s.vm.method? m = some meth) (h3 : meth.code = some c) (h4 : c.code = bytes)
    (h5 : (c.maxLocals == mx && c.exceptionTable.isEmpty && decide (c.maxStack ≤ mostOperands) && decide (meth.sig.returnType = rt) && !meth.locks && decide (parseMethodDescriptor y.desc = some meth.sig)) = true) : (Jvm.Cond.code y bytes mx rt).before a s = true := by
  simp only [Bool.and_eq_true, beq_iff_eq, Bool.not_eq_true', decide_eq_true_eq] at h5
  obtain ⟨⟨⟨⟨⟨g1, g2⟩, g3⟩, g4⟩, g5⟩, g6⟩ := h5
  simp [Cond.before, Cond.holds, Cond.value, h1, h2, h3, h4, g1, g2, g3, g4, g5, g6]
def isCode : Jvm.Cond → Bool
  | .code _ _ _ _ => true
  | _ => false
theorem all_split {L : List Jvm.Cond} {P : Jvm.Cond → Bool} (h1 : L.all (fun c => isCode c || P c) = true) (h2 : ∀ c ∈ L.filter isCode, P c = true) : L.all P = true := by
  refine List.all_eq_true.mpr fun c hc => ?_
  have h := List.all_eq_true.mp h1 c hc
  rcases Bool.eq_false_or_eq_true (isCode c) with hi | hi
  · exact h2 c (List.mem_filter.mpr ⟨hc, hi⟩)
  · simpa [hi] using h
set_option maxRecDepth 65536 in
theorem w_c0 : (Jvm.Cond.code x code maxLocals ret).before args0 about1 = true := code_word (m := ⟨1, 1⟩) (meth := k1m1) (c := k1c1) (by decide +kernel) rfl rfl rfl (by decide +kernel)
set_option maxRecDepth 65536 in
theorem w_c1 : (Jvm.Cond.code ({ cls := "java/lang/String", name := "valueOf", desc := "(C)Ljava/lang/String;" } : Jvm.MethodName) jdk_42_method_139_code (1 : Nat) (Option.some (Jvm.ClassFile.FieldType.object "java/lang/String"))).before args0 about1 = true := code_word (m := ⟨7, 1⟩) (meth := k7m1) (c := k7c1) (by decide +kernel) rfl rfl rfl (by decide +kernel)
set_option maxRecDepth 65536 in
theorem w_c2 : (Jvm.Cond.code ({ cls := "java/lang/StringLatin1", name := "canEncode", desc := "(C)Z" } : Jvm.MethodName) jdk_43_method_3_code (1 : Nat) (Option.some Jvm.ClassFile.FieldType.boolean)).before args0 about1 = true := code_word (m := ⟨8, 1⟩) (meth := k8m1) (c := k8c1) (by decide +kernel) rfl rfl rfl (by decide +kernel)
set_option maxRecDepth 65536 in
theorem w_c3 : (Jvm.Cond.code ({ cls := "java/lang/StringLatin1", name := "toBytes", desc := "(C)[B" } : Jvm.MethodName) jdk_43_method_46_code (1 : Nat) (Option.some (Jvm.ClassFile.FieldType.array Jvm.ClassFile.FieldType.byte))).before args0 about1 = true := code_word (m := ⟨8, 2⟩) (meth := k8m2) (c := k8c2) (by decide +kernel) rfl rfl rfl (by decide +kernel)
set_option maxRecDepth 65536 in
theorem w_c4 : (Jvm.Cond.code ({ cls := "java/lang/String", name := "<init>", desc := "([BB)V" } : Jvm.MethodName) jdk_42_method_151_code (3 : Nat) (Option.none : Option Jvm.ClassFile.FieldType)).before args0 about1 = true := code_word (m := ⟨7, 2⟩) (meth := k7m2) (c := k7c2) (by decide +kernel) rfl rfl rfl (by decide +kernel)
set_option maxRecDepth 65536 in
theorem w_c5 : (Jvm.Cond.code ({ cls := "java/lang/Object", name := "<init>", desc := "()V" } : Jvm.MethodName) object_method_1_code (1 : Nat) (Option.none : Option Jvm.ClassFile.FieldType)).before args0 about1 = true := code_word (m := ⟨0, 0⟩) (meth := k0m0) (c := k0c0) (by decide +kernel) rfl rfl rfl (by decide +kernel)
set_option maxRecDepth 65536 in
theorem w_c6 : (Jvm.Cond.code ({ cls := "com/example/polyvane/polyvane/problem/Wfg", name := "evenDistance", desc := "(Ljava/lang/String;I)I" } : Jvm.MethodName) prog_63_method_3_code (2 : Nat) (Option.some Jvm.ClassFile.FieldType.int)).before args0 about1 = true := code_word (m := ⟨10, 0⟩) (meth := k10m0) (c := k10c0) (by decide +kernel) rfl rfl rfl (by decide +kernel)
def codes1 : List Jvm.Cond := [Jvm.Cond.code x code maxLocals ret, Jvm.Cond.code ({ cls := "java/lang/String", name := "valueOf", desc := "(C)Ljava/lang/String;" } : Jvm.MethodName) jdk_42_method_139_code (1 : Nat) (Option.some (Jvm.ClassFile.FieldType.object "java/lang/String")), Jvm.Cond.code ({ cls := "java/lang/StringLatin1", name := "canEncode", desc := "(C)Z" } : Jvm.MethodName) jdk_43_method_3_code (1 : Nat) (Option.some Jvm.ClassFile.FieldType.boolean), Jvm.Cond.code ({ cls := "java/lang/StringLatin1", name := "toBytes", desc := "(C)[B" } : Jvm.MethodName) jdk_43_method_46_code (1 : Nat) (Option.some (Jvm.ClassFile.FieldType.array Jvm.ClassFile.FieldType.byte)), Jvm.Cond.code ({ cls := "java/lang/String", name := "<init>", desc := "([BB)V" } : Jvm.MethodName) jdk_42_method_151_code (3 : Nat) (Option.none : Option Jvm.ClassFile.FieldType), Jvm.Cond.code ({ cls := "java/lang/Object", name := "<init>", desc := "()V" } : Jvm.MethodName) object_method_1_code (1 : Nat) (Option.none : Option Jvm.ClassFile.FieldType), Jvm.Cond.code ({ cls := "com/example/polyvane/polyvane/problem/Wfg", name := "evenDistance", desc := "(Ljava/lang/String;I)I" } : Jvm.MethodName) prog_63_method_3_code (2 : Nat) (Option.some Jvm.ClassFile.FieldType.int)]
set_option maxRecDepth 65536 in
theorem codes_eq : words1.filter isCode = codes1 := rfl
theorem w_codes : ∀ c ∈ words1.filter isCode, c.before args0 about1 = true := by
  rw [codes_eq]
  intro c hc
  simp only [codes1, List.mem_cons, List.not_mem_nil, or_false] at hc
  rcases hc with rfl | rfl | rfl | rfl | rfl | rfl | rfl
  · exact w_c0
  · exact w_c1
  · exact w_c2
  · exact w_c3
  · exact w_c4
  · exact w_c5
  · exact w_c6
set_option maxRecDepth 65536 in
theorem w_t1 : (words1.take 24).all (fun c => isCode c || c.before args0 about1) = true := by decide +kernel
set_option maxRecDepth 65536 in
theorem w_t2 : (words1.drop 24).all (fun c => isCode c || c.before args0 about1) = true := by decide +kernel
theorem w_tables : (allAtoms (Jvm.Cond.code x code maxLocals ret :: tables_1)).before args0 about1 = true := by
  rw [allAtoms_all]
  show words1.all (fun c => c.before args0 about1) = true
  refine all_split ?_ w_codes
  rw [← List.take_append_drop 24 words1, List.all_append, w_t1, w_t2]
  rfl
set_option maxRecDepth 65536 in
theorem w_rest : rest_1_c.before args0 about1 = true := by decide +kernel
set_option maxRecDepth 65536 in
theorem w_case : (Jvm.Cond.and given_1 narrow_1).before args0 about1 = true := by decide +kernel
theorem w_applies : (headSpec (Jvm.Cond.code x code maxLocals ret :: tables_1) room_1).applies x e0.platform about1 = true :=
  (Spec.applies_iff w_frames).mpr ⟨w_running, w_runnable, w_alone, w_named, w_hears, w_ripe, w_room, w_tables⟩
theorem atStart : AtStart classFile x code maxLocals ret World_1 tables_1 room_1 Calls_1 rest_1 Pre_1 launch0 p0 e0 about1 theMethod args0 below0 :=
  ⟨lists_1, trivial, launch0.admits_env _ _ _, launch0.least_env, fairChoices_fair.cas, fairChoices_fair.clock, w_frames, w_args, w_heap, w_applies, trivial, w_rest, w_case⟩
end start1
theorem witness_1 : WitnessClaimed_1 := ⟨start1.p0, start1.e0, start1.about1, start1.theMethod, start1.args0, start1.below0, start1.atStart⟩
end Jvm.Pilot.@@N@@
