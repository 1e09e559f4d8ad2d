import JvmDerived
import JvmDerived.Pilot.@@N@@Statement
import JvmDerived.Pilot.@@N@@Code
set_option linter.unusedVariables false
set_option linter.unusedSimpArgs false
namespace Jvm.RoadKit
open Sem ClassFile Op Lib Jvm.Stand Jvm.Free Jvm.LawKit
section New
variable {p : Program} {l : Launch} {e : Env} {R : Room} {s : State} {m : MethodId} {args : Array Value} {below : List Frame} {meth : Method} {c : Code} {T : State} {locs : List Loc} {cells slots : Nat}
theorem retI (X : Stand p l e R s m args below meth c T locs cells slots) (hx : p.tables.exec = Jvm.exec) {pc : Nat} {Ls : Array Slot} {z : Int32} {rest : List Value} (hret : meth.sig.returnType = some .int) (hd : decode c.code pc = .ok (.ireturn, 1)) {fs : List Frame}
    (hl : ∀ (f : JFrame) (acts : List Action), f.method = m → f.locked = none → f.entered = [] → (doReturn e (T.setTop f) acts (some (.int z))).1 = T.setFrames fs) : Steps p.tables e below (T.setTop (mkF m pc Ls (.int z :: rest))) (T.setFrames fs) := by
  have hm' : T.vm.method? m = some meth := X.method'
  have hn : narrow .int (.int z) = .int z := rfl
  show Steps p.tables e below (T.setTop { method := m, pc := pc, locals := Ls, stack := _ :: rest, locked := none }) _
  jvm_step X.here [X.here.top, hx, hd, hm', hret, hn]
  first | (intro acts; rw [hl _ acts rfl rfl rfl]) | rw [hl _ _ rfl rfl rfl]
  exact Steps.refl _
end New
end Jvm.RoadKit
@@BLOCK:NumsL.lean.txt@@
namespace Jvm.Pilot.@@N@@
open Jvm Jvm.ClassFile Sem Op Lib Jvm.Free Jvm.Stand Jvm.LawKit Jvm.RoadKit Bundle Jvm.Pilot.@@N@@.Jvm.D
theorem own_eqi {args : Array Value} {first s : State} {o : Option Outcome} {idx : List Nat} {t : Term} {k : Int32} (h : (Jvm.Cond.eq t (.int k)).value args first o s idx = some true) : t.eval args first o idx s = some (.int k) := by
  simp only [Cond.value, Term.eval] at h
  cases ht : t.eval args first o idx s with
  | none => simp [ht] at h
  | some x => cases x <;> simp [ht] at h ⊢; exact h
theorem own_eql {args : Array Value} {first s : State} {o : Option Outcome} {idx : List Nat} {t : Term} {k : Int64} (h : (Jvm.Cond.eq t (.long k)).value args first o s idx = some true) : t.eval args first o idx s = some (.long k) := by
  simp only [Cond.value, Term.eval] at h
  cases ht : t.eval args first o idx s with
  | none => simp [ht] at h
  | some x => cases x <;> simp [ht] at h ⊢; exact h
theorem own_eqr {args : Array Value} {first s : State} {o : Option Outcome} {idx : List Nat} {t u : Term} {a : Addr} (hu : u.eval args first o idx s = some (.ref a)) (h : (Jvm.Cond.eq t u).value args first o s idx = some true) : t.eval args first o idx s = some (.ref a) := by
  simp only [Cond.value, hu] at h
  cases ht : t.eval args first o idx s with
  | none => simp [ht] at h
  | some x => cases x <;> simp [ht] at h ⊢; exact h
theorem own_fld {args : Array Value} {s : State} {t : Term} {x : Addr} {C n d : String} {v : Value} (ht : t.eval args s none [] s = some (.ref x)) (h : (Term.field t C n d).eval args s none [] s = some v) : Fld s s.heap x C n d v := Fld.start ((fld_at ht).symm.trans h)
theorem own_exa_ns {Z : State} {h : Heap} {a : Addr} {C : String} (F : Exa Z h a C) : ∀ c : Cell, h[a]? = some c → c.vm.isStatics = false := fun c hc => by
  obtain ⟨cell, k, h1, -, -, h4, -⟩ := F
  cases h1.symm.trans hc
  exact h4
theorem own_sta_keep {Z : State} {h h' : Heap} {C n d : String} {v : Value} {ws : List Addr} (F : Sta Z h C n d v) (K : Keep h h' ws) (hn : ∀ x ∈ ws, ∀ c : Cell, h[x]? = some c → c.vm.isStatics = false) : Sta Z h' C n d v := by
  obtain ⟨cf, i, k, f, st, cell, h1, h2, h3, h4, h5, h6, h7⟩ := F
  refine ⟨cf, i, k, f, st, cell, h1, h2, h3, h4, K.2.1 st cell h5 (fun q => ?_), h6, h7⟩
  rw [hn st q cell h5] at h6
  cases h6
theorem own_c255e (x : Int32) : ((x &&& (255 : Int32)).toUInt32.toUInt16.toUInt32.toInt32) = (x &&& (255 : Int32)) := by
  apply Int32.toBitVec_inj.mp
  show ((x.toBitVec &&& 255#32).setWidth 16).setWidth 32 = x.toBitVec &&& 255#32
  apply BitVec.eq_of_toNat_eq
  have h : (x.toBitVec &&& 255#32).toNat < 256 := by
    rw [BitVec.toNat_and]
    exact Nat.lt_of_le_of_lt Nat.and_le_right (by decide)
  simp only [BitVec.toNat_setWidth]
  omega
theorem own_c255 (x : Int32) : ¬ (255 : Int32) < ((x &&& (255 : Int32)).toUInt32.toUInt16.toUInt32.toInt32) := by
  have e : (x &&& (255 : Int32)).toInt = x.toInt % 2 ^ 8 := Jvm.Kit.i32_mask x 255 (k := 8) (by decide) (by decide)
  rw [own_c255e, Int32.lt_iff_toInt_lt, e]
  show ¬ (255 : Int) < _
  omega
theorem own_c255n (x : Int32) : ¬ (255 : Int32) < (nar .char ((x &&& (255 : Int32)).toUInt32.toUInt16.toUInt32.toInt32)) := by
  rw [own_c255e]
  exact own_c255 x
theorem own_val {x : UInt64} (h : x.toNat ≤ 4607182418800017408) : Jvm.Free.Fl.NoNaN64 x := by
  unfold Jvm.Free.Fl.NoNaN64
  rw [UInt64.le_iff_toNat_le, UInt64.toNat_and]
  exact Nat.le_trans Nat.and_le_left (Nat.le_trans h (by decide))
theorem own_nn {x : UInt64} (h : Jvm.Free.Fl.NoNaN64 x) : FP.Core.val64 x ≠ .nan := fun q => by
  have b : FP.Core.dcmp x x = none := (FP.Core.dcmp_none x x).mpr (Or.inl q)
  have c := dcmpV_self h .l
  rw [show FP.dcmp x x = FP.Core.dcmp x x from rfl, b] at c
  exact absurd c (by decide)
theorem own_ge0 {x : UInt64} (h : x.toNat ≤ 4607182418800017408) : ¬ cmpValue (FP.dcmp x 0) .l < 0 := by
  have e : FP.dcmp x 0 = some (compare (FP.Core.dkey x) (FP.Core.dkey 0)) := FP.Core.dcmp_key (own_nn (own_val h)) (own_nn (own_val (by decide)))
  have k : FP.Core.dkey x = (x.toNat : Int) := by unfold FP.Core.dkey; rw [if_neg]; omega
  have k0 : FP.Core.dkey 0 = 0 := by decide
  rw [e, k, k0]
  rcases h1 : compare (x.toNat : Int) 0 with _ | _ | _
  · rw [Int.compare_eq_lt] at h1; omega
  · decide
  · decide
theorem own_le1 {x : UInt64} (h : x.toNat ≤ 4607182418800017408) : ¬ 0 < cmpValue (FP.dcmp x 4607182418800017408) .g := by
  have e : FP.dcmp x 4607182418800017408 = some (compare (FP.Core.dkey x) (FP.Core.dkey 4607182418800017408)) := FP.Core.dcmp_key (own_nn (own_val h)) (own_nn (own_val (by decide)))
  have k : FP.Core.dkey x = (x.toNat : Int) := by unfold FP.Core.dkey; rw [if_neg]; omega
  have k0 : FP.Core.dkey 4607182418800017408 = 4607182418800017408 := by decide
  rw [e, k, k0]
  rcases h1 : compare (x.toNat : Int) 4607182418800017408 with _ | _ | _
  · decide
  · decide
  · rw [Int.compare_eq_gt] at h1; omega
def own_chk (n k : Nat) : Bool := Nat.ble (FP.ddiv (FP.i2d (Int32.ofNat k)) (FP.i2d (Int32.ofNat (n + 1)))).toNat 4607182418800017408
def own_row (n : Nat) : Bool := (List.range (n + 2)).all fun k => own_chk n k
theorem own_t0 : (List.range 16).all (fun n => own_row (n + 0)) = true := by decide +kernel
theorem own_t1 : (List.range 16).all (fun n => own_row (n + 16)) = true := by decide +kernel
theorem own_t2 : (List.range 16).all (fun n => own_row (n + 32)) = true := by decide +kernel
theorem own_t3 : (List.range 16).all (fun n => own_row (n + 48)) = true := by decide +kernel
theorem own_t4 : (List.range 16).all (fun n => own_row (n + 64)) = true := by decide +kernel
theorem own_t5 : (List.range 16).all (fun n => own_row (n + 80)) = true := by decide +kernel
theorem own_t6 : (List.range 16).all (fun n => own_row (n + 96)) = true := by decide +kernel
theorem own_t7 : (List.range 16).all (fun n => own_row (n + 112)) = true := by decide +kernel
theorem own_t8 : (List.range 16).all (fun n => own_row (n + 128)) = true := by decide +kernel
theorem own_t9 : (List.range 16).all (fun n => own_row (n + 144)) = true := by decide +kernel
theorem own_t10 : (List.range 16).all (fun n => own_row (n + 160)) = true := by decide +kernel
theorem own_t11 : (List.range 16).all (fun n => own_row (n + 176)) = true := by decide +kernel
theorem own_t12 : (List.range 16).all (fun n => own_row (n + 192)) = true := by decide +kernel
theorem own_t13 : (List.range 16).all (fun n => own_row (n + 208)) = true := by decide +kernel
theorem own_t14 : (List.range 16).all (fun n => own_row (n + 224)) = true := by decide +kernel
theorem own_t15 : (List.range 16).all (fun n => own_row (n + 240)) = true := by decide +kernel
theorem own_rowOk (n : Nat) (h : n < 256) : own_row n = true := by
  have g : ∀ i, i * 16 ≤ n → n < i * 16 + 16 → (List.range 16).all (fun n => own_row (n + i * 16)) = true → own_row n = true := fun i h1 h2 t => by
    have q := List.all_eq_true.mp t (n - i * 16) (List.mem_range.mpr (by omega))
    rwa [Nat.sub_add_cancel h1] at q
  by_cases h0 : n < 16
  · exact g 0 (by omega) (by omega) own_t0
  by_cases h1 : n < 32
  · exact g 1 (by omega) (by omega) own_t1
  by_cases h2 : n < 48
  · exact g 2 (by omega) (by omega) own_t2
  by_cases h3 : n < 64
  · exact g 3 (by omega) (by omega) own_t3
  by_cases h4 : n < 80
  · exact g 4 (by omega) (by omega) own_t4
  by_cases h5 : n < 96
  · exact g 5 (by omega) (by omega) own_t5
  by_cases h6 : n < 112
  · exact g 6 (by omega) (by omega) own_t6
  by_cases h7 : n < 128
  · exact g 7 (by omega) (by omega) own_t7
  by_cases h8 : n < 144
  · exact g 8 (by omega) (by omega) own_t8
  by_cases h9 : n < 160
  · exact g 9 (by omega) (by omega) own_t9
  by_cases h10 : n < 176
  · exact g 10 (by omega) (by omega) own_t10
  by_cases h11 : n < 192
  · exact g 11 (by omega) (by omega) own_t11
  by_cases h12 : n < 208
  · exact g 12 (by omega) (by omega) own_t12
  by_cases h13 : n < 224
  · exact g 13 (by omega) (by omega) own_t13
  by_cases h14 : n < 240
  · exact g 14 (by omega) (by omega) own_t14
  by_cases h15 : n < 256
  · exact g 15 (by omega) (by omega) own_t15
  omega
theorem own_nat {x : Int32} (h : 0 ≤ x.toInt) : x = Int32.ofNat x.toInt.toNat := by
  apply Int32.toInt_inj.mp
  have h2 := x.toInt_lt
  rw [Int32.toInt_ofNat_small (by omega)]
  omega
theorem own_N (p2 : Int32) : ((p2 &&& (255 : Int32)) + (1 : Int32)).toInt = p2.toInt % 256 + 1 ∧ (((p2 &&& (255 : Int32)) + (1 : Int32)) + (1 : Int32)).toInt = p2.toInt % 256 + 2 := by
  have e : (p2 &&& (255 : Int32)).toInt = p2.toInt % 2 ^ 8 := Jvm.Kit.i32_mask p2 255 (k := 8) (by decide) (by decide)
  have o : (1 : Int32).toInt = 1 := rfl
  have e1 : ((p2 &&& (255 : Int32)) + (1 : Int32)).toInt = (p2 &&& (255 : Int32)).toInt + (1 : Int32).toInt := Jvm.Kit.i32_add (by rw [e, o]; omega) (by rw [e, o]; omega)
  have e2 : (((p2 &&& (255 : Int32)) + (1 : Int32)) + (1 : Int32)).toInt = ((p2 &&& (255 : Int32)) + (1 : Int32)).toInt + (1 : Int32).toInt := Jvm.Kit.i32_add (by rw [e1, e, o]; omega) (by rw [e1, e, o]; omega)
  rw [e2, e1, e, o]
  omega
theorem own_nz (p2 : Int32) : (((p2 &&& (255 : Int32)) + (1 : Int32)) + (1 : Int32)) ≠ 0 := fun q => by
  have e := (own_N p2).2
  rw [q] at e
  have : (0 : Int32).toInt = 0 := rfl
  omega
theorem own_q0 {K N : Int32} {n : Nat} (hn : n < 256) (hN : N.toInt = (n : Int) + 1) (h0 : 0 ≤ K.toInt) (h1 : K.toInt ≤ (n : Int) + 1) : (FP.ddiv (FP.i2d K) (FP.i2d N)).toNat ≤ 4607182418800017408 := by
  rw [own_nat (x := K) h0, own_nat (x := N) (by omega)]
  have e : N.toInt.toNat = n + 1 := by omega
  rw [e]
  have q := List.all_eq_true.mp (own_rowOk n hn) K.toInt.toNat (List.mem_range.mpr (by omega))
  exact Nat.le_of_ble_eq_true q
theorem own_q (p1 p2 : Int32) : (FP.ddiv (FP.i2d ((p1 &&& (2147483647 : Int32)) % (((p2 &&& (255 : Int32)) + (1 : Int32)) + (1 : Int32)))) (FP.i2d ((p2 &&& (255 : Int32)) + (1 : Int32)))).toNat ≤ 4607182418800017408 := by
  obtain ⟨e1, e2⟩ := own_N p2
  have m : (p1 &&& (2147483647 : Int32)).toInt = p1.toInt % 2 ^ 31 := Jvm.Kit.i32_mask p1 2147483647 (k := 31) (by decide) (by decide)
  have r : ((p1 &&& (2147483647 : Int32)) % (((p2 &&& (255 : Int32)) + (1 : Int32)) + (1 : Int32))).toInt = (p1 &&& (2147483647 : Int32)).toInt % (((p2 &&& (255 : Int32)) + (1 : Int32)) + (1 : Int32)).toInt := Jvm.Kit.i32_rem_nonneg (by rw [m]; omega)
  have r1 := Int.emod_nonneg (p1 &&& (2147483647 : Int32)).toInt (show (((p2 &&& (255 : Int32)) + (1 : Int32)) + (1 : Int32)).toInt ≠ 0 by omega)
  have r2 := Int.emod_lt_of_pos (p1 &&& (2147483647 : Int32)).toInt (show 0 < (((p2 &&& (255 : Int32)) + (1 : Int32)) + (1 : Int32)).toInt by omega)
  rw [← r] at r1 r2
  exact own_q0 (n := (p2.toInt % 256).toNat) (by omega) (by omega) r1 (by omega)
theorem d_jdk_52m21_0 : decode jdk_52_method_21_code 0 = .ok (.iconst 0, 1) := by decide +kernel
theorem d_jdk_52m21_1 : decode jdk_52_method_21_code 1 = .ok (.istore 5, 2) := by decide +kernel
theorem d_jdk_52m21_3 : decode jdk_52_method_21_code 3 = .ok (.iload 5, 2) := by decide +kernel
theorem d_jdk_52m21_5 : decode jdk_52_method_21_code 5 = .ok (.iload 4, 2) := by decide +kernel
theorem d_jdk_52m21_7 : decode jdk_52_method_21_code 7 = .ok (.if_icmp .ge 37, 3) := by decide +kernel
theorem d_jdk_52m21_10 : decode jdk_52_method_21_code 10 = .ok (.aload_n 0, 1) := by decide +kernel
theorem d_jdk_52m21_11 : decode jdk_52_method_21_code 11 = .ok (.iload_n 1, 1) := by decide +kernel
theorem d_jdk_52m21_12 : decode jdk_52_method_21_code 12 = .ok (.caload, 1) := by decide +kernel
theorem d_jdk_52m21_13 : decode jdk_52_method_21_code 13 = .ok (.istore 6, 2) := by decide +kernel
theorem d_jdk_52m21_15 : decode jdk_52_method_21_code 15 = .ok (.iload 6, 2) := by decide +kernel
theorem d_jdk_52m21_17 : decode jdk_52_method_21_code 17 = .ok (.sipush 255, 3) := by decide +kernel
theorem d_jdk_52m21_20 : decode jdk_52_method_21_code 20 = .ok (.if_icmp .le 6, 3) := by decide +kernel
theorem d_jdk_52m21_26 : decode jdk_52_method_21_code 26 = .ok (.aload_n 2, 1) := by decide +kernel
theorem d_jdk_52m21_27 : decode jdk_52_method_21_code 27 = .ok (.iload_n 3, 1) := by decide +kernel
theorem d_jdk_52m21_28 : decode jdk_52_method_21_code 28 = .ok (.iload 6, 2) := by decide +kernel
theorem d_jdk_52m21_30 : decode jdk_52_method_21_code 30 = .ok (.i2b, 1) := by decide +kernel
theorem d_jdk_52m21_31 : decode jdk_52_method_21_code 31 = .ok (.bastore, 1) := by decide +kernel
theorem d_jdk_52m21_32 : decode jdk_52_method_21_code 32 = .ok (.iinc 1 1, 3) := by decide +kernel
theorem d_jdk_52m21_35 : decode jdk_52_method_21_code 35 = .ok (.iinc 3 1, 3) := by decide +kernel
theorem d_jdk_52m21_38 : decode jdk_52_method_21_code 38 = .ok (.iinc 5 1, 3) := by decide +kernel
theorem d_jdk_52m21_41 : decode jdk_52_method_21_code 41 = .ok (.goto (-38), 3) := by decide +kernel
theorem d_jdk_52m21_44 : decode jdk_52_method_21_code 44 = .ok (.iload 4, 2) := by decide +kernel
theorem d_jdk_52m21_46 : decode jdk_52_method_21_code 46 = .ok (.ireturn, 1) := by decide +kernel
theorem pn_0 : plainName "java/lang/StringUTF16" = true := by first | (simp [plainName, overriddenIn]; done) | decide +kernel
theorem ef_cmp5_2 (mM : MethodId) (x0 : Addr) (x1 : Int32) (x2 : Addr) (x3 : Int32) (x4 : Int32) : entryFrame mM #[(.ref x0), (.int x1), (.ref x2), (.int x3), (.int x4)] 7 = mkF mM 0 #[.val (.ref x0), .val (.int x1), .val (.ref x2), .val (.int x3), .val (.int x4), .unset, .unset] [] := by first | (simp [entryFrame, mkF, argsToLocals, Value.category]; done) | rfl
def Q_cmp5_2 (Z : State) (s : Addr) (d : Addr) (ks : ClassId) (kd : ClassId) (c0 : Int32) (c1 : Int32) (h0 : Heap) (n0 : Nat) (v_ : Option Value) (h_ : Heap) (L_ : List Loc) : Prop := v_ = some (.int (2 : Int32)) ∧ Fr n0 L_ ∧ Keep h0 h_ [d] ∧ Arv Z h_ d kd .byte (2 : Int32) [(.int (nar .byte (c0.toInt8.toInt32))), (.int (nar .byte (c1.toInt8.toInt32)))] (.int (0 : Int32))
set_option maxRecDepth 65536 in
set_option maxHeartbeats 40000000 in
theorem rm_cmp5_2 (l : Launch) (Z : State) (a0 : Array Value) (hw : ∀ d ∈ tables_1, d.before a0 Z = true) (ws : List Jvm.Cond) (s : Addr) (d : Addr) (ks : ClassId) (kd : ClassId) (c0 : Int32) (c1 : Int32) (h0 : Heap) (n0 : Nat) (Z0 : n0 ≤ h0.size) (V_s : Arv Z h0 s ks .char (2 : Int32) [(.int c0), (.int c1)] (.int (0 : Int32))) (V_d : Arv Z h0 d kd .byte (2 : Int32) [(.int (0 : Int32)), (.int (0 : Int32))] (.int (0 : Int32))) (g_d : n0 ≤ d) (nsd : s ≠ d) (hc0 : ¬ (255 : Int32) < c0) (hc1 : ¬ (255 : Int32) < c1) :
    MetFree l (⟨"java/lang/StringUTF16", "compress", "([CI[BII)I"⟩ : MethodName) (head1 (Jvm.Cond.code (⟨"java/lang/StringUTF16", "compress", "([CI[BII)I"⟩ : MethodName) jdk_52_method_21_code 7 (some .int) :: ws) ({ frames := 0, cells := 0, slots := 0, locals := 0 } : Room)) (fun aa_ U_ => aa_ = #[(.ref s), (.int (0 : Int32)), (.ref d), (.int (0 : Int32)), (.int (2 : Int32))] ∧ Z.Warmed39 U_.vm ∧ U_.heap = h0) (fun _ _ _ _ _ => True) (fun _ U_ o_ U'_ => ∃ v_ L_, o_ = .returned v_ ∧ Q_cmp5_2 Z s d ks kd c0 c1 h0 n0 v_ U'_.heap L_ ∧ FrameEnd U_ o_ U'_ L_ ({ frames := 0, cells := 0, slots := 0, locals := 0 } : Room).cells ({ frames := 0, cells := 0, slots := 0, locals := 0 } : Room).slots) := by
  refine MetFree.of_bodySF (plainFor_of_name pn_0) hisR ?_
  intro pP eE sS mM argsA below meth cC s₁ Bd hml0 hP hK
  obtain ⟨rfl, hZ, hh⟩ := hP
  have hx := Bd.exec
  have hby := Bd.bytes
  have hml : cC.maxLocals = 7 := hml0
  have hown : sS.vm.findClass "java/lang/StringUTF16" = some mM.cls := findClass_of_methodNamed Bd.named
  have hnm := (name_of_methodNamed Bd.named Bd.method).1
  have X0 : Stand pP l eE ({ frames := 0, cells := 0, slots := 0, locals := 0 } : Room) sS mM #[(.ref s), (.int (0 : Int32)), (.ref d), (.int (0 : Int32)), (.int (2 : Int32))] below meth cC s₁ [] 0 0 := Stand.of_body Bd
  have e0 : s₁.heap = h0 := by rw [← hh, Bd.state]; rfl
  have N0 := Fr.nil n0
  have pre0 : ∀ t_, Steps pP.tables eE below (s₁.setTop (mkF mM 0 #[.val (.ref s), .val (.int (0 : Int32)), .val (.ref d), .val (.int (0 : Int32)), .val (.int (2 : Int32)), .unset, .unset] [])) t_ → Steps pP.tables eE below (s₁.setTop (entryFrame mM #[(.ref s), (.int (0 : Int32)), (.ref d), (.int (0 : Int32)), (.int (2 : Int32))] 7)) t_ := fun t_ k_ => castTop (ef_cmp5_2 mM s (0 : Int32) d (0 : Int32) (2 : Int32)) k_
  obtain ⟨cl_1, Ar_1, qa_1, Sa_1, Na_1, Ha_1, Ga_1⟩ := id V_s
  have hin_1 : ¬ ((0 : Int32) < 0 ∨ cl_1.slots.size ≤ ((0 : Int32)).toNatClampNeg) := inb_of Sa_1 ⟨by decide, by decide⟩
  have hat_1 : cl_1.slots[((0 : Int32)).toNatClampNeg]? = some (.int c0) := Has.at Ha_1 hin_1 rfl
  obtain ⟨cl_2, Ar_2, qa_2, Sa_2, Na_2, Ha_2, Ga_2⟩ := id V_d
  have hin_2 : ¬ ((0 : Int32) < 0 ∨ cl_2.slots.size ≤ ((0 : Int32)).toNatClampNeg) := inb_of Sa_2 ⟨by decide, by decide⟩
  obtain ⟨T_2, h_2, X_2, e_2, W_2, st_2⟩ := stB X0 hx hZ e0 Ar_2 (j := (0 : Int32)) hin_2 (g := (mkF mM 31 #[.val (.ref s), .val (.int (0 : Int32)), .val (.ref d), .val (.int (0 : Int32)), .val (.int (2 : Int32)), .val (.int (0 : Int32)), .val (.int c0)] [(.int (c0.toInt8.toInt32)), (.int (0 : Int32)), (.ref d)])) rfl rfl (hb hby d_jdk_52m21_31)
  have V_2 : Arv Z h_2 d kd .byte (2 : Int32) [(.int (nar .byte (c0.toInt8.toInt32))), (.int (0 : Int32))] (.int (0 : Int32)) := Arv.set Ar_2 qa_2 Sa_2 Na_2 Ha_2 Ga_2 (fits_nar_byte _) W_2 0 rfl (Nat.le_of_ble_eq_true rfl)
  have Z_2 : n0 ≤ h_2.size := (Nat.le_trans Z0 (Keep.of_wr W_2).1)
  have K_2 : Keep h0 h_2 [d] := (Keep.refl h0 [d]).wr W_2 (Or.inl (List.mem_of_getElem? (i := 0) rfl))
  have N_2 := Fr.snoc X_2 N0 g_d
  obtain ⟨cl_3, Ar_3, qa_3, Sa_3, Na_3, Ha_3, Ga_3⟩ := id (V_s.other W_2 nsd)
  have hin_3 : ¬ ((1 : Int32) < 0 ∨ cl_3.slots.size ≤ ((1 : Int32)).toNatClampNeg) := inb_of Sa_3 ⟨by decide, by decide⟩
  have hat_3 : cl_3.slots[((1 : Int32)).toNatClampNeg]? = some (.int c1) := Has.at Ha_3 hin_3 rfl
  obtain ⟨cl_4, Ar_4, qa_4, Sa_4, Na_4, Ha_4, Ga_4⟩ := id V_2
  have hin_4 : ¬ ((1 : Int32) < 0 ∨ cl_4.slots.size ≤ ((1 : Int32)).toNatClampNeg) := inb_of Sa_4 ⟨by decide, by decide⟩
  obtain ⟨T_4, h_4, X_4, e_4, W_4, st_4⟩ := stB X_2 hx hZ e_2 Ar_4 (j := (1 : Int32)) hin_4 (g := (mkF mM 31 #[.val (.ref s), .val (.int (1 : Int32)), .val (.ref d), .val (.int (1 : Int32)), .val (.int (2 : Int32)), .val (.int (1 : Int32)), .val (.int c1)] [(.int (c1.toInt8.toInt32)), (.int (1 : Int32)), (.ref d)])) rfl rfl (hb hby d_jdk_52m21_31)
  have V_4 : Arv Z h_4 d kd .byte (2 : Int32) [(.int (nar .byte (c0.toInt8.toInt32))), (.int (nar .byte (c1.toInt8.toInt32)))] (.int (0 : Int32)) := Arv.set Ar_4 qa_4 Sa_4 Na_4 Ha_4 Ga_4 (fits_nar_byte _) W_4 1 rfl (Nat.le_of_ble_eq_true rfl)
  have Z_4 : n0 ≤ h_4.size := (Nat.le_trans Z_2 (Keep.of_wr W_4).1)
  have K_4 : Keep h0 h_4 [d] := K_2.wr W_4 (Or.inl (List.mem_of_getElem? (i := 0) rfl))
  have N_4 := Fr.snoc X_4 N_2 g_d
  obtain ⟨fs, hr, hrun, hended, hW, hsame⟩ := X_4.leave (v := some (.int (2 : Int32))) (fun h => by rw [Bd.returns] at h; cases h)
  refine ⟨_, _, pre0 _ ?_, hrun, hended, _, _, rfl, ?_, ⟨_, rfl⟩, hW, hsame.mono (by decide) (by decide)⟩
  · show Steps pP.tables eE below (s₁.setTop (mkF mM 0 #[.val (.ref s), .val (.int (0 : Int32)), .val (.ref d), .val (.int (0 : Int32)), .val (.int (2 : Int32)), .unset, .unset] [])) _
    refine XS.iconst X0.here hx rfl (hb hby d_jdk_52m21_0) ?_
    show Steps pP.tables eE below (s₁.setTop (mkF mM 1 #[.val (.ref s), .val (.int (0 : Int32)), .val (.ref d), .val (.int (0 : Int32)), .val (.int (2 : Int32)), .unset, .unset] [(.int (0 : Int32))])) _
    refine XS.istore X0.here hx rfl (hb hby d_jdk_52m21_1) rfl (l' := #[.val (.ref s), .val (.int (0 : Int32)), .val (.ref d), .val (.int (0 : Int32)), .val (.int (2 : Int32)), .val (.int (0 : Int32)), .unset]) rfl ?_
    show Steps pP.tables eE below (s₁.setTop (mkF mM 3 #[.val (.ref s), .val (.int (0 : Int32)), .val (.ref d), .val (.int (0 : Int32)), .val (.int (2 : Int32)), .val (.int (0 : Int32)), .unset] [])) _
    refine XS.iload X0.here hx rfl (hb hby d_jdk_52m21_3) rfl ?_
    show Steps pP.tables eE below (s₁.setTop (mkF mM 5 #[.val (.ref s), .val (.int (0 : Int32)), .val (.ref d), .val (.int (0 : Int32)), .val (.int (2 : Int32)), .val (.int (0 : Int32)), .unset] [(.int (0 : Int32))])) _
    refine XS.iload X0.here hx rfl (hb hby d_jdk_52m21_5) rfl ?_
    show Steps pP.tables eE below (s₁.setTop (mkF mM 7 #[.val (.ref s), .val (.int (0 : Int32)), .val (.ref d), .val (.int (0 : Int32)), .val (.int (2 : Int32)), .val (.int (0 : Int32)), .unset] [(.int (2 : Int32)), (.int (0 : Int32))])) _
    refine XS.icmpNo X0.here hx rfl (hb hby d_jdk_52m21_7) rfl (by decide) ?_
    show Steps pP.tables eE below (s₁.setTop (mkF mM 10 #[.val (.ref s), .val (.int (0 : Int32)), .val (.ref d), .val (.int (0 : Int32)), .val (.int (2 : Int32)), .val (.int (0 : Int32)), .unset] [])) _
    refine XS.aloadN X0.here hx rfl (hb hby d_jdk_52m21_10) rfl rfl ?_
    show Steps pP.tables eE below (s₁.setTop (mkF mM 11 #[.val (.ref s), .val (.int (0 : Int32)), .val (.ref d), .val (.int (0 : Int32)), .val (.int (2 : Int32)), .val (.int (0 : Int32)), .unset] [(.ref s)])) _
    refine XS.iloadN X0.here hx rfl (hb hby d_jdk_52m21_11) rfl ?_
    show Steps pP.tables eE below (s₁.setTop (mkF mM 12 #[.val (.ref s), .val (.int (0 : Int32)), .val (.ref d), .val (.int (0 : Int32)), .val (.int (2 : Int32)), .val (.int (0 : Int32)), .unset] [(.int (0 : Int32)), (.ref s)])) _
    refine X0.caload hx (j := (0 : Int32)) (v := (.int c0)) (by rw [e0]; exact Ar_1.1) (State.isArrayOf_alike hZ.alike Ar_1.2.1) Ar_1.2.2 hin_1 hat_1 (g := (mkF mM 12 #[.val (.ref s), .val (.int (0 : Int32)), .val (.ref d), .val (.int (0 : Int32)), .val (.int (2 : Int32)), .val (.int (0 : Int32)), .unset] [(.int (0 : Int32)), (.ref s)])) rfl rfl (hb hby d_jdk_52m21_12) _ ?_
    show Steps pP.tables eE below (s₁.setTop (mkF mM 13 #[.val (.ref s), .val (.int (0 : Int32)), .val (.ref d), .val (.int (0 : Int32)), .val (.int (2 : Int32)), .val (.int (0 : Int32)), .unset] [(.int c0)])) _
    refine XS.istore X0.here hx rfl (hb hby d_jdk_52m21_13) rfl (l' := #[.val (.ref s), .val (.int (0 : Int32)), .val (.ref d), .val (.int (0 : Int32)), .val (.int (2 : Int32)), .val (.int (0 : Int32)), .val (.int c0)]) rfl ?_
    show Steps pP.tables eE below (s₁.setTop (mkF mM 15 #[.val (.ref s), .val (.int (0 : Int32)), .val (.ref d), .val (.int (0 : Int32)), .val (.int (2 : Int32)), .val (.int (0 : Int32)), .val (.int c0)] [])) _
    refine XS.iload X0.here hx rfl (hb hby d_jdk_52m21_15) rfl ?_
    show Steps pP.tables eE below (s₁.setTop (mkF mM 17 #[.val (.ref s), .val (.int (0 : Int32)), .val (.ref d), .val (.int (0 : Int32)), .val (.int (2 : Int32)), .val (.int (0 : Int32)), .val (.int c0)] [(.int c0)])) _
    refine XS.sipush X0.here hx rfl (hb hby d_jdk_52m21_17) ?_
    show Steps pP.tables eE below (s₁.setTop (mkF mM 20 #[.val (.ref s), .val (.int (0 : Int32)), .val (.ref d), .val (.int (0 : Int32)), .val (.int (2 : Int32)), .val (.int (0 : Int32)), .val (.int c0)] [(.int (255 : Int32)), (.int c0)])) _
    refine XS.icmpYes X0.here hx rfl (pc0 := 20) (pc' := 26) rfl (hb hby d_jdk_52m21_20) rfl (XT.ii_le_t hc0) (by decide) (by decide) ?_
    show Steps pP.tables eE below (s₁.setTop (mkF mM 26 #[.val (.ref s), .val (.int (0 : Int32)), .val (.ref d), .val (.int (0 : Int32)), .val (.int (2 : Int32)), .val (.int (0 : Int32)), .val (.int c0)] [])) _
    refine XS.aloadN X0.here hx rfl (hb hby d_jdk_52m21_26) rfl rfl ?_
    show Steps pP.tables eE below (s₁.setTop (mkF mM 27 #[.val (.ref s), .val (.int (0 : Int32)), .val (.ref d), .val (.int (0 : Int32)), .val (.int (2 : Int32)), .val (.int (0 : Int32)), .val (.int c0)] [(.ref d)])) _
    refine XS.iloadN X0.here hx rfl (hb hby d_jdk_52m21_27) rfl ?_
    show Steps pP.tables eE below (s₁.setTop (mkF mM 28 #[.val (.ref s), .val (.int (0 : Int32)), .val (.ref d), .val (.int (0 : Int32)), .val (.int (2 : Int32)), .val (.int (0 : Int32)), .val (.int c0)] [(.int (0 : Int32)), (.ref d)])) _
    refine XS.iload X0.here hx rfl (hb hby d_jdk_52m21_28) rfl ?_
    show Steps pP.tables eE below (s₁.setTop (mkF mM 30 #[.val (.ref s), .val (.int (0 : Int32)), .val (.ref d), .val (.int (0 : Int32)), .val (.int (2 : Int32)), .val (.int (0 : Int32)), .val (.int c0)] [(.int c0), (.int (0 : Int32)), (.ref d)])) _
    refine XT.i2b X0.here hx rfl (hb hby d_jdk_52m21_30) rfl ?_
    show Steps pP.tables eE below (s₁.setTop (mkF mM 31 #[.val (.ref s), .val (.int (0 : Int32)), .val (.ref d), .val (.int (0 : Int32)), .val (.int (2 : Int32)), .val (.int (0 : Int32)), .val (.int c0)] [(.int (c0.toInt8.toInt32)), (.int (0 : Int32)), (.ref d)])) _
    refine st_2 _ ?_
    show Steps pP.tables eE below (T_2.setTop (mkF mM 32 #[.val (.ref s), .val (.int (0 : Int32)), .val (.ref d), .val (.int (0 : Int32)), .val (.int (2 : Int32)), .val (.int (0 : Int32)), .val (.int c0)] [])) _
    refine XS.iinc X_2.here hx rfl (hb hby d_jdk_52m21_32) rfl (l' := #[.val (.ref s), .val (.int ((0 : Int32) + (1 : Int32))), .val (.ref d), .val (.int (0 : Int32)), .val (.int (2 : Int32)), .val (.int (0 : Int32)), .val (.int c0)]) rfl ?_
    show Steps pP.tables eE below (T_2.setTop (mkF mM 35 #[.val (.ref s), .val (.int ((0 : Int32) + (1 : Int32))), .val (.ref d), .val (.int (0 : Int32)), .val (.int (2 : Int32)), .val (.int (0 : Int32)), .val (.int c0)] [])) _
    rw [(by decide : ((0 : Int32) + (1 : Int32)) = (1 : Int32))]
    show Steps pP.tables eE below (T_2.setTop (mkF mM 35 #[.val (.ref s), .val (.int (1 : Int32)), .val (.ref d), .val (.int (0 : Int32)), .val (.int (2 : Int32)), .val (.int (0 : Int32)), .val (.int c0)] [])) _
    refine XS.iinc X_2.here hx rfl (hb hby d_jdk_52m21_35) rfl (l' := #[.val (.ref s), .val (.int (1 : Int32)), .val (.ref d), .val (.int ((0 : Int32) + (1 : Int32))), .val (.int (2 : Int32)), .val (.int (0 : Int32)), .val (.int c0)]) rfl ?_
    show Steps pP.tables eE below (T_2.setTop (mkF mM 38 #[.val (.ref s), .val (.int (1 : Int32)), .val (.ref d), .val (.int ((0 : Int32) + (1 : Int32))), .val (.int (2 : Int32)), .val (.int (0 : Int32)), .val (.int c0)] [])) _
    rw [(by decide : ((0 : Int32) + (1 : Int32)) = (1 : Int32))]
    show Steps pP.tables eE below (T_2.setTop (mkF mM 38 #[.val (.ref s), .val (.int (1 : Int32)), .val (.ref d), .val (.int (1 : Int32)), .val (.int (2 : Int32)), .val (.int (0 : Int32)), .val (.int c0)] [])) _
    refine XS.iinc X_2.here hx rfl (hb hby d_jdk_52m21_38) rfl (l' := #[.val (.ref s), .val (.int (1 : Int32)), .val (.ref d), .val (.int (1 : Int32)), .val (.int (2 : Int32)), .val (.int ((0 : Int32) + (1 : Int32))), .val (.int c0)]) rfl ?_
    show Steps pP.tables eE below (T_2.setTop (mkF mM 41 #[.val (.ref s), .val (.int (1 : Int32)), .val (.ref d), .val (.int (1 : Int32)), .val (.int (2 : Int32)), .val (.int ((0 : Int32) + (1 : Int32))), .val (.int c0)] [])) _
    rw [(by decide : ((0 : Int32) + (1 : Int32)) = (1 : Int32))]
    show Steps pP.tables eE below (T_2.setTop (mkF mM 41 #[.val (.ref s), .val (.int (1 : Int32)), .val (.ref d), .val (.int (1 : Int32)), .val (.int (2 : Int32)), .val (.int (1 : Int32)), .val (.int c0)] [])) _
    refine XS.goto X_2.here hx rfl (pc0 := 41) (pc' := 3) rfl (hb hby d_jdk_52m21_41) (by decide) (by decide) ?_
    show Steps pP.tables eE below (T_2.setTop (mkF mM 3 #[.val (.ref s), .val (.int (1 : Int32)), .val (.ref d), .val (.int (1 : Int32)), .val (.int (2 : Int32)), .val (.int (1 : Int32)), .val (.int c0)] [])) _
    refine XS.iload X_2.here hx rfl (hb hby d_jdk_52m21_3) rfl ?_
    show Steps pP.tables eE below (T_2.setTop (mkF mM 5 #[.val (.ref s), .val (.int (1 : Int32)), .val (.ref d), .val (.int (1 : Int32)), .val (.int (2 : Int32)), .val (.int (1 : Int32)), .val (.int c0)] [(.int (1 : Int32))])) _
    refine XS.iload X_2.here hx rfl (hb hby d_jdk_52m21_5) rfl ?_
    show Steps pP.tables eE below (T_2.setTop (mkF mM 7 #[.val (.ref s), .val (.int (1 : Int32)), .val (.ref d), .val (.int (1 : Int32)), .val (.int (2 : Int32)), .val (.int (1 : Int32)), .val (.int c0)] [(.int (2 : Int32)), (.int (1 : Int32))])) _
    refine XS.icmpNo X_2.here hx rfl (hb hby d_jdk_52m21_7) rfl (by decide) ?_
    show Steps pP.tables eE below (T_2.setTop (mkF mM 10 #[.val (.ref s), .val (.int (1 : Int32)), .val (.ref d), .val (.int (1 : Int32)), .val (.int (2 : Int32)), .val (.int (1 : Int32)), .val (.int c0)] [])) _
    refine XS.aloadN X_2.here hx rfl (hb hby d_jdk_52m21_10) rfl rfl ?_
    show Steps pP.tables eE below (T_2.setTop (mkF mM 11 #[.val (.ref s), .val (.int (1 : Int32)), .val (.ref d), .val (.int (1 : Int32)), .val (.int (2 : Int32)), .val (.int (1 : Int32)), .val (.int c0)] [(.ref s)])) _
    refine XS.iloadN X_2.here hx rfl (hb hby d_jdk_52m21_11) rfl ?_
    show Steps pP.tables eE below (T_2.setTop (mkF mM 12 #[.val (.ref s), .val (.int (1 : Int32)), .val (.ref d), .val (.int (1 : Int32)), .val (.int (2 : Int32)), .val (.int (1 : Int32)), .val (.int c0)] [(.int (1 : Int32)), (.ref s)])) _
    refine X_2.caload hx (j := (1 : Int32)) (v := (.int c1)) (by rw [e_2]; exact Ar_3.1) (State.isArrayOf_alike hZ.alike Ar_3.2.1) Ar_3.2.2 hin_3 hat_3 (g := (mkF mM 12 #[.val (.ref s), .val (.int (1 : Int32)), .val (.ref d), .val (.int (1 : Int32)), .val (.int (2 : Int32)), .val (.int (1 : Int32)), .val (.int c0)] [(.int (1 : Int32)), (.ref s)])) rfl rfl (hb hby d_jdk_52m21_12) _ ?_
    show Steps pP.tables eE below (T_2.setTop (mkF mM 13 #[.val (.ref s), .val (.int (1 : Int32)), .val (.ref d), .val (.int (1 : Int32)), .val (.int (2 : Int32)), .val (.int (1 : Int32)), .val (.int c0)] [(.int c1)])) _
    refine XS.istore X_2.here hx rfl (hb hby d_jdk_52m21_13) rfl (l' := #[.val (.ref s), .val (.int (1 : Int32)), .val (.ref d), .val (.int (1 : Int32)), .val (.int (2 : Int32)), .val (.int (1 : Int32)), .val (.int c1)]) rfl ?_
    show Steps pP.tables eE below (T_2.setTop (mkF mM 15 #[.val (.ref s), .val (.int (1 : Int32)), .val (.ref d), .val (.int (1 : Int32)), .val (.int (2 : Int32)), .val (.int (1 : Int32)), .val (.int c1)] [])) _
    refine XS.iload X_2.here hx rfl (hb hby d_jdk_52m21_15) rfl ?_
    show Steps pP.tables eE below (T_2.setTop (mkF mM 17 #[.val (.ref s), .val (.int (1 : Int32)), .val (.ref d), .val (.int (1 : Int32)), .val (.int (2 : Int32)), .val (.int (1 : Int32)), .val (.int c1)] [(.int c1)])) _
    refine XS.sipush X_2.here hx rfl (hb hby d_jdk_52m21_17) ?_
    show Steps pP.tables eE below (T_2.setTop (mkF mM 20 #[.val (.ref s), .val (.int (1 : Int32)), .val (.ref d), .val (.int (1 : Int32)), .val (.int (2 : Int32)), .val (.int (1 : Int32)), .val (.int c1)] [(.int (255 : Int32)), (.int c1)])) _
    refine XS.icmpYes X_2.here hx rfl (pc0 := 20) (pc' := 26) rfl (hb hby d_jdk_52m21_20) rfl (XT.ii_le_t hc1) (by decide) (by decide) ?_
    show Steps pP.tables eE below (T_2.setTop (mkF mM 26 #[.val (.ref s), .val (.int (1 : Int32)), .val (.ref d), .val (.int (1 : Int32)), .val (.int (2 : Int32)), .val (.int (1 : Int32)), .val (.int c1)] [])) _
    refine XS.aloadN X_2.here hx rfl (hb hby d_jdk_52m21_26) rfl rfl ?_
    show Steps pP.tables eE below (T_2.setTop (mkF mM 27 #[.val (.ref s), .val (.int (1 : Int32)), .val (.ref d), .val (.int (1 : Int32)), .val (.int (2 : Int32)), .val (.int (1 : Int32)), .val (.int c1)] [(.ref d)])) _
    refine XS.iloadN X_2.here hx rfl (hb hby d_jdk_52m21_27) rfl ?_
    show Steps pP.tables eE below (T_2.setTop (mkF mM 28 #[.val (.ref s), .val (.int (1 : Int32)), .val (.ref d), .val (.int (1 : Int32)), .val (.int (2 : Int32)), .val (.int (1 : Int32)), .val (.int c1)] [(.int (1 : Int32)), (.ref d)])) _
    refine XS.iload X_2.here hx rfl (hb hby d_jdk_52m21_28) rfl ?_
    show Steps pP.tables eE below (T_2.setTop (mkF mM 30 #[.val (.ref s), .val (.int (1 : Int32)), .val (.ref d), .val (.int (1 : Int32)), .val (.int (2 : Int32)), .val (.int (1 : Int32)), .val (.int c1)] [(.int c1), (.int (1 : Int32)), (.ref d)])) _
    refine XT.i2b X_2.here hx rfl (hb hby d_jdk_52m21_30) rfl ?_
    show Steps pP.tables eE below (T_2.setTop (mkF mM 31 #[.val (.ref s), .val (.int (1 : Int32)), .val (.ref d), .val (.int (1 : Int32)), .val (.int (2 : Int32)), .val (.int (1 : Int32)), .val (.int c1)] [(.int (c1.toInt8.toInt32)), (.int (1 : Int32)), (.ref d)])) _
    refine st_4 _ ?_
    show Steps pP.tables eE below (T_4.setTop (mkF mM 32 #[.val (.ref s), .val (.int (1 : Int32)), .val (.ref d), .val (.int (1 : Int32)), .val (.int (2 : Int32)), .val (.int (1 : Int32)), .val (.int c1)] [])) _
    refine XS.iinc X_4.here hx rfl (hb hby d_jdk_52m21_32) rfl (l' := #[.val (.ref s), .val (.int ((1 : Int32) + (1 : Int32))), .val (.ref d), .val (.int (1 : Int32)), .val (.int (2 : Int32)), .val (.int (1 : Int32)), .val (.int c1)]) rfl ?_
    show Steps pP.tables eE below (T_4.setTop (mkF mM 35 #[.val (.ref s), .val (.int ((1 : Int32) + (1 : Int32))), .val (.ref d), .val (.int (1 : Int32)), .val (.int (2 : Int32)), .val (.int (1 : Int32)), .val (.int c1)] [])) _
    rw [(by decide : ((1 : Int32) + (1 : Int32)) = (2 : Int32))]
    show Steps pP.tables eE below (T_4.setTop (mkF mM 35 #[.val (.ref s), .val (.int (2 : Int32)), .val (.ref d), .val (.int (1 : Int32)), .val (.int (2 : Int32)), .val (.int (1 : Int32)), .val (.int c1)] [])) _
    refine XS.iinc X_4.here hx rfl (hb hby d_jdk_52m21_35) rfl (l' := #[.val (.ref s), .val (.int (2 : Int32)), .val (.ref d), .val (.int ((1 : Int32) + (1 : Int32))), .val (.int (2 : Int32)), .val (.int (1 : Int32)), .val (.int c1)]) rfl ?_
    show Steps pP.tables eE below (T_4.setTop (mkF mM 38 #[.val (.ref s), .val (.int (2 : Int32)), .val (.ref d), .val (.int ((1 : Int32) + (1 : Int32))), .val (.int (2 : Int32)), .val (.int (1 : Int32)), .val (.int c1)] [])) _
    rw [(by decide : ((1 : Int32) + (1 : Int32)) = (2 : Int32))]
    show Steps pP.tables eE below (T_4.setTop (mkF mM 38 #[.val (.ref s), .val (.int (2 : Int32)), .val (.ref d), .val (.int (2 : Int32)), .val (.int (2 : Int32)), .val (.int (1 : Int32)), .val (.int c1)] [])) _
    refine XS.iinc X_4.here hx rfl (hb hby d_jdk_52m21_38) rfl (l' := #[.val (.ref s), .val (.int (2 : Int32)), .val (.ref d), .val (.int (2 : Int32)), .val (.int (2 : Int32)), .val (.int ((1 : Int32) + (1 : Int32))), .val (.int c1)]) rfl ?_
    show Steps pP.tables eE below (T_4.setTop (mkF mM 41 #[.val (.ref s), .val (.int (2 : Int32)), .val (.ref d), .val (.int (2 : Int32)), .val (.int (2 : Int32)), .val (.int ((1 : Int32) + (1 : Int32))), .val (.int c1)] [])) _
    rw [(by decide : ((1 : Int32) + (1 : Int32)) = (2 : Int32))]
    show Steps pP.tables eE below (T_4.setTop (mkF mM 41 #[.val (.ref s), .val (.int (2 : Int32)), .val (.ref d), .val (.int (2 : Int32)), .val (.int (2 : Int32)), .val (.int (2 : Int32)), .val (.int c1)] [])) _
    refine XS.goto X_4.here hx rfl (pc0 := 41) (pc' := 3) rfl (hb hby d_jdk_52m21_41) (by decide) (by decide) ?_
    show Steps pP.tables eE below (T_4.setTop (mkF mM 3 #[.val (.ref s), .val (.int (2 : Int32)), .val (.ref d), .val (.int (2 : Int32)), .val (.int (2 : Int32)), .val (.int (2 : Int32)), .val (.int c1)] [])) _
    refine XS.iload X_4.here hx rfl (hb hby d_jdk_52m21_3) rfl ?_
    show Steps pP.tables eE below (T_4.setTop (mkF mM 5 #[.val (.ref s), .val (.int (2 : Int32)), .val (.ref d), .val (.int (2 : Int32)), .val (.int (2 : Int32)), .val (.int (2 : Int32)), .val (.int c1)] [(.int (2 : Int32))])) _
    refine XS.iload X_4.here hx rfl (hb hby d_jdk_52m21_5) rfl ?_
    show Steps pP.tables eE below (T_4.setTop (mkF mM 7 #[.val (.ref s), .val (.int (2 : Int32)), .val (.ref d), .val (.int (2 : Int32)), .val (.int (2 : Int32)), .val (.int (2 : Int32)), .val (.int c1)] [(.int (2 : Int32)), (.int (2 : Int32))])) _
    refine XS.icmpYes X_4.here hx rfl (pc0 := 7) (pc' := 44) rfl (hb hby d_jdk_52m21_7) rfl (by decide) (by decide) (by decide) ?_
    show Steps pP.tables eE below (T_4.setTop (mkF mM 44 #[.val (.ref s), .val (.int (2 : Int32)), .val (.ref d), .val (.int (2 : Int32)), .val (.int (2 : Int32)), .val (.int (2 : Int32)), .val (.int c1)] [])) _
    refine XS.iload X_4.here hx rfl (hb hby d_jdk_52m21_44) rfl ?_
    show Steps pP.tables eE below (T_4.setTop (mkF mM 46 #[.val (.ref s), .val (.int (2 : Int32)), .val (.ref d), .val (.int (2 : Int32)), .val (.int (2 : Int32)), .val (.int (2 : Int32)), .val (.int c1)] [(.int (2 : Int32))])) _
    exact retI X_4 hx Bd.returns (hb hby d_jdk_52m21_46) hr
  · show Q_cmp5_2 Z s d ks kd c0 c1 h0 n0 _ T_4.heap _
    rw [e_4]
    exact ⟨rfl, N_4, K_4, V_4⟩
theorem d_jdk_52m16_0 : decode jdk_52_method_16_code 0 = .ok (.iload_n 2, 1) := by decide +kernel
theorem d_jdk_52m16_1 : decode jdk_52_method_16_code 1 = .ok (.newarray .byte, 2) := by decide +kernel
theorem d_jdk_52m16_3 : decode jdk_52_method_16_code 3 = .ok (.astore_n 3, 1) := by decide +kernel
theorem d_jdk_52m16_4 : decode jdk_52_method_16_code 4 = .ok (.aload_n 0, 1) := by decide +kernel
theorem d_jdk_52m16_5 : decode jdk_52_method_16_code 5 = .ok (.iload_n 1, 1) := by decide +kernel
theorem d_jdk_52m16_6 : decode jdk_52_method_16_code 6 = .ok (.aload_n 3, 1) := by decide +kernel
theorem d_jdk_52m16_7 : decode jdk_52_method_16_code 7 = .ok (.iconst 0, 1) := by decide +kernel
theorem d_jdk_52m16_8 : decode jdk_52_method_16_code 8 = .ok (.iload_n 2, 1) := by decide +kernel
theorem d_jdk_52m16_9 : decode jdk_52_method_16_code 9 = .ok (.invokestatic 115, 3) := by decide +kernel
theorem pd_0 : parseMethodDescriptor "([CI[BII)I" = some ⟨[(.array .char), .int, (.array .byte), .int, .int], some .int⟩ := by decide +kernel
theorem d_jdk_52m16_12 : decode jdk_52_method_16_code 12 = .ok (.istore 4, 2) := by decide +kernel
theorem d_jdk_52m16_14 : decode jdk_52_method_16_code 14 = .ok (.iload 4, 2) := by decide +kernel
theorem d_jdk_52m16_16 : decode jdk_52_method_16_code 16 = .ok (.iload_n 2, 1) := by decide +kernel
theorem d_jdk_52m16_17 : decode jdk_52_method_16_code 17 = .ok (.if_icmp .eq 40, 3) := by decide +kernel
theorem d_jdk_52m16_57 : decode jdk_52_method_16_code 57 = .ok (.aload_n 3, 1) := by decide +kernel
theorem d_jdk_52m16_58 : decode jdk_52_method_16_code 58 = .ok (.areturn, 1) := by decide +kernel
theorem ef_cmp3_2 (mM : MethodId) (x0 : Addr) (x1 : Int32) (x2 : Int32) : entryFrame mM #[(.ref x0), (.int x1), (.int x2)] 6 = mkF mM 0 #[.val (.ref x0), .val (.int x1), .val (.int x2), .unset, .unset, .unset] [] := by first | (simp [entryFrame, mkF, argsToLocals, Value.category]; done) | rfl
def Q_cmp3_2 (Z : State) (s : Addr) (ks : ClassId) (c0 : Int32) (c1 : Int32) (h0 : Heap) (n0 : Nat) (v_ : Option Value) (h_ : Heap) (L_ : List Loc) : Prop := ∃ d : Addr, ∃ kd : ClassId, v_ = some (.ref d) ∧ Fr n0 L_ ∧ Keep h0 h_ [] ∧ h0.size ≤ d ∧ Arv Z h_ d kd .byte (2 : Int32) [(.int (nar .byte (c0.toInt8.toInt32))), (.int (nar .byte (c1.toInt8.toInt32)))] (.int (0 : Int32))
set_option maxRecDepth 65536 in
set_option maxHeartbeats 40000000 in
theorem rm_cmp3_2 (l : Launch) (Z : State) (a0 : Array Value) (hw : ∀ d ∈ tables_1, d.before a0 Z = true) (ws : List Jvm.Cond) (s : Addr) (ks : ClassId) (c0 : Int32) (c1 : Int32) (h0 : Heap) (n0 : Nat) (Z0 : n0 ≤ h0.size) (V_s : Arv Z h0 s ks .char (2 : Int32) [(.int c0), (.int c1)] (.int (0 : Int32))) (hc0 : ¬ (255 : Int32) < c0) (hc1 : ¬ (255 : Int32) < c1) :
    MetFree l (⟨"java/lang/StringUTF16", "compress", "([CII)[B"⟩ : MethodName) (head1 (Jvm.Cond.code (⟨"java/lang/StringUTF16", "compress", "([CII)[B"⟩ : MethodName) jdk_52_method_16_code 6 (some (.array .byte)) :: ws) ({ frames := 1, cells := 1, slots := 2, locals := 18 } : Room)) (fun aa_ U_ => aa_ = #[(.ref s), (.int (0 : Int32)), (.int (2 : Int32))] ∧ Z.Warmed39 U_.vm ∧ U_.heap = h0) (fun _ _ _ _ _ => True) (fun _ U_ o_ U'_ => ∃ v_ L_, o_ = .returned v_ ∧ Q_cmp3_2 Z s ks c0 c1 h0 n0 v_ U'_.heap L_ ∧ FrameEnd U_ o_ U'_ L_ ({ frames := 1, cells := 1, slots := 2, locals := 18 } : Room).cells ({ frames := 1, cells := 1, slots := 2, locals := 18 } : Room).slots) := by
  refine MetFree.of_bodySF (plainFor_of_name pn_0) hisR ?_
  intro pP eE sS mM argsA below meth cC s₁ Bd hml0 hP hK
  obtain ⟨rfl, hZ, hh⟩ := hP
  have hx := Bd.exec
  have hby := Bd.bytes
  have hml : cC.maxLocals = 6 := hml0
  have hown : sS.vm.findClass "java/lang/StringUTF16" = some mM.cls := findClass_of_methodNamed Bd.named
  have hnm := (name_of_methodNamed Bd.named Bd.method).1
  have X0 : Stand pP l eE ({ frames := 1, cells := 1, slots := 2, locals := 18 } : Room) sS mM #[(.ref s), (.int (0 : Int32)), (.int (2 : Int32))] below meth cC s₁ [] 0 0 := Stand.of_body Bd
  have e0 : s₁.heap = h0 := by rw [← hh, Bd.state]; rfl
  have N0 := Fr.nil n0
  have pre0 : ∀ t_, Steps pP.tables eE below (s₁.setTop (mkF mM 0 #[.val (.ref s), .val (.int (0 : Int32)), .val (.int (2 : Int32)), .unset, .unset, .unset] [])) t_ → Steps pP.tables eE below (s₁.setTop (entryFrame mM #[(.ref s), (.int (0 : Int32)), (.int (2 : Int32))] 6)) t_ := fun t_ k_ => castTop (ef_cmp3_2 mM s (0 : Int32) (2 : Int32)) k_
  obtain ⟨T_1, h_1, k_1, X_1, e_1, E_1, A_1, st_1⟩ := newP X0 hx hZ (hw _ (List.mem_of_getElem? (i := 20) rfl)) e0 (g := (mkF mM 1 #[.val (.ref s), .val (.int (0 : Int32)), .val (.int (2 : Int32)), .unset, .unset, .unset] [(.int (2 : Int32))])) rfl (hb hby d_jdk_52m16_1) rfl (by decide) (cap := 2) (by decide) (by decide) (by decide) (by decide)
  obtain ⟨b_1, g_1⟩ : ∃ z, z = h0.size := ⟨_, rfl⟩
  rw [← g_1] at A_1 st_1
  have g_b_1 : n0 ≤ b_1 := Nat.le_trans Z0 (Nat.le_of_eq g_1.symm)
  have sz_b_1 : h0.size ≤ b_1 := Nat.le_trans (Keep.refl h0 []).1 (Nat.le_of_eq g_1.symm)
  have Z_1 : n0 ≤ h_1.size := (Nat.le_trans Z0 E_1.1)
  have K_1 : Keep h0 h_1 [] := (Keep.refl h0 []).ext E_1
  have V_b_1 : Arv Z h_1 b_1 k_1 .byte (2 : Int32) [(.int (0 : Int32)), (.int (0 : Int32))] (.int (0 : Int32)) := (Arv.new A_1 (by decide)).pad (pad_rep [] (.int (0 : Int32)) 2)
  obtain ⟨_, _, ⟨T_2, L_2, k_2, n_2⟩, -, X_2, ⟨Lc_2, hQ_2, l_2, y_2, z_2⟩, st_2⟩ := Jvm.LawKit.callS X_1 hx (y := (⟨"java/lang/StringUTF16", "compress", "([CI[BII)I"⟩ : MethodName)) hown (mvT hZ (hw _ (List.mem_of_getElem? (i := 21) rfl))) (mvT hZ (hw _ (List.mem_of_getElem? (i := 22) rfl))) (mvT hZ (hw _ (List.mem_of_getElem? (i := 18) rfl))) (mvT hZ (hw _ (List.mem_of_getElem? (i := 23) rfl))) (by decide) (backOf (W := 0) (rm_cmp5_2 l Z a0 hw [] s b_1 ks k_1 c0 c1 h_1 n0 Z_1 (V_s.ext E_1) V_b_1 g_b_1 (Nat.ne_of_lt (Nat.lt_of_lt_of_le V_s.lt (Nat.le_of_eq g_1.symm))) hc0 hc1) hZ (hw _ (List.mem_of_getElem? (i := 23) rfl)) (hw _ (List.mem_of_getElem? (i := 18) rfl)) (by decide) (by decide)) (g := (mkF mM 9 #[.val (.ref s), .val (.int (0 : Int32)), .val (.int (2 : Int32)), .val (.ref b_1), .unset, .unset] [(.int (2 : Int32)), (.int (0 : Int32)), (.ref b_1), (.int (0 : Int32)), (.ref s)])) rfl (by rw [hml]; rfl) (argsL := [(.ref s), (.int (0 : Int32)), (.ref b_1), (.int (0 : Int32)), (.int (2 : Int32))]) (rest := []) (lenOf pd_0 rfl) rfl (by show 2 * 0 + _ ≤ _; exact Nat.le_of_eq rfl) (hb hby d_jdk_52m16_9) (fun _ _ => ⟨rfl, e_1, (by decide : 1 + 0 ≤ _), (by decide : 2 + 0 ≤ _)⟩)
  dsimp only [Pt.U, Pt.locs, Pt.cells, Pt.slots] at X_2 l_2 y_2 z_2 st_2 hQ_2
  subst l_2 y_2 z_2
  obtain ⟨rfl, N_2q, Kc_2, pfV_d_2⟩ := hQ_2
  have Z_2 : n0 ≤ T_2.heap.size := (Nat.le_trans Z_1 Kc_2.1)
  have K_2 : Keep h0 T_2.heap [] := K_1.trans Kc_2 (allS (Or.inr sz_b_1) all0)
  have N_2 := Fr.app N0 N_2q
  obtain ⟨fs, hr, hrun, hended, hW, hsame⟩ := X_2.leave (v := some (.ref b_1)) (fun h => by rw [Bd.returns] at h; cases h)
  refine ⟨_, _, pre0 _ ?_, hrun, hended, _, _, rfl, ?_, ⟨_, rfl⟩, hW, hsame.mono (by decide) (by decide)⟩
  · show Steps pP.tables eE below (s₁.setTop (mkF mM 0 #[.val (.ref s), .val (.int (0 : Int32)), .val (.int (2 : Int32)), .unset, .unset, .unset] [])) _
    refine XS.iloadN X0.here hx rfl (hb hby d_jdk_52m16_0) rfl ?_
    show Steps pP.tables eE below (s₁.setTop (mkF mM 1 #[.val (.ref s), .val (.int (0 : Int32)), .val (.int (2 : Int32)), .unset, .unset, .unset] [(.int (2 : Int32))])) _
    refine st_1 _ ?_
    show Steps pP.tables eE below (T_1.setTop (mkF mM 3 #[.val (.ref s), .val (.int (0 : Int32)), .val (.int (2 : Int32)), .unset, .unset, .unset] [(.ref b_1)])) _
    refine XS.astoreN X_1.here hx rfl (hb hby d_jdk_52m16_3) rfl rfl (l' := #[.val (.ref s), .val (.int (0 : Int32)), .val (.int (2 : Int32)), .val (.ref b_1), .unset, .unset]) rfl ?_
    show Steps pP.tables eE below (T_1.setTop (mkF mM 4 #[.val (.ref s), .val (.int (0 : Int32)), .val (.int (2 : Int32)), .val (.ref b_1), .unset, .unset] [])) _
    refine XS.aloadN X_1.here hx rfl (hb hby d_jdk_52m16_4) rfl rfl ?_
    show Steps pP.tables eE below (T_1.setTop (mkF mM 5 #[.val (.ref s), .val (.int (0 : Int32)), .val (.int (2 : Int32)), .val (.ref b_1), .unset, .unset] [(.ref s)])) _
    refine XS.iloadN X_1.here hx rfl (hb hby d_jdk_52m16_5) rfl ?_
    show Steps pP.tables eE below (T_1.setTop (mkF mM 6 #[.val (.ref s), .val (.int (0 : Int32)), .val (.int (2 : Int32)), .val (.ref b_1), .unset, .unset] [(.int (0 : Int32)), (.ref s)])) _
    refine XS.aloadN X_1.here hx rfl (hb hby d_jdk_52m16_6) rfl rfl ?_
    show Steps pP.tables eE below (T_1.setTop (mkF mM 7 #[.val (.ref s), .val (.int (0 : Int32)), .val (.int (2 : Int32)), .val (.ref b_1), .unset, .unset] [(.ref b_1), (.int (0 : Int32)), (.ref s)])) _
    refine XS.iconst X_1.here hx rfl (hb hby d_jdk_52m16_7) ?_
    show Steps pP.tables eE below (T_1.setTop (mkF mM 8 #[.val (.ref s), .val (.int (0 : Int32)), .val (.int (2 : Int32)), .val (.ref b_1), .unset, .unset] [(.int (0 : Int32)), (.ref b_1), (.int (0 : Int32)), (.ref s)])) _
    refine XS.iloadN X_1.here hx rfl (hb hby d_jdk_52m16_8) rfl ?_
    show Steps pP.tables eE below (T_1.setTop (mkF mM 9 #[.val (.ref s), .val (.int (0 : Int32)), .val (.int (2 : Int32)), .val (.ref b_1), .unset, .unset] [(.int (2 : Int32)), (.int (0 : Int32)), (.ref b_1), (.int (0 : Int32)), (.ref s)])) _
    refine st_2 _ ?_
    show Steps pP.tables eE below (T_2.setTop (mkF mM 12 #[.val (.ref s), .val (.int (0 : Int32)), .val (.int (2 : Int32)), .val (.ref b_1), .unset, .unset] [(.int (2 : Int32))])) _
    refine XS.istore X_2.here hx rfl (hb hby d_jdk_52m16_12) rfl (l' := #[.val (.ref s), .val (.int (0 : Int32)), .val (.int (2 : Int32)), .val (.ref b_1), .val (.int (2 : Int32)), .unset]) rfl ?_
    show Steps pP.tables eE below (T_2.setTop (mkF mM 14 #[.val (.ref s), .val (.int (0 : Int32)), .val (.int (2 : Int32)), .val (.ref b_1), .val (.int (2 : Int32)), .unset] [])) _
    refine XS.iload X_2.here hx rfl (hb hby d_jdk_52m16_14) rfl ?_
    show Steps pP.tables eE below (T_2.setTop (mkF mM 16 #[.val (.ref s), .val (.int (0 : Int32)), .val (.int (2 : Int32)), .val (.ref b_1), .val (.int (2 : Int32)), .unset] [(.int (2 : Int32))])) _
    refine XS.iloadN X_2.here hx rfl (hb hby d_jdk_52m16_16) rfl ?_
    show Steps pP.tables eE below (T_2.setTop (mkF mM 17 #[.val (.ref s), .val (.int (0 : Int32)), .val (.int (2 : Int32)), .val (.ref b_1), .val (.int (2 : Int32)), .unset] [(.int (2 : Int32)), (.int (2 : Int32))])) _
    refine XS.icmpYes X_2.here hx rfl (pc0 := 17) (pc' := 57) rfl (hb hby d_jdk_52m16_17) rfl (by decide) (by decide) (by decide) ?_
    show Steps pP.tables eE below (T_2.setTop (mkF mM 57 #[.val (.ref s), .val (.int (0 : Int32)), .val (.int (2 : Int32)), .val (.ref b_1), .val (.int (2 : Int32)), .unset] [])) _
    refine XS.aloadN X_2.here hx rfl (hb hby d_jdk_52m16_57) rfl rfl ?_
    show Steps pP.tables eE below (T_2.setTop (mkF mM 58 #[.val (.ref s), .val (.int (0 : Int32)), .val (.int (2 : Int32)), .val (.ref b_1), .val (.int (2 : Int32)), .unset] [(.ref b_1)])) _
    exact retOut X_2 hx Bd.returns rfl (Or.inr (Or.inr (Or.inr (Or.inr ⟨rfl, rfl, rfl⟩)))) (hb hby d_jdk_52m16_58) hr
  · show Q_cmp3_2 Z s ks c0 c1 h0 n0 _ T_2.heap _
    exact ⟨b_1, k_1, rfl, N_2, K_2, sz_b_1, pfV_d_2⟩
theorem d_jdk_52m15_0 : decode jdk_52_method_15_code 0 = .ok (.iload_n 1, 1) := by decide +kernel
theorem d_jdk_52m15_1 : decode jdk_52_method_15_code 1 = .ok (.aload_n 0, 1) := by decide +kernel
theorem d_jdk_52m15_2 : decode jdk_52_method_15_code 2 = .ok (.arraylength, 1) := by decide +kernel
theorem d_jdk_52m15_3 : decode jdk_52_method_15_code 3 = .ok (.isub, 1) := by decide +kernel
theorem d_jdk_52m15_4 : decode jdk_52_method_15_code 4 = .ok (.bipush 31, 2) := by decide +kernel
theorem d_jdk_52m15_6 : decode jdk_52_method_15_code 6 = .ok (.iushr, 1) := by decide +kernel
theorem d_jdk_52m15_7 : decode jdk_52_method_15_code 7 = .ok (.i2b, 1) := by decide +kernel
theorem d_jdk_52m15_8 : decode jdk_52_method_15_code 8 = .ok (.ireturn, 1) := by decide +kernel
theorem ef_cfl_2 (mM : MethodId) (x0 : Addr) (x1 : Int32) : entryFrame mM #[(.ref x0), (.int x1)] 2 = mkF mM 0 #[.val (.ref x0), .val (.int x1)] [] := by first | (simp [entryFrame, mkF, argsToLocals, Value.category]; done) | rfl
def Q_cfl_2 (Z : State) (d : Addr) (kd : ClassId) (w0 : Int32) (w1 : Int32) (h0 : Heap) (n0 : Nat) (v_ : Option Value) (h_ : Heap) (L_ : List Loc) : Prop := v_ = some (.int (0 : Int32)) ∧ Fr n0 L_ ∧ h_ = h0
set_option maxRecDepth 65536 in
set_option maxHeartbeats 40000000 in
theorem rm_cfl_2 (l : Launch) (Z : State) (a0 : Array Value) (hw : ∀ d ∈ tables_1, d.before a0 Z = true) (ws : List Jvm.Cond) (d : Addr) (kd : ClassId) (w0 : Int32) (w1 : Int32) (h0 : Heap) (n0 : Nat) (Z0 : n0 ≤ h0.size) (V_d : Arv Z h0 d kd .byte (2 : Int32) [(.int w0), (.int w1)] (.int (0 : Int32))) :
    MetFree l (⟨"java/lang/StringUTF16", "coderFromArrayLen", "([BI)B"⟩ : MethodName) (head1 (Jvm.Cond.code (⟨"java/lang/StringUTF16", "coderFromArrayLen", "([BI)B"⟩ : MethodName) jdk_52_method_15_code 2 (some .byte) :: ws) ({ frames := 0, cells := 0, slots := 0, locals := 0 } : Room)) (fun aa_ U_ => aa_ = #[(.ref d), (.int (2 : Int32))] ∧ Z.Warmed39 U_.vm ∧ U_.heap = h0) (fun _ _ _ _ _ => True) (fun _ U_ o_ U'_ => ∃ v_ L_, o_ = .returned v_ ∧ Q_cfl_2 Z d kd w0 w1 h0 n0 v_ U'_.heap L_ ∧ FrameEnd U_ o_ U'_ L_ ({ frames := 0, cells := 0, slots := 0, locals := 0 } : Room).cells ({ frames := 0, cells := 0, slots := 0, locals := 0 } : Room).slots) := by
  refine MetFree.of_bodySF (plainFor_of_name pn_0) hisR ?_
  intro pP eE sS mM argsA below meth cC s₁ Bd hml0 hP hK
  obtain ⟨rfl, hZ, hh⟩ := hP
  have hx := Bd.exec
  have hby := Bd.bytes
  have hml : cC.maxLocals = 2 := hml0
  have hown : sS.vm.findClass "java/lang/StringUTF16" = some mM.cls := findClass_of_methodNamed Bd.named
  have hnm := (name_of_methodNamed Bd.named Bd.method).1
  have X0 : Stand pP l eE ({ frames := 0, cells := 0, slots := 0, locals := 0 } : Room) sS mM #[(.ref d), (.int (2 : Int32))] below meth cC s₁ [] 0 0 := Stand.of_body Bd
  have e0 : s₁.heap = h0 := by rw [← hh, Bd.state]; rfl
  have N0 := Fr.nil n0
  have pre0 : ∀ t_, Steps pP.tables eE below (s₁.setTop (mkF mM 0 #[.val (.ref d), .val (.int (2 : Int32))] [])) t_ → Steps pP.tables eE below (s₁.setTop (entryFrame mM #[(.ref d), (.int (2 : Int32))] 2)) t_ := fun t_ k_ => castTop (ef_cfl_2 mM d (2 : Int32)) k_
  obtain ⟨cl_1, Ar_1, -, Sa_1, Na_1, -, -⟩ := id V_d
  obtain ⟨fs, hr, hrun, hended, hW, hsame⟩ := X0.leave (v := some (.int (0 : Int32))) (fun h => by rw [Bd.returns] at h; cases h)
  refine ⟨_, _, pre0 _ ?_, hrun, hended, _, _, rfl, ?_, ⟨_, rfl⟩, hW, hsame.mono (by decide) (by decide)⟩
  · show Steps pP.tables eE below (s₁.setTop (mkF mM 0 #[.val (.ref d), .val (.int (2 : Int32))] [])) _
    refine XS.iloadN X0.here hx rfl (hb hby d_jdk_52m15_0) rfl ?_
    show Steps pP.tables eE below (s₁.setTop (mkF mM 1 #[.val (.ref d), .val (.int (2 : Int32))] [(.int (2 : Int32))])) _
    refine XS.aloadN X0.here hx rfl (hb hby d_jdk_52m15_1) rfl rfl ?_
    show Steps pP.tables eE below (s₁.setTop (mkF mM 2 #[.val (.ref d), .val (.int (2 : Int32))] [(.ref d), (.int (2 : Int32))])) _
    refine X0.arraylength hx (by rw [e0]; exact Ar_1.1) (State.isArrayOf_alike hZ.alike Ar_1.2.1) (g := (mkF mM 2 #[.val (.ref d), .val (.int (2 : Int32))] [(.ref d), (.int (2 : Int32))])) rfl rfl (hb hby d_jdk_52m15_2) _ ?_
    rw [len_of Sa_1 Na_1]
    show Steps pP.tables eE below (s₁.setTop (mkF mM 3 #[.val (.ref d), .val (.int (2 : Int32))] [(.int (2 : Int32)), (.int (2 : Int32))])) _
    refine XS.isub X0.here hx rfl (hb hby d_jdk_52m15_3) rfl ?_
    show Steps pP.tables eE below (s₁.setTop (mkF mM 4 #[.val (.ref d), .val (.int (2 : Int32))] [(.int ((2 : Int32) - (2 : Int32)))])) _
    rw [(by decide : ((2 : Int32) - (2 : Int32)) = (0 : Int32))]
    show Steps pP.tables eE below (s₁.setTop (mkF mM 4 #[.val (.ref d), .val (.int (2 : Int32))] [(.int (0 : Int32))])) _
    refine XS.bipush X0.here hx rfl (hb hby d_jdk_52m15_4) ?_
    show Steps pP.tables eE below (s₁.setTop (mkF mM 6 #[.val (.ref d), .val (.int (2 : Int32))] [(.int (31 : Int32)), (.int (0 : Int32))])) _
    refine XT.iushr X0.here hx rfl (hb hby d_jdk_52m15_6) rfl ?_
    show Steps pP.tables eE below (s₁.setTop (mkF mM 7 #[.val (.ref d), .val (.int (2 : Int32))] [(.int (XT.ushr (0 : Int32) (31 : Int32)))])) _
    rw [(by decide : (XT.ushr (0 : Int32) (31 : Int32)) = (0 : Int32))]
    show Steps pP.tables eE below (s₁.setTop (mkF mM 7 #[.val (.ref d), .val (.int (2 : Int32))] [(.int (0 : Int32))])) _
    refine XT.i2b X0.here hx rfl (hb hby d_jdk_52m15_7) rfl ?_
    show Steps pP.tables eE below (s₁.setTop (mkF mM 8 #[.val (.ref d), .val (.int (2 : Int32))] [(.int ((0 : Int32).toInt8.toInt32))])) _
    rw [(by decide : ((0 : Int32).toInt8.toInt32) = (0 : Int32))]
    show Steps pP.tables eE below (s₁.setTop (mkF mM 8 #[.val (.ref d), .val (.int (2 : Int32))] [(.int (0 : Int32))])) _
    exact retN X0 hx (t := .byte) Bd.returns (by simp) (hb hby d_jdk_52m15_8) hr
  · show Q_cfl_2 Z d kd w0 w1 h0 n0 _ s₁.heap _
    rw [e0]
    exact ⟨rfl, N0, rfl⟩
theorem d_jdk_42m149_0 : decode jdk_42_method_149_code 0 = .ok (.aload_n 0, 1) := by decide +kernel
theorem d_jdk_42m149_1 : decode jdk_42_method_149_code 1 = .ok (.invokespecial 1, 3) := by decide +kernel
theorem d_jdk_42m149_4 : decode jdk_42_method_149_code 4 = .ok (.iload_n 3, 1) := by decide +kernel
theorem d_jdk_42m149_5 : decode jdk_42_method_149_code 5 = .ok (.ifCond .ne 22, 3) := by decide +kernel
theorem d_jdk_42m149_27 : decode jdk_42_method_149_code 27 = .ok (.getstatic 38, 3) := by decide +kernel
theorem d_jdk_42m149_30 : decode jdk_42_method_149_code 30 = .ok (.ifCond .eq 28, 3) := by decide +kernel
theorem d_jdk_42m149_33 : decode jdk_42_method_149_code 33 = .ok (.aload_n 1, 1) := by decide +kernel
theorem d_jdk_42m149_34 : decode jdk_42_method_149_code 34 = .ok (.iload_n 2, 1) := by decide +kernel
theorem d_jdk_42m149_35 : decode jdk_42_method_149_code 35 = .ok (.iload_n 3, 1) := by decide +kernel
theorem d_jdk_42m149_36 : decode jdk_42_method_149_code 36 = .ok (.invokestatic 177, 3) := by decide +kernel
theorem pd_1 : parseMethodDescriptor "([CII)[B" = some ⟨[(.array .char), .int, .int], some (.array .byte)⟩ := by decide +kernel
theorem d_jdk_42m149_39 : decode jdk_42_method_149_code 39 = .ok (.astore 5, 2) := by decide +kernel
theorem d_jdk_42m149_41 : decode jdk_42_method_149_code 41 = .ok (.aload_n 0, 1) := by decide +kernel
theorem d_jdk_42m149_42 : decode jdk_42_method_149_code 42 = .ok (.aload 5, 2) := by decide +kernel
theorem d_jdk_42m149_44 : decode jdk_42_method_149_code 44 = .ok (.iload_n 3, 1) := by decide +kernel
theorem d_jdk_42m149_45 : decode jdk_42_method_149_code 45 = .ok (.invokestatic 47, 3) := by decide +kernel
theorem pd_2 : parseMethodDescriptor "([BI)B" = some ⟨[(.array .byte), .int], some .byte⟩ := by decide +kernel
theorem d_jdk_42m149_48 : decode jdk_42_method_149_code 48 = .ok (.putfield 15, 3) := by decide +kernel
theorem d_jdk_42m149_51 : decode jdk_42_method_149_code 51 = .ok (.aload_n 0, 1) := by decide +kernel
theorem d_jdk_42m149_52 : decode jdk_42_method_149_code 52 = .ok (.aload 5, 2) := by decide +kernel
theorem d_jdk_42m149_54 : decode jdk_42_method_149_code 54 = .ok (.putfield 9, 3) := by decide +kernel
theorem d_jdk_42m149_57 : decode jdk_42_method_149_code 57 = .ok (.return_, 1) := by decide +kernel
theorem pn_1 : plainName "java/lang/String" = true := by first | (simp [plainName, overriddenIn]; done) | decide +kernel
theorem ef_str5_2 (mM : MethodId) (x0 : Addr) (x1 : Addr) (x2 : Int32) (x3 : Int32) : entryFrame mM #[(.ref x0), (.ref x1), (.int x2), (.int x3), .null] 6 = mkF mM 0 #[.val (.ref x0), .val (.ref x1), .val (.int x2), .val (.int x3), .val .null, .unset] [] := by first | (simp [entryFrame, mkF, argsToLocals, Value.category]; done) | rfl
def Q_str5_2 (Z : State) (a : Addr) (s : Addr) (ks : ClassId) (cs : Int32) (c0 : Int32) (c1 : Int32) (h0 : Heap) (n0 : Nat) (v_ : Option Value) (h_ : Heap) (L_ : List Loc) : Prop := ∃ d : Addr, ∃ kd : ClassId, v_ = none ∧ Fr n0 L_ ∧ Keep h0 h_ [a] ∧ h0.size ≤ d ∧ Exa Z h_ a "java/lang/String" ∧ Fld Z h_ a "java/lang/String" "value" "[B" (.ref d) ∧ Fld Z h_ a "java/lang/String" "coder" "B" (.int (0 : Int32)) ∧ Arv Z h_ d kd .byte (2 : Int32) [(.int (nar .byte (c0.toInt8.toInt32))), (.int (nar .byte (c1.toInt8.toInt32)))] (.int (0 : Int32))
set_option maxRecDepth 65536 in
set_option maxHeartbeats 40000000 in
theorem rm_str5_2 (l : Launch) (Z : State) (a0 : Array Value) (hw : ∀ d ∈ tables_1, d.before a0 Z = true) (ws : List Jvm.Cond) (a : Addr) (s : Addr) (ks : ClassId) (cs : Int32) (c0 : Int32) (c1 : Int32) (h0 : Heap) (n0 : Nat) (Z0 : n0 ≤ h0.size) (F_value_a : Fld Z h0 a "java/lang/String" "value" "[B" .null) (F_coder_a : Fld Z h0 a "java/lang/String" "coder" "B" (.int (0 : Int32))) (E_a : Exa Z h0 a "java/lang/String") (g_a : n0 ≤ a) (S_String_COMPACT_STRINGS : Sta Z h0 "java/lang/String" "COMPACT_STRINGS" "Z" (.int cs)) (hcs : ¬ cs = 0) (V_s : Arv Z h0 s ks .char (2 : Int32) [(.int c0), (.int c1)] (.int (0 : Int32))) (nas : a ≠ s) (hc0 : ¬ (255 : Int32) < c0) (hc1 : ¬ (255 : Int32) < c1) :
    MetFree l (⟨"java/lang/String", "<init>", "([CIILjava/lang/Void;)V"⟩ : MethodName) (head1 (Jvm.Cond.code (⟨"java/lang/String", "<init>", "([CIILjava/lang/Void;)V"⟩ : MethodName) jdk_42_method_149_code 6 none :: ws) ({ frames := 2, cells := 1, slots := 2, locals := 35 } : Room)) (fun aa_ U_ => aa_ = #[(.ref a), (.ref s), (.int (0 : Int32)), (.int (2 : Int32)), .null] ∧ Z.Warmed39 U_.vm ∧ U_.heap = h0) (fun _ _ _ _ _ => True) (fun _ U_ o_ U'_ => ∃ v_ L_, o_ = .returned v_ ∧ Q_str5_2 Z a s ks cs c0 c1 h0 n0 v_ U'_.heap L_ ∧ FrameEnd U_ o_ U'_ L_ ({ frames := 2, cells := 1, slots := 2, locals := 35 } : Room).cells ({ frames := 2, cells := 1, slots := 2, locals := 35 } : Room).slots) := by
  refine MetFree.of_bodySF (plainFor_of_name pn_1) hisR ?_
  intro pP eE sS mM argsA below meth cC s₁ Bd hml0 hP hK
  obtain ⟨rfl, hZ, hh⟩ := hP
  have hx := Bd.exec
  have hby := Bd.bytes
  have hml : cC.maxLocals = 6 := hml0
  have hown : sS.vm.findClass "java/lang/String" = some mM.cls := findClass_of_methodNamed Bd.named
  have hnm := (name_of_methodNamed Bd.named Bd.method).1
  have X0 : Stand pP l eE ({ frames := 2, cells := 1, slots := 2, locals := 35 } : Room) sS mM #[(.ref a), (.ref s), (.int (0 : Int32)), (.int (2 : Int32)), .null] below meth cC s₁ [] 0 0 := Stand.of_body Bd
  have e0 : s₁.heap = h0 := by rw [← hh, Bd.state]; rfl
  have N0 := Fr.nil n0
  have pre0 : ∀ t_, Steps pP.tables eE below (s₁.setTop (mkF mM 0 #[.val (.ref a), .val (.ref s), .val (.int (0 : Int32)), .val (.int (2 : Int32)), .val .null, .unset] [])) t_ → Steps pP.tables eE below (s₁.setTop (entryFrame mM #[(.ref a), (.ref s), (.int (0 : Int32)), (.int (2 : Int32)), .null] 6)) t_ := fun t_ k_ => castTop (ef_str5_2 mM a s (0 : Int32) (2 : Int32)) k_
  obtain ⟨T_1, X_1, e_1, st_1⟩ := initO X0 hx hZ hown (hw _ (List.mem_of_getElem? (i := 12) rfl)) (hw _ (List.mem_of_getElem? (i := 13) rfl)) (hw _ (List.mem_of_getElem? (i := 14) rfl)) e0 (g := (mkF mM 1 #[.val (.ref a), .val (.ref s), .val (.int (0 : Int32)), .val (.int (2 : Int32)), .val .null, .unset] [(.ref a)])) rfl (by rw [hml]; rfl) rfl (hb hby d_jdk_42m149_1) (by decide) (W := 0) (by show 2 * 0 + _ ≤ _; exact Nat.le_of_eq rfl) (by decide)
  obtain ⟨T_2, X_2, e_2, st_2⟩ := getS2 X_1 hx hZ hown (host := "") (Or.inl (hw _ (List.mem_of_getElem? (i := 15) rfl))) Via.refl e_1 S_String_COMPACT_STRINGS (g := (mkF mM 27 #[.val (.ref a), .val (.ref s), .val (.int (0 : Int32)), .val (.int (2 : Int32)), .val .null, .unset] [])) rfl (hb hby d_jdk_42m149_27)
  obtain ⟨_, _, ⟨T_3, L_3, k_3, n_3⟩, -, X_3, ⟨Lc_3, hQ_3, l_3, y_3, z_3⟩, st_3⟩ := Jvm.LawKit.callS X_2 hx (y := (⟨"java/lang/StringUTF16", "compress", "([CII)[B"⟩ : MethodName)) hown (mvT hZ (hw _ (List.mem_of_getElem? (i := 16) rfl))) (mvT hZ (hw _ (List.mem_of_getElem? (i := 17) rfl))) (mvT hZ (hw _ (List.mem_of_getElem? (i := 18) rfl))) (mvT hZ (hw _ (List.mem_of_getElem? (i := 19) rfl))) (by decide) (backOf (W := 0) (rm_cmp3_2 l Z a0 hw [] s ks c0 c1 h0 n0 Z0 V_s hc0 hc1) hZ (hw _ (List.mem_of_getElem? (i := 19) rfl)) (hw _ (List.mem_of_getElem? (i := 18) rfl)) (by decide) (by decide)) (g := (mkF mM 36 #[.val (.ref a), .val (.ref s), .val (.int (0 : Int32)), .val (.int (2 : Int32)), .val .null, .unset] [(.int (2 : Int32)), (.int (0 : Int32)), (.ref s)])) rfl (by rw [hml]; rfl) (argsL := [(.ref s), (.int (0 : Int32)), (.int (2 : Int32))]) (rest := []) (lenOf pd_1 rfl) rfl (by show 2 * 0 + _ ≤ _; exact Nat.le_of_eq rfl) (hb hby d_jdk_42m149_36) (fun _ _ => ⟨rfl, e_2, (by decide : 0 + 1 ≤ _), (by decide : 0 + 2 ≤ _)⟩)
  dsimp only [Pt.U, Pt.locs, Pt.cells, Pt.slots] at X_3 l_3 y_3 z_3 st_3 hQ_3
  subst l_3 y_3 z_3
  obtain ⟨d__3, ⟨kd__3, ⟨rfl, N_3q, Kc_3, pfsz_d_3, pfV_d_3⟩⟩⟩ := hQ_3
  have Z_3 : n0 ≤ T_3.heap.size := (Nat.le_trans Z0 Kc_3.1)
  have K_3 : Keep h0 T_3.heap [a] := (Keep.refl h0 [a]).trans Kc_3 all0
  have sz_d__3 : h0.size ≤ d__3 := Nat.le_trans (Keep.refl h0 [a]).1 pfsz_d_3
  have g_d__3 : n0 ≤ d__3 := Nat.le_trans Z0 pfsz_d_3
  have N_3 := Fr.app N0 N_3q
  obtain ⟨_, _, ⟨T_4, L_4, k_4, n_4⟩, -, X_4, ⟨Lc_4, hQ_4, l_4, y_4, z_4⟩, st_4⟩ := Jvm.LawKit.callS X_3 hx (y := (⟨"java/lang/StringUTF16", "coderFromArrayLen", "([BI)B"⟩ : MethodName)) hown (mvT hZ (hw _ (List.mem_of_getElem? (i := 24) rfl))) (mvT hZ (hw _ (List.mem_of_getElem? (i := 25) rfl))) (mvT hZ (hw _ (List.mem_of_getElem? (i := 18) rfl))) (mvT hZ (hw _ (List.mem_of_getElem? (i := 26) rfl))) (by decide) (backOf (W := 1) (rm_cfl_2 l Z a0 hw [] d__3 kd__3 (nar .byte (c0.toInt8.toInt32)) (nar .byte (c1.toInt8.toInt32)) T_3.heap n0 Z_3 pfV_d_3) hZ (hw _ (List.mem_of_getElem? (i := 26) rfl)) (hw _ (List.mem_of_getElem? (i := 18) rfl)) (by decide) (by decide)) (g := (mkF mM 45 #[.val (.ref a), .val (.ref s), .val (.int (0 : Int32)), .val (.int (2 : Int32)), .val .null, .val (.ref d__3)] [(.int (2 : Int32)), (.ref d__3), (.ref a)])) rfl (by rw [hml]; rfl) (argsL := [(.ref d__3), (.int (2 : Int32))]) (rest := [(.ref a)]) (lenOf pd_2 rfl) rfl (by show 2 * 0 + _ ≤ _; exact Nat.le_of_eq rfl) (hb hby d_jdk_42m149_45) (fun _ _ => ⟨rfl, rfl, (by decide : 1 + 0 ≤ _), (by decide : 2 + 0 ≤ _)⟩)
  dsimp only [Pt.U, Pt.locs, Pt.cells, Pt.slots] at X_4 l_4 y_4 z_4 st_4 hQ_4
  subst l_4 y_4 z_4
  obtain ⟨rfl, N_4q, eh_4⟩ := hQ_4
  have N_4 := Fr.app N_3 N_4q
  obtain ⟨T_5, h_5, X_5, e_5, W_5, st_5⟩ := putFN X_4 hx hZ hown (hw _ (List.mem_of_getElem? (i := 27) rfl)) Via.refl eh_4 (F_coder_a.keep Kc_3 nin0) (E_a.keep Kc_3) (Or.inr ⟨(hw _ (List.mem_of_getElem? (i := 28) rfl)), rfl, hnm⟩) (hw _ (List.mem_of_getElem? (i := 3) rfl)) (ty := .byte) (v' := (.int (0 : Int32))) (by decide) rfl rfl (g := (mkF mM 48 #[.val (.ref a), .val (.ref s), .val (.int (0 : Int32)), .val (.int (2 : Int32)), .val .null, .val (.ref d__3)] [(.int (0 : Int32)), (.ref a)])) rfl rfl (hb hby d_jdk_42m149_48)
  have Fw_5 := (F_coder_a.keep Kc_3 nin0).same W_5
  have Z_5 : n0 ≤ h_5.size := (Nat.le_trans Z_3 (Keep.of_wr W_5).1)
  have K_5 : Keep h0 h_5 [a] := K_3.wr W_5 (Or.inl (List.mem_of_getElem? (i := 0) rfl))
  have N_5 := Fr.snoc X_5 N_4 g_a
  obtain ⟨T_6, h_6, X_6, e_6, W_6, st_6⟩ := putF X_5 hx hZ hown (host := "") (Or.inl (hw _ (List.mem_of_getElem? (i := 29) rfl))) Via.refl e_5 ((F_value_a.keep Kc_3 nin0).other W_5 (Or.inr (slot_ne (Or.inr (hw _ (List.mem_of_getElem? (i := 30) rfl))) (Or.inr (hw _ (List.mem_of_getElem? (i := 28) rfl))) (by decide) (t := (.array .byte)) (t' := .byte) (by decide) (by decide)))) ((E_a.keep Kc_3).wr W_5) (Or.inr ⟨(hw _ (List.mem_of_getElem? (i := 30) rfl)), rfl, hnm⟩) (hw _ (List.mem_of_getElem? (i := 3) rfl)) (ty := (.array .byte)) (by decide) rfl rfl (g := (mkF mM 54 #[.val (.ref a), .val (.ref s), .val (.int (0 : Int32)), .val (.int (2 : Int32)), .val .null, .val (.ref d__3)] [(.ref d__3), (.ref a)])) rfl rfl (hb hby d_jdk_42m149_54)
  have Fw_6 := ((F_value_a.keep Kc_3 nin0).other W_5 (Or.inr (slot_ne (Or.inr (hw _ (List.mem_of_getElem? (i := 30) rfl))) (Or.inr (hw _ (List.mem_of_getElem? (i := 28) rfl))) (by decide) (t := (.array .byte)) (t' := .byte) (by decide) (by decide)))).same W_6
  have Z_6 : n0 ≤ h_6.size := (Nat.le_trans Z_5 (Keep.of_wr W_6).1)
  have K_6 : Keep h0 h_6 [a] := K_5.wr W_6 (Or.inl (List.mem_of_getElem? (i := 0) rfl))
  have N_6 := Fr.snoc X_6 N_5 g_a
  obtain ⟨fs, hr, hrun, hended, hW, hsame⟩ := X_6.leave (v := none) (fun _ => rfl)
  refine ⟨_, _, pre0 _ ?_, hrun, hended, _, _, rfl, ?_, ⟨_, rfl⟩, hW, hsame.mono (by decide) (by decide)⟩
  · show Steps pP.tables eE below (s₁.setTop (mkF mM 0 #[.val (.ref a), .val (.ref s), .val (.int (0 : Int32)), .val (.int (2 : Int32)), .val .null, .unset] [])) _
    refine XS.aloadN X0.here hx rfl (hb hby d_jdk_42m149_0) rfl rfl ?_
    show Steps pP.tables eE below (s₁.setTop (mkF mM 1 #[.val (.ref a), .val (.ref s), .val (.int (0 : Int32)), .val (.int (2 : Int32)), .val .null, .unset] [(.ref a)])) _
    refine st_1 _ ?_
    show Steps pP.tables eE below (T_1.setTop (mkF mM 4 #[.val (.ref a), .val (.ref s), .val (.int (0 : Int32)), .val (.int (2 : Int32)), .val .null, .unset] [])) _
    refine XS.iloadN X_1.here hx rfl (hb hby d_jdk_42m149_4) rfl ?_
    show Steps pP.tables eE below (T_1.setTop (mkF mM 5 #[.val (.ref a), .val (.ref s), .val (.int (0 : Int32)), .val (.int (2 : Int32)), .val .null, .unset] [(.int (2 : Int32))])) _
    refine XS.ifYes X_1.here hx rfl (pc0 := 5) (pc' := 27) rfl (hb hby d_jdk_42m149_5) rfl (by decide) (by decide) (by decide) ?_
    show Steps pP.tables eE below (T_1.setTop (mkF mM 27 #[.val (.ref a), .val (.ref s), .val (.int (0 : Int32)), .val (.int (2 : Int32)), .val .null, .unset] [])) _
    refine st_2 _ ?_
    show Steps pP.tables eE below (T_2.setTop (mkF mM 30 #[.val (.ref a), .val (.ref s), .val (.int (0 : Int32)), .val (.int (2 : Int32)), .val .null, .unset] [(.int cs)])) _
    refine XS.ifNo X_2.here hx rfl (hb hby d_jdk_42m149_30) rfl (XT.i0_eq_f hcs) ?_
    show Steps pP.tables eE below (T_2.setTop (mkF mM 33 #[.val (.ref a), .val (.ref s), .val (.int (0 : Int32)), .val (.int (2 : Int32)), .val .null, .unset] [])) _
    refine XS.aloadN X_2.here hx rfl (hb hby d_jdk_42m149_33) rfl rfl ?_
    show Steps pP.tables eE below (T_2.setTop (mkF mM 34 #[.val (.ref a), .val (.ref s), .val (.int (0 : Int32)), .val (.int (2 : Int32)), .val .null, .unset] [(.ref s)])) _
    refine XS.iloadN X_2.here hx rfl (hb hby d_jdk_42m149_34) rfl ?_
    show Steps pP.tables eE below (T_2.setTop (mkF mM 35 #[.val (.ref a), .val (.ref s), .val (.int (0 : Int32)), .val (.int (2 : Int32)), .val .null, .unset] [(.int (0 : Int32)), (.ref s)])) _
    refine XS.iloadN X_2.here hx rfl (hb hby d_jdk_42m149_35) rfl ?_
    show Steps pP.tables eE below (T_2.setTop (mkF mM 36 #[.val (.ref a), .val (.ref s), .val (.int (0 : Int32)), .val (.int (2 : Int32)), .val .null, .unset] [(.int (2 : Int32)), (.int (0 : Int32)), (.ref s)])) _
    refine st_3 _ ?_
    show Steps pP.tables eE below (T_3.setTop (mkF mM 39 #[.val (.ref a), .val (.ref s), .val (.int (0 : Int32)), .val (.int (2 : Int32)), .val .null, .unset] [(.ref d__3)])) _
    refine XS.astore X_3.here hx rfl (hb hby d_jdk_42m149_39) rfl rfl (l' := #[.val (.ref a), .val (.ref s), .val (.int (0 : Int32)), .val (.int (2 : Int32)), .val .null, .val (.ref d__3)]) rfl ?_
    show Steps pP.tables eE below (T_3.setTop (mkF mM 41 #[.val (.ref a), .val (.ref s), .val (.int (0 : Int32)), .val (.int (2 : Int32)), .val .null, .val (.ref d__3)] [])) _
    refine XS.aloadN X_3.here hx rfl (hb hby d_jdk_42m149_41) rfl rfl ?_
    show Steps pP.tables eE below (T_3.setTop (mkF mM 42 #[.val (.ref a), .val (.ref s), .val (.int (0 : Int32)), .val (.int (2 : Int32)), .val .null, .val (.ref d__3)] [(.ref a)])) _
    refine XS.aload X_3.here hx rfl (hb hby d_jdk_42m149_42) rfl rfl ?_
    show Steps pP.tables eE below (T_3.setTop (mkF mM 44 #[.val (.ref a), .val (.ref s), .val (.int (0 : Int32)), .val (.int (2 : Int32)), .val .null, .val (.ref d__3)] [(.ref d__3), (.ref a)])) _
    refine XS.iloadN X_3.here hx rfl (hb hby d_jdk_42m149_44) rfl ?_
    show Steps pP.tables eE below (T_3.setTop (mkF mM 45 #[.val (.ref a), .val (.ref s), .val (.int (0 : Int32)), .val (.int (2 : Int32)), .val .null, .val (.ref d__3)] [(.int (2 : Int32)), (.ref d__3), (.ref a)])) _
    refine st_4 _ ?_
    show Steps pP.tables eE below (T_4.setTop (mkF mM 48 #[.val (.ref a), .val (.ref s), .val (.int (0 : Int32)), .val (.int (2 : Int32)), .val .null, .val (.ref d__3)] [(.int (0 : Int32)), (.ref a)])) _
    refine st_5 _ ?_
    show Steps pP.tables eE below (T_5.setTop (mkF mM 51 #[.val (.ref a), .val (.ref s), .val (.int (0 : Int32)), .val (.int (2 : Int32)), .val .null, .val (.ref d__3)] [])) _
    refine XS.aloadN X_5.here hx rfl (hb hby d_jdk_42m149_51) rfl rfl ?_
    show Steps pP.tables eE below (T_5.setTop (mkF mM 52 #[.val (.ref a), .val (.ref s), .val (.int (0 : Int32)), .val (.int (2 : Int32)), .val .null, .val (.ref d__3)] [(.ref a)])) _
    refine XS.aload X_5.here hx rfl (hb hby d_jdk_42m149_52) rfl rfl ?_
    show Steps pP.tables eE below (T_5.setTop (mkF mM 54 #[.val (.ref a), .val (.ref s), .val (.int (0 : Int32)), .val (.int (2 : Int32)), .val .null, .val (.ref d__3)] [(.ref d__3), (.ref a)])) _
    refine st_6 _ ?_
    show Steps pP.tables eE below (T_6.setTop (mkF mM 57 #[.val (.ref a), .val (.ref s), .val (.int (0 : Int32)), .val (.int (2 : Int32)), .val .null, .val (.ref d__3)] [])) _
    exact X_6.returnOut hx Bd.returns (hb hby d_jdk_42m149_57) hr
  · show Q_str5_2 Z a s ks cs c0 c1 h0 n0 _ T_6.heap _
    rw [e_6]
    exact ⟨d__3, kd__3, rfl, N_6, K_6, sz_d__3, (((E_a.keep Kc_3).wr W_5).wr W_6), Fw_6, (Fw_5.other W_6 (Or.inr (slot_ne (Or.inr (hw _ (List.mem_of_getElem? (i := 28) rfl))) (Or.inr (hw _ (List.mem_of_getElem? (i := 30) rfl))) (by decide) (t := .byte) (t' := (.array .byte)) (by decide) (by decide)))), ((pfV_d_3.other W_5 (Ne.symm (Nat.ne_of_lt (Nat.lt_of_lt_of_le E_a.lt pfsz_d_3)))).other W_6 (Ne.symm (Nat.ne_of_lt (Nat.lt_of_lt_of_le E_a.lt pfsz_d_3))))⟩
theorem d_jdk_42m3_0 : decode jdk_42_method_3_code 0 = .ok (.aload_n 0, 1) := by decide +kernel
theorem d_jdk_42m3_1 : decode jdk_42_method_3_code 1 = .ok (.aload_n 1, 1) := by decide +kernel
theorem d_jdk_42m3_2 : decode jdk_42_method_3_code 2 = .ok (.iconst 0, 1) := by decide +kernel
theorem d_jdk_42m3_3 : decode jdk_42_method_3_code 3 = .ok (.aload_n 1, 1) := by decide +kernel
theorem d_jdk_42m3_4 : decode jdk_42_method_3_code 4 = .ok (.arraylength, 1) := by decide +kernel
theorem d_jdk_42m3_5 : decode jdk_42_method_3_code 5 = .ok (.aconst_null, 1) := by decide +kernel
theorem d_jdk_42m3_6 : decode jdk_42_method_3_code 6 = .ok (.invokespecial 27, 3) := by decide +kernel
theorem pd_3 : parseMethodDescriptor "([CIILjava/lang/Void;)V" = some ⟨[(.array .char), .int, .int, (.object "java/lang/Void")], none⟩ := by decide +kernel
theorem d_jdk_42m3_9 : decode jdk_42_method_3_code 9 = .ok (.return_, 1) := by decide +kernel
theorem ef_str_2 (mM : MethodId) (x0 : Addr) (x1 : Addr) : entryFrame mM #[(.ref x0), (.ref x1)] 2 = mkF mM 0 #[.val (.ref x0), .val (.ref x1)] [] := by first | (simp [entryFrame, mkF, argsToLocals, Value.category]; done) | rfl
def Q_str_2 (Z : State) (a : Addr) (s : Addr) (ks : ClassId) (cs : Int32) (c0 : Int32) (c1 : Int32) (h0 : Heap) (n0 : Nat) (v_ : Option Value) (h_ : Heap) (L_ : List Loc) : Prop := ∃ d : Addr, ∃ kd : ClassId, v_ = none ∧ Fr n0 L_ ∧ Keep h0 h_ [a] ∧ h0.size ≤ d ∧ Exa Z h_ a "java/lang/String" ∧ Fld Z h_ a "java/lang/String" "value" "[B" (.ref d) ∧ Fld Z h_ a "java/lang/String" "coder" "B" (.int (0 : Int32)) ∧ Arv Z h_ d kd .byte (2 : Int32) [(.int (nar .byte (c0.toInt8.toInt32))), (.int (nar .byte (c1.toInt8.toInt32)))] (.int (0 : Int32))
set_option maxRecDepth 65536 in
set_option maxHeartbeats 40000000 in
theorem rm_str_2 (l : Launch) (Z : State) (a0 : Array Value) (hw : ∀ d ∈ tables_1, d.before a0 Z = true) (ws : List Jvm.Cond) (a : Addr) (s : Addr) (ks : ClassId) (cs : Int32) (c0 : Int32) (c1 : Int32) (h0 : Heap) (n0 : Nat) (Z0 : n0 ≤ h0.size) (F_value_a : Fld Z h0 a "java/lang/String" "value" "[B" .null) (F_coder_a : Fld Z h0 a "java/lang/String" "coder" "B" (.int (0 : Int32))) (E_a : Exa Z h0 a "java/lang/String") (g_a : n0 ≤ a) (S_String_COMPACT_STRINGS : Sta Z h0 "java/lang/String" "COMPACT_STRINGS" "Z" (.int cs)) (hcs : ¬ cs = 0) (V_s : Arv Z h0 s ks .char (2 : Int32) [(.int c0), (.int c1)] (.int (0 : Int32))) (nas : a ≠ s) (hc0 : ¬ (255 : Int32) < c0) (hc1 : ¬ (255 : Int32) < c1) :
    MetFree l (⟨"java/lang/String", "<init>", "([C)V"⟩ : MethodName) (head1 (Jvm.Cond.code (⟨"java/lang/String", "<init>", "([C)V"⟩ : MethodName) jdk_42_method_3_code 2 none :: ws) ({ frames := 3, cells := 1, slots := 2, locals := 52 } : Room)) (fun aa_ U_ => aa_ = #[(.ref a), (.ref s)] ∧ Z.Warmed39 U_.vm ∧ U_.heap = h0) (fun _ _ _ _ _ => True) (fun _ U_ o_ U'_ => ∃ v_ L_, o_ = .returned v_ ∧ Q_str_2 Z a s ks cs c0 c1 h0 n0 v_ U'_.heap L_ ∧ FrameEnd U_ o_ U'_ L_ ({ frames := 3, cells := 1, slots := 2, locals := 52 } : Room).cells ({ frames := 3, cells := 1, slots := 2, locals := 52 } : Room).slots) := by
  refine MetFree.of_bodySF (plainFor_of_name pn_1) hisR ?_
  intro pP eE sS mM argsA below meth cC s₁ Bd hml0 hP hK
  obtain ⟨rfl, hZ, hh⟩ := hP
  have hx := Bd.exec
  have hby := Bd.bytes
  have hml : cC.maxLocals = 2 := hml0
  have hown : sS.vm.findClass "java/lang/String" = some mM.cls := findClass_of_methodNamed Bd.named
  have hnm := (name_of_methodNamed Bd.named Bd.method).1
  have X0 : Stand pP l eE ({ frames := 3, cells := 1, slots := 2, locals := 52 } : Room) sS mM #[(.ref a), (.ref s)] below meth cC s₁ [] 0 0 := Stand.of_body Bd
  have e0 : s₁.heap = h0 := by rw [← hh, Bd.state]; rfl
  have N0 := Fr.nil n0
  have pre0 : ∀ t_, Steps pP.tables eE below (s₁.setTop (mkF mM 0 #[.val (.ref a), .val (.ref s)] [])) t_ → Steps pP.tables eE below (s₁.setTop (entryFrame mM #[(.ref a), (.ref s)] 2)) t_ := fun t_ k_ => castTop (ef_str_2 mM a s) k_
  obtain ⟨cl_1, Ar_1, -, Sa_1, Na_1, -, -⟩ := id V_s
  obtain ⟨_, _, ⟨T_2, L_2, k_2, n_2⟩, -, X_2, ⟨Lc_2, hQ_2, l_2, y_2, z_2⟩, st_2⟩ := X0.specialBack hx (y := (⟨"java/lang/String", "<init>", "([CIILjava/lang/Void;)V"⟩ : MethodName)) rfl hown (mvT hZ (hw _ (List.mem_of_getElem? (i := 8) rfl))) (mvT hZ (hw _ (List.mem_of_getElem? (i := 9) rfl))) (mvT hZ (hw _ (List.mem_of_getElem? (i := 11) rfl))) (by decide) (backOf (W := 0) (rm_str5_2 l Z a0 hw [] a s ks cs c0 c1 h0 n0 Z0 F_value_a F_coder_a E_a g_a S_String_COMPACT_STRINGS hcs V_s nas hc0 hc1) hZ (hw _ (List.mem_of_getElem? (i := 11) rfl)) (hw _ (List.mem_of_getElem? (i := 4) rfl)) (by decide) (by decide)) (g := (mkF mM 6 #[.val (.ref a), .val (.ref s)] [.null, (.int (2 : Int32)), (.int (0 : Int32)), (.ref s), (.ref a)])) rfl (by rw [hml]; rfl) (Steps.refl _) (a := a) (argsL := [(.ref s), (.int (0 : Int32)), (.int (2 : Int32)), .null]) (rest := []) (lenOf pd_3 rfl) rfl (by show 2 * 0 + _ ≤ _; exact Nat.le_of_eq rfl) (hb hby d_jdk_42m3_6) (fun _ _ => ⟨rfl, e0, (by decide : 0 + 1 ≤ _), (by decide : 0 + 2 ≤ _)⟩)
  dsimp only [Pt.U, Pt.locs, Pt.cells, Pt.slots] at X_2 l_2 y_2 z_2 st_2 hQ_2
  subst l_2 y_2 z_2
  obtain ⟨d__2, ⟨kd__2, ⟨rfl, N_2q, Kc_2, pfsz_d_2, pfE_a_2, pfF_value_a_2, pfF_coder_a_2, pfV_d_2⟩⟩⟩ := hQ_2
  have Z_2 : n0 ≤ T_2.heap.size := (Nat.le_trans Z0 Kc_2.1)
  have K_2 : Keep h0 T_2.heap [a] := (Keep.refl h0 [a]).trans Kc_2 (allS (Or.inl (List.mem_of_getElem? (i := 0) rfl)) all0)
  have sz_d__2 : h0.size ≤ d__2 := Nat.le_trans (Keep.refl h0 [a]).1 pfsz_d_2
  have g_d__2 : n0 ≤ d__2 := Nat.le_trans Z0 pfsz_d_2
  have N_2 := Fr.app N0 N_2q
  obtain ⟨fs, hr, hrun, hended, hW, hsame⟩ := X_2.leave (v := none) (fun _ => rfl)
  refine ⟨_, _, pre0 _ ?_, hrun, hended, _, _, rfl, ?_, ⟨_, rfl⟩, hW, hsame.mono (by decide) (by decide)⟩
  · show Steps pP.tables eE below (s₁.setTop (mkF mM 0 #[.val (.ref a), .val (.ref s)] [])) _
    refine XS.aloadN X0.here hx rfl (hb hby d_jdk_42m3_0) rfl rfl ?_
    show Steps pP.tables eE below (s₁.setTop (mkF mM 1 #[.val (.ref a), .val (.ref s)] [(.ref a)])) _
    refine XS.aloadN X0.here hx rfl (hb hby d_jdk_42m3_1) rfl rfl ?_
    show Steps pP.tables eE below (s₁.setTop (mkF mM 2 #[.val (.ref a), .val (.ref s)] [(.ref s), (.ref a)])) _
    refine XS.iconst X0.here hx rfl (hb hby d_jdk_42m3_2) ?_
    show Steps pP.tables eE below (s₁.setTop (mkF mM 3 #[.val (.ref a), .val (.ref s)] [(.int (0 : Int32)), (.ref s), (.ref a)])) _
    refine XS.aloadN X0.here hx rfl (hb hby d_jdk_42m3_3) rfl rfl ?_
    show Steps pP.tables eE below (s₁.setTop (mkF mM 4 #[.val (.ref a), .val (.ref s)] [(.ref s), (.int (0 : Int32)), (.ref s), (.ref a)])) _
    refine X0.arraylength hx (by rw [e0]; exact Ar_1.1) (State.isArrayOf_alike hZ.alike Ar_1.2.1) (g := (mkF mM 4 #[.val (.ref a), .val (.ref s)] [(.ref s), (.int (0 : Int32)), (.ref s), (.ref a)])) rfl rfl (hb hby d_jdk_42m3_4) _ ?_
    rw [len_of Sa_1 Na_1]
    show Steps pP.tables eE below (s₁.setTop (mkF mM 5 #[.val (.ref a), .val (.ref s)] [(.int (2 : Int32)), (.int (0 : Int32)), (.ref s), (.ref a)])) _
    refine XS.aconstNull X0.here hx rfl (hb hby d_jdk_42m3_5) ?_
    show Steps pP.tables eE below (s₁.setTop (mkF mM 6 #[.val (.ref a), .val (.ref s)] [.null, (.int (2 : Int32)), (.int (0 : Int32)), (.ref s), (.ref a)])) _
    refine st_2.trans ?_
    show Steps pP.tables eE below (T_2.setTop (mkF mM 9 #[.val (.ref a), .val (.ref s)] [])) _
    exact X_2.returnOut hx Bd.returns (hb hby d_jdk_42m3_9) hr
  · show Q_str_2 Z a s ks cs c0 c1 h0 n0 _ T_2.heap _
    exact ⟨d__2, kd__2, rfl, N_2, K_2, sz_d__2, pfE_a_2, pfF_value_a_2, pfF_coder_a_2, pfV_d_2⟩
theorem d_jdk_43m3_0 : decode jdk_43_method_3_code 0 = .ok (.iload_n 0, 1) := by decide +kernel
theorem d_jdk_43m3_1 : decode jdk_43_method_3_code 1 = .ok (.sipush 255, 3) := by decide +kernel
theorem d_jdk_43m3_4 : decode jdk_43_method_3_code 4 = .ok (.if_icmp .gt 7, 3) := by decide +kernel
theorem d_jdk_43m3_7 : decode jdk_43_method_3_code 7 = .ok (.iconst 1, 1) := by decide +kernel
theorem d_jdk_43m3_8 : decode jdk_43_method_3_code 8 = .ok (.goto 4, 3) := by decide +kernel
theorem d_jdk_43m3_12 : decode jdk_43_method_3_code 12 = .ok (.ireturn, 1) := by decide +kernel
theorem pn_2 : plainName "java/lang/StringLatin1" = true := by first | (simp [plainName, overriddenIn]; done) | decide +kernel
theorem ef_can (mM : MethodId) (x0 : Int32) : entryFrame mM #[(.int x0)] 1 = mkF mM 0 #[.val (.int x0)] [] := by first | (simp [entryFrame, mkF, argsToLocals, Value.category]; done) | rfl
def Q_can (Z : State) (p : Int32) (h0 : Heap) (n0 : Nat) (v_ : Option Value) (h_ : Heap) (L_ : List Loc) : Prop := v_ = some (.int (1 : Int32)) ∧ Fr n0 L_ ∧ h_ = h0
set_option maxRecDepth 65536 in
set_option maxHeartbeats 40000000 in
theorem rm_can (l : Launch) (Z : State) (a0 : Array Value) (hw : ∀ d ∈ tables_1, d.before a0 Z = true) (ws : List Jvm.Cond) (p : Int32) (h0 : Heap) (n0 : Nat) (Z0 : n0 ≤ h0.size) (hp : ¬ (255 : Int32) < p) :
    MetFree l (⟨"java/lang/StringLatin1", "canEncode", "(C)Z"⟩ : MethodName) (head1 (Jvm.Cond.code (⟨"java/lang/StringLatin1", "canEncode", "(C)Z"⟩ : MethodName) jdk_43_method_3_code 1 (some .boolean) :: ws) ({ frames := 0, cells := 0, slots := 0, locals := 0 } : Room)) (fun aa_ U_ => aa_ = #[(.int p)] ∧ Z.Warmed39 U_.vm ∧ U_.heap = h0) (fun _ _ _ _ _ => True) (fun _ U_ o_ U'_ => ∃ v_ L_, o_ = .returned v_ ∧ Q_can Z p h0 n0 v_ U'_.heap L_ ∧ FrameEnd U_ o_ U'_ L_ ({ frames := 0, cells := 0, slots := 0, locals := 0 } : Room).cells ({ frames := 0, cells := 0, slots := 0, locals := 0 } : Room).slots) := by
  refine MetFree.of_bodySF (plainFor_of_name pn_2) hisR ?_
  intro pP eE sS mM argsA below meth cC s₁ Bd hml0 hP hK
  obtain ⟨rfl, hZ, hh⟩ := hP
  have hx := Bd.exec
  have hby := Bd.bytes
  have hml : cC.maxLocals = 1 := hml0
  have hown : sS.vm.findClass "java/lang/StringLatin1" = some mM.cls := findClass_of_methodNamed Bd.named
  have hnm := (name_of_methodNamed Bd.named Bd.method).1
  have X0 : Stand pP l eE ({ frames := 0, cells := 0, slots := 0, locals := 0 } : Room) sS mM #[(.int p)] below meth cC s₁ [] 0 0 := Stand.of_body Bd
  have e0 : s₁.heap = h0 := by rw [← hh, Bd.state]; rfl
  have N0 := Fr.nil n0
  have pre0 : ∀ t_, Steps pP.tables eE below (s₁.setTop (mkF mM 0 #[.val (.int p)] [])) t_ → Steps pP.tables eE below (s₁.setTop (entryFrame mM #[(.int p)] 1)) t_ := fun t_ k_ => castTop (ef_can mM p) k_
  obtain ⟨fs, hr, hrun, hended, hW, hsame⟩ := X0.leave (v := some (.int (1 : Int32))) (fun h => by rw [Bd.returns] at h; cases h)
  refine ⟨_, _, pre0 _ ?_, hrun, hended, _, _, rfl, ?_, ⟨_, rfl⟩, hW, hsame.mono (by decide) (by decide)⟩
  · show Steps pP.tables eE below (s₁.setTop (mkF mM 0 #[.val (.int p)] [])) _
    refine XS.iloadN X0.here hx rfl (hb hby d_jdk_43m3_0) rfl ?_
    show Steps pP.tables eE below (s₁.setTop (mkF mM 1 #[.val (.int p)] [(.int p)])) _
    refine XS.sipush X0.here hx rfl (hb hby d_jdk_43m3_1) ?_
    show Steps pP.tables eE below (s₁.setTop (mkF mM 4 #[.val (.int p)] [(.int (255 : Int32)), (.int p)])) _
    refine XS.icmpNo X0.here hx rfl (hb hby d_jdk_43m3_4) rfl (XT.ii_gt_f hp) ?_
    show Steps pP.tables eE below (s₁.setTop (mkF mM 7 #[.val (.int p)] [])) _
    refine XS.iconst X0.here hx rfl (hb hby d_jdk_43m3_7) ?_
    show Steps pP.tables eE below (s₁.setTop (mkF mM 8 #[.val (.int p)] [(.int (1 : Int32))])) _
    refine XS.goto X0.here hx rfl (pc0 := 8) (pc' := 12) rfl (hb hby d_jdk_43m3_8) (by decide) (by decide) ?_
    show Steps pP.tables eE below (s₁.setTop (mkF mM 12 #[.val (.int p)] [(.int (1 : Int32))])) _
    exact retN X0 hx (t := .boolean) Bd.returns (by simp) (hb hby d_jdk_43m3_12) hr
  · show Q_can Z p h0 n0 _ s₁.heap _
    rw [e0]
    exact ⟨rfl, N0, rfl⟩
theorem d_jdk_43m46_0 : decode jdk_43_method_46_code 0 = .ok (.iconst 1, 1) := by decide +kernel
theorem d_jdk_43m46_1 : decode jdk_43_method_46_code 1 = .ok (.newarray .byte, 2) := by decide +kernel
theorem d_jdk_43m46_3 : decode jdk_43_method_46_code 3 = .ok (.dup, 1) := by decide +kernel
theorem d_jdk_43m46_4 : decode jdk_43_method_46_code 4 = .ok (.iconst 0, 1) := by decide +kernel
theorem d_jdk_43m46_5 : decode jdk_43_method_46_code 5 = .ok (.iload_n 0, 1) := by decide +kernel
theorem d_jdk_43m46_6 : decode jdk_43_method_46_code 6 = .ok (.i2b, 1) := by decide +kernel
theorem d_jdk_43m46_7 : decode jdk_43_method_46_code 7 = .ok (.bastore, 1) := by decide +kernel
theorem d_jdk_43m46_8 : decode jdk_43_method_46_code 8 = .ok (.areturn, 1) := by decide +kernel
theorem ef_tob (mM : MethodId) (x0 : Int32) : entryFrame mM #[(.int x0)] 1 = mkF mM 0 #[.val (.int x0)] [] := by first | (simp [entryFrame, mkF, argsToLocals, Value.category]; done) | rfl
def Q_tob (Z : State) (p : Int32) (h0 : Heap) (n0 : Nat) (v_ : Option Value) (h_ : Heap) (L_ : List Loc) : Prop := ∃ b : Addr, ∃ k : ClassId, v_ = some (.ref b) ∧ Fr n0 L_ ∧ Keep h0 h_ [] ∧ h0.size ≤ b ∧ Arv Z h_ b k .byte (1 : Int32) [(.int (nar .byte (p.toInt8.toInt32)))] (.int (0 : Int32))
set_option maxRecDepth 65536 in
set_option maxHeartbeats 40000000 in
theorem rm_tob (l : Launch) (Z : State) (a0 : Array Value) (hw : ∀ d ∈ tables_1, d.before a0 Z = true) (ws : List Jvm.Cond) (p : Int32) (h0 : Heap) (n0 : Nat) (Z0 : n0 ≤ h0.size) :
    MetFree l (⟨"java/lang/StringLatin1", "toBytes", "(C)[B"⟩ : MethodName) (head1 (Jvm.Cond.code (⟨"java/lang/StringLatin1", "toBytes", "(C)[B"⟩ : MethodName) jdk_43_method_46_code 1 (some (.array .byte)) :: ws) ({ frames := 0, cells := 1, slots := 1, locals := 0 } : Room)) (fun aa_ U_ => aa_ = #[(.int p)] ∧ Z.Warmed39 U_.vm ∧ U_.heap = h0) (fun _ _ _ _ _ => True) (fun _ U_ o_ U'_ => ∃ v_ L_, o_ = .returned v_ ∧ Q_tob Z p h0 n0 v_ U'_.heap L_ ∧ FrameEnd U_ o_ U'_ L_ ({ frames := 0, cells := 1, slots := 1, locals := 0 } : Room).cells ({ frames := 0, cells := 1, slots := 1, locals := 0 } : Room).slots) := by
  refine MetFree.of_bodySF (plainFor_of_name pn_2) hisR ?_
  intro pP eE sS mM argsA below meth cC s₁ Bd hml0 hP hK
  obtain ⟨rfl, hZ, hh⟩ := hP
  have hx := Bd.exec
  have hby := Bd.bytes
  have hml : cC.maxLocals = 1 := hml0
  have hown : sS.vm.findClass "java/lang/StringLatin1" = some mM.cls := findClass_of_methodNamed Bd.named
  have hnm := (name_of_methodNamed Bd.named Bd.method).1
  have X0 : Stand pP l eE ({ frames := 0, cells := 1, slots := 1, locals := 0 } : Room) sS mM #[(.int p)] below meth cC s₁ [] 0 0 := Stand.of_body Bd
  have e0 : s₁.heap = h0 := by rw [← hh, Bd.state]; rfl
  have N0 := Fr.nil n0
  have pre0 : ∀ t_, Steps pP.tables eE below (s₁.setTop (mkF mM 0 #[.val (.int p)] [])) t_ → Steps pP.tables eE below (s₁.setTop (entryFrame mM #[(.int p)] 1)) t_ := fun t_ k_ => castTop (ef_tob mM p) k_
  obtain ⟨T_1, h_1, k_1, X_1, e_1, E_1, A_1, st_1⟩ := newP X0 hx hZ (hw _ (List.mem_of_getElem? (i := 20) rfl)) e0 (g := (mkF mM 1 #[.val (.int p)] [(.int (1 : Int32))])) rfl (hb hby d_jdk_43m46_1) rfl (by decide) (cap := 1) (by decide) (by decide) (by decide) (by decide)
  obtain ⟨b_1, g_1⟩ : ∃ z, z = h0.size := ⟨_, rfl⟩
  rw [← g_1] at A_1 st_1
  have g_b_1 : n0 ≤ b_1 := Nat.le_trans Z0 (Nat.le_of_eq g_1.symm)
  have sz_b_1 : h0.size ≤ b_1 := Nat.le_trans (Keep.refl h0 []).1 (Nat.le_of_eq g_1.symm)
  have Z_1 : n0 ≤ h_1.size := (Nat.le_trans Z0 E_1.1)
  have K_1 : Keep h0 h_1 [] := (Keep.refl h0 []).ext E_1
  have V_b_1 : Arv Z h_1 b_1 k_1 .byte (1 : Int32) [(.int (0 : Int32))] (.int (0 : Int32)) := (Arv.new A_1 (by decide)).pad (pad_rep [] (.int (0 : Int32)) 1)
  obtain ⟨cl_2, Ar_2, qa_2, Sa_2, Na_2, Ha_2, Ga_2⟩ := id V_b_1
  have hin_2 : ¬ ((0 : Int32) < 0 ∨ cl_2.slots.size ≤ ((0 : Int32)).toNatClampNeg) := inb_of Sa_2 ⟨by decide, by decide⟩
  obtain ⟨T_2, h_2, X_2, e_2, W_2, st_2⟩ := stB X_1 hx hZ e_1 Ar_2 (j := (0 : Int32)) hin_2 (g := (mkF mM 7 #[.val (.int p)] [(.int (p.toInt8.toInt32)), (.int (0 : Int32)), (.ref b_1), (.ref b_1)])) rfl rfl (hb hby d_jdk_43m46_7)
  have V_2 : Arv Z h_2 b_1 k_1 .byte (1 : Int32) [(.int (nar .byte (p.toInt8.toInt32)))] (.int (0 : Int32)) := Arv.set Ar_2 qa_2 Sa_2 Na_2 Ha_2 Ga_2 (fits_nar_byte _) W_2 0 rfl (Nat.le_of_ble_eq_true rfl)
  have Z_2 : n0 ≤ h_2.size := (Nat.le_trans Z_1 (Keep.of_wr W_2).1)
  have K_2 : Keep h0 h_2 [] := K_1.wr W_2 (Or.inr sz_b_1)
  have N_2 := Fr.snoc X_2 N0 g_b_1
  obtain ⟨fs, hr, hrun, hended, hW, hsame⟩ := X_2.leave (v := some (.ref b_1)) (fun h => by rw [Bd.returns] at h; cases h)
  refine ⟨_, _, pre0 _ ?_, hrun, hended, _, _, rfl, ?_, ⟨_, rfl⟩, hW, hsame.mono (by decide) (by decide)⟩
  · show Steps pP.tables eE below (s₁.setTop (mkF mM 0 #[.val (.int p)] [])) _
    refine XS.iconst X0.here hx rfl (hb hby d_jdk_43m46_0) ?_
    show Steps pP.tables eE below (s₁.setTop (mkF mM 1 #[.val (.int p)] [(.int (1 : Int32))])) _
    refine st_1 _ ?_
    show Steps pP.tables eE below (T_1.setTop (mkF mM 3 #[.val (.int p)] [(.ref b_1)])) _
    refine XS.dup X_1.here hx rfl (hb hby d_jdk_43m46_3) rfl rfl ?_
    show Steps pP.tables eE below (T_1.setTop (mkF mM 4 #[.val (.int p)] [(.ref b_1), (.ref b_1)])) _
    refine XS.iconst X_1.here hx rfl (hb hby d_jdk_43m46_4) ?_
    show Steps pP.tables eE below (T_1.setTop (mkF mM 5 #[.val (.int p)] [(.int (0 : Int32)), (.ref b_1), (.ref b_1)])) _
    refine XS.iloadN X_1.here hx rfl (hb hby d_jdk_43m46_5) rfl ?_
    show Steps pP.tables eE below (T_1.setTop (mkF mM 6 #[.val (.int p)] [(.int p), (.int (0 : Int32)), (.ref b_1), (.ref b_1)])) _
    refine XT.i2b X_1.here hx rfl (hb hby d_jdk_43m46_6) rfl ?_
    show Steps pP.tables eE below (T_1.setTop (mkF mM 7 #[.val (.int p)] [(.int (p.toInt8.toInt32)), (.int (0 : Int32)), (.ref b_1), (.ref b_1)])) _
    refine st_2 _ ?_
    show Steps pP.tables eE below (T_2.setTop (mkF mM 8 #[.val (.int p)] [(.ref b_1)])) _
    exact retOut X_2 hx Bd.returns rfl (Or.inr (Or.inr (Or.inr (Or.inr ⟨rfl, rfl, rfl⟩)))) (hb hby d_jdk_43m46_8) hr
  · show Q_tob Z p h0 n0 _ T_2.heap _
    rw [e_2]
    exact ⟨b_1, k_1, rfl, N_2, K_2, sz_b_1, V_2⟩
theorem d_jdk_42m151_0 : decode jdk_42_method_151_code 0 = .ok (.aload_n 0, 1) := by decide +kernel
theorem d_jdk_42m151_1 : decode jdk_42_method_151_code 1 = .ok (.invokespecial 1, 3) := by decide +kernel
theorem d_jdk_42m151_4 : decode jdk_42_method_151_code 4 = .ok (.aload_n 0, 1) := by decide +kernel
theorem d_jdk_42m151_5 : decode jdk_42_method_151_code 5 = .ok (.aload_n 1, 1) := by decide +kernel
theorem d_jdk_42m151_6 : decode jdk_42_method_151_code 6 = .ok (.putfield 9, 3) := by decide +kernel
theorem d_jdk_42m151_9 : decode jdk_42_method_151_code 9 = .ok (.aload_n 0, 1) := by decide +kernel
theorem d_jdk_42m151_10 : decode jdk_42_method_151_code 10 = .ok (.iload_n 2, 1) := by decide +kernel
theorem d_jdk_42m151_11 : decode jdk_42_method_151_code 11 = .ok (.putfield 15, 3) := by decide +kernel
theorem d_jdk_42m151_14 : decode jdk_42_method_151_code 14 = .ok (.return_, 1) := by decide +kernel
theorem ef_sinit (mM : MethodId) (x0 : Addr) (x1 : Addr) (x2 : Int32) : entryFrame mM #[(.ref x0), (.ref x1), (.int x2)] 3 = mkF mM 0 #[.val (.ref x0), .val (.ref x1), .val (.int x2)] [] := by first | (simp [entryFrame, mkF, argsToLocals, Value.category]; done) | rfl
def Q_sinit (Z : State) (a : Addr) (w : Addr) (h0 : Heap) (n0 : Nat) (v_ : Option Value) (h_ : Heap) (L_ : List Loc) : Prop := v_ = none ∧ Fr n0 L_ ∧ Keep h0 h_ [a] ∧ Fld Z h_ a "java/lang/String" "value" "[B" (.ref w) ∧ Fld Z h_ a "java/lang/String" "coder" "B" (.int (0 : Int32)) ∧ Exa Z h_ a "java/lang/String"
set_option maxRecDepth 65536 in
set_option maxHeartbeats 40000000 in
theorem rm_sinit (l : Launch) (Z : State) (a0 : Array Value) (hw : ∀ d ∈ tables_1, d.before a0 Z = true) (ws : List Jvm.Cond) (a : Addr) (w : Addr) (h0 : Heap) (n0 : Nat) (Z0 : n0 ≤ h0.size) (F_value_a : Fld Z h0 a "java/lang/String" "value" "[B" .null) (F_coder_a : Fld Z h0 a "java/lang/String" "coder" "B" (.int (0 : Int32))) (E_a : Exa Z h0 a "java/lang/String") (g_a : n0 ≤ a) :
    MetFree l (⟨"java/lang/String", "<init>", "([BB)V"⟩ : MethodName) (head1 (Jvm.Cond.code (⟨"java/lang/String", "<init>", "([BB)V"⟩ : MethodName) jdk_42_method_151_code 3 none :: ws) ({ frames := 1, cells := 0, slots := 0, locals := 12 } : Room)) (fun aa_ U_ => aa_ = #[(.ref a), (.ref w), (.int (0 : Int32))] ∧ Z.Warmed39 U_.vm ∧ U_.heap = h0) (fun _ _ _ _ _ => True) (fun _ U_ o_ U'_ => ∃ v_ L_, o_ = .returned v_ ∧ Q_sinit Z a w h0 n0 v_ U'_.heap L_ ∧ FrameEnd U_ o_ U'_ L_ ({ frames := 1, cells := 0, slots := 0, locals := 12 } : Room).cells ({ frames := 1, cells := 0, slots := 0, locals := 12 } : Room).slots) := by
  refine MetFree.of_bodySF (plainFor_of_name pn_1) hisR ?_
  intro pP eE sS mM argsA below meth cC s₁ Bd hml0 hP hK
  obtain ⟨rfl, hZ, hh⟩ := hP
  have hx := Bd.exec
  have hby := Bd.bytes
  have hml : cC.maxLocals = 3 := hml0
  have hown : sS.vm.findClass "java/lang/String" = some mM.cls := findClass_of_methodNamed Bd.named
  have hnm := (name_of_methodNamed Bd.named Bd.method).1
  have X0 : Stand pP l eE ({ frames := 1, cells := 0, slots := 0, locals := 12 } : Room) sS mM #[(.ref a), (.ref w), (.int (0 : Int32))] below meth cC s₁ [] 0 0 := Stand.of_body Bd
  have e0 : s₁.heap = h0 := by rw [← hh, Bd.state]; rfl
  have N0 := Fr.nil n0
  have pre0 : ∀ t_, Steps pP.tables eE below (s₁.setTop (mkF mM 0 #[.val (.ref a), .val (.ref w), .val (.int (0 : Int32))] [])) t_ → Steps pP.tables eE below (s₁.setTop (entryFrame mM #[(.ref a), (.ref w), (.int (0 : Int32))] 3)) t_ := fun t_ k_ => castTop (ef_sinit mM a w (0 : Int32)) k_
  obtain ⟨T_1, X_1, e_1, st_1⟩ := initO X0 hx hZ hown (hw _ (List.mem_of_getElem? (i := 12) rfl)) (hw _ (List.mem_of_getElem? (i := 13) rfl)) (hw _ (List.mem_of_getElem? (i := 14) rfl)) e0 (g := (mkF mM 1 #[.val (.ref a), .val (.ref w), .val (.int (0 : Int32))] [(.ref a)])) rfl (by rw [hml]; rfl) rfl (hb hby d_jdk_42m151_1) (by decide) (W := 0) (by show 2 * 0 + _ ≤ _; exact Nat.le_of_eq rfl) (by decide)
  obtain ⟨T_2, h_2, X_2, e_2, W_2, st_2⟩ := putF X_1 hx hZ hown (host := "") (Or.inl (hw _ (List.mem_of_getElem? (i := 29) rfl))) Via.refl e_1 F_value_a E_a (Or.inr ⟨(hw _ (List.mem_of_getElem? (i := 30) rfl)), rfl, hnm⟩) (hw _ (List.mem_of_getElem? (i := 3) rfl)) (ty := (.array .byte)) (by decide) rfl rfl (g := (mkF mM 6 #[.val (.ref a), .val (.ref w), .val (.int (0 : Int32))] [(.ref w), (.ref a)])) rfl rfl (hb hby d_jdk_42m151_6)
  have Fw_2 := F_value_a.same W_2
  have Z_2 : n0 ≤ h_2.size := (Nat.le_trans Z0 (Keep.of_wr W_2).1)
  have K_2 : Keep h0 h_2 [a] := (Keep.refl h0 [a]).wr W_2 (Or.inl (List.mem_of_getElem? (i := 0) rfl))
  have N_2 := Fr.snoc X_2 N0 g_a
  obtain ⟨T_3, h_3, X_3, e_3, W_3, st_3⟩ := putFN X_2 hx hZ hown (hw _ (List.mem_of_getElem? (i := 27) rfl)) Via.refl e_2 (F_coder_a.other W_2 (Or.inr (slot_ne (Or.inr (hw _ (List.mem_of_getElem? (i := 28) rfl))) (Or.inr (hw _ (List.mem_of_getElem? (i := 30) rfl))) (by decide) (t := .byte) (t' := (.array .byte)) (by decide) (by decide)))) (E_a.wr W_2) (Or.inr ⟨(hw _ (List.mem_of_getElem? (i := 28) rfl)), rfl, hnm⟩) (hw _ (List.mem_of_getElem? (i := 3) rfl)) (ty := .byte) (v' := (.int (0 : Int32))) (by decide) rfl rfl (g := (mkF mM 11 #[.val (.ref a), .val (.ref w), .val (.int (0 : Int32))] [(.int (0 : Int32)), (.ref a)])) rfl rfl (hb hby d_jdk_42m151_11)
  have Fw_3 := (F_coder_a.other W_2 (Or.inr (slot_ne (Or.inr (hw _ (List.mem_of_getElem? (i := 28) rfl))) (Or.inr (hw _ (List.mem_of_getElem? (i := 30) rfl))) (by decide) (t := .byte) (t' := (.array .byte)) (by decide) (by decide)))).same W_3
  have Z_3 : n0 ≤ h_3.size := (Nat.le_trans Z_2 (Keep.of_wr W_3).1)
  have K_3 : Keep h0 h_3 [a] := K_2.wr W_3 (Or.inl (List.mem_of_getElem? (i := 0) rfl))
  have N_3 := Fr.snoc X_3 N_2 g_a
  obtain ⟨fs, hr, hrun, hended, hW, hsame⟩ := X_3.leave (v := none) (fun _ => rfl)
  refine ⟨_, _, pre0 _ ?_, hrun, hended, _, _, rfl, ?_, ⟨_, rfl⟩, hW, hsame.mono (by decide) (by decide)⟩
  · show Steps pP.tables eE below (s₁.setTop (mkF mM 0 #[.val (.ref a), .val (.ref w), .val (.int (0 : Int32))] [])) _
    refine XS.aloadN X0.here hx rfl (hb hby d_jdk_42m151_0) rfl rfl ?_
    show Steps pP.tables eE below (s₁.setTop (mkF mM 1 #[.val (.ref a), .val (.ref w), .val (.int (0 : Int32))] [(.ref a)])) _
    refine st_1 _ ?_
    show Steps pP.tables eE below (T_1.setTop (mkF mM 4 #[.val (.ref a), .val (.ref w), .val (.int (0 : Int32))] [])) _
    refine XS.aloadN X_1.here hx rfl (hb hby d_jdk_42m151_4) rfl rfl ?_
    show Steps pP.tables eE below (T_1.setTop (mkF mM 5 #[.val (.ref a), .val (.ref w), .val (.int (0 : Int32))] [(.ref a)])) _
    refine XS.aloadN X_1.here hx rfl (hb hby d_jdk_42m151_5) rfl rfl ?_
    show Steps pP.tables eE below (T_1.setTop (mkF mM 6 #[.val (.ref a), .val (.ref w), .val (.int (0 : Int32))] [(.ref w), (.ref a)])) _
    refine st_2 _ ?_
    show Steps pP.tables eE below (T_2.setTop (mkF mM 9 #[.val (.ref a), .val (.ref w), .val (.int (0 : Int32))] [])) _
    refine XS.aloadN X_2.here hx rfl (hb hby d_jdk_42m151_9) rfl rfl ?_
    show Steps pP.tables eE below (T_2.setTop (mkF mM 10 #[.val (.ref a), .val (.ref w), .val (.int (0 : Int32))] [(.ref a)])) _
    refine XS.iloadN X_2.here hx rfl (hb hby d_jdk_42m151_10) rfl ?_
    show Steps pP.tables eE below (T_2.setTop (mkF mM 11 #[.val (.ref a), .val (.ref w), .val (.int (0 : Int32))] [(.int (0 : Int32)), (.ref a)])) _
    refine st_3 _ ?_
    show Steps pP.tables eE below (T_3.setTop (mkF mM 14 #[.val (.ref a), .val (.ref w), .val (.int (0 : Int32))] [])) _
    exact X_3.returnOut hx Bd.returns (hb hby d_jdk_42m151_14) hr
  · show Q_sinit Z a w h0 n0 _ T_3.heap _
    rw [e_3]
    exact ⟨rfl, N_3, K_3, (Fw_2.other W_3 (Or.inr (slot_ne (Or.inr (hw _ (List.mem_of_getElem? (i := 30) rfl))) (Or.inr (hw _ (List.mem_of_getElem? (i := 28) rfl))) (by decide) (t := (.array .byte)) (t' := .byte) (by decide) (by decide)))), Fw_3, ((E_a.wr W_2).wr W_3)⟩
theorem d_jdk_42m139_0 : decode jdk_42_method_139_code 0 = .ok (.getstatic 38, 3) := by decide +kernel
theorem d_jdk_42m139_3 : decode jdk_42_method_139_code 3 = .ok (.ifCond .eq 23, 3) := by decide +kernel
theorem d_jdk_42m139_6 : decode jdk_42_method_139_code 6 = .ok (.iload_n 0, 1) := by decide +kernel
theorem d_jdk_42m139_7 : decode jdk_42_method_139_code 7 = .ok (.invokestatic 1015, 3) := by decide +kernel
theorem pd_4 : parseMethodDescriptor "(C)Z" = some ⟨[.char], some .boolean⟩ := by decide +kernel
theorem d_jdk_42m139_10 : decode jdk_42_method_139_code 10 = .ok (.ifCond .eq 16, 3) := by decide +kernel
theorem d_jdk_42m139_13 : decode jdk_42_method_139_code 13 = .ok (.new 10, 3) := by decide +kernel
theorem d_jdk_42m139_16 : decode jdk_42_method_139_code 16 = .ok (.dup, 1) := by decide +kernel
theorem d_jdk_42m139_17 : decode jdk_42_method_139_code 17 = .ok (.iload_n 0, 1) := by decide +kernel
theorem d_jdk_42m139_18 : decode jdk_42_method_139_code 18 = .ok (.invokestatic 1018, 3) := by decide +kernel
theorem pd_5 : parseMethodDescriptor "(C)[B" = some ⟨[.char], some (.array .byte)⟩ := by decide +kernel
theorem d_jdk_42m139_21 : decode jdk_42_method_139_code 21 = .ok (.iconst 0, 1) := by decide +kernel
theorem d_jdk_42m139_22 : decode jdk_42_method_139_code 22 = .ok (.invokespecial 209, 3) := by decide +kernel
theorem pd_6 : parseMethodDescriptor "([BB)V" = some ⟨[(.array .byte), .byte], none⟩ := by decide +kernel
theorem d_jdk_42m139_25 : decode jdk_42_method_139_code 25 = .ok (.areturn, 1) := by decide +kernel
theorem ef_valof (mM : MethodId) (x0 : Int32) : entryFrame mM #[(.int x0)] 1 = mkF mM 0 #[.val (.int x0)] [] := by first | (simp [entryFrame, mkF, argsToLocals, Value.category]; done) | rfl
def Q_valof (Z : State) (p : Int32) (cs : Int32) (h0 : Heap) (n0 : Nat) (v_ : Option Value) (h_ : Heap) (L_ : List Loc) : Prop := ∃ b : Addr, ∃ d : Addr, ∃ k : ClassId, v_ = some (.ref b) ∧ Fr n0 L_ ∧ Keep h0 h_ [] ∧ h0.size ≤ b ∧ h0.size ≤ d ∧ Exa Z h_ b "java/lang/String" ∧ Fld Z h_ b "java/lang/String" "value" "[B" (.ref d) ∧ Fld Z h_ b "java/lang/String" "coder" "B" (.int (0 : Int32)) ∧ Arv Z h_ d k .byte (1 : Int32) [(.int (nar .byte (p.toInt8.toInt32)))] (.int (0 : Int32))
set_option maxRecDepth 65536 in
set_option maxHeartbeats 40000000 in
theorem rm_valof (l : Launch) (Z : State) (a0 : Array Value) (hw : ∀ d ∈ tables_1, d.before a0 Z = true) (ws : List Jvm.Cond) (p : Int32) (cs : Int32) (h0 : Heap) (n0 : Nat) (Z0 : n0 ≤ h0.size) (S_String_COMPACT_STRINGS : Sta Z h0 "java/lang/String" "COMPACT_STRINGS" "Z" (.int cs)) (hcs : ¬ cs = 0) (hp : ¬ (255 : Int32) < p) :
    MetFree l (⟨"java/lang/String", "valueOf", "(C)Ljava/lang/String;"⟩ : MethodName) (head1 (Jvm.Cond.code (⟨"java/lang/String", "valueOf", "(C)Ljava/lang/String;"⟩ : MethodName) jdk_42_method_139_code 1 (some (.object "java/lang/String")) :: ws) ({ frames := 2, cells := 2, slots := 5, locals := 27 } : Room)) (fun aa_ U_ => aa_ = #[(.int p)] ∧ Z.Warmed39 U_.vm ∧ U_.heap = h0) (fun _ _ _ _ _ => True) (fun _ U_ o_ U'_ => ∃ v_ L_, o_ = .returned v_ ∧ Q_valof Z p cs h0 n0 v_ U'_.heap L_ ∧ FrameEnd U_ o_ U'_ L_ ({ frames := 2, cells := 2, slots := 5, locals := 27 } : Room).cells ({ frames := 2, cells := 2, slots := 5, locals := 27 } : Room).slots) := by
  refine MetFree.of_bodySF (plainFor_of_name pn_1) hisR ?_
  intro pP eE sS mM argsA below meth cC s₁ Bd hml0 hP hK
  obtain ⟨rfl, hZ, hh⟩ := hP
  have hx := Bd.exec
  have hby := Bd.bytes
  have hml : cC.maxLocals = 1 := hml0
  have hown : sS.vm.findClass "java/lang/String" = some mM.cls := findClass_of_methodNamed Bd.named
  have hnm := (name_of_methodNamed Bd.named Bd.method).1
  have X0 : Stand pP l eE ({ frames := 2, cells := 2, slots := 5, locals := 27 } : Room) sS mM #[(.int p)] below meth cC s₁ [] 0 0 := Stand.of_body Bd
  have e0 : s₁.heap = h0 := by rw [← hh, Bd.state]; rfl
  have N0 := Fr.nil n0
  have pre0 : ∀ t_, Steps pP.tables eE below (s₁.setTop (mkF mM 0 #[.val (.int p)] [])) t_ → Steps pP.tables eE below (s₁.setTop (entryFrame mM #[(.int p)] 1)) t_ := fun t_ k_ => castTop (ef_valof mM p) k_
  obtain ⟨T_1, X_1, e_1, st_1⟩ := getS2 X0 hx hZ hown (host := "") (Or.inl (hw _ (List.mem_of_getElem? (i := 15) rfl))) Via.refl e0 S_String_COMPACT_STRINGS (g := (mkF mM 0 #[.val (.int p)] [])) rfl (hb hby d_jdk_42m139_0)
  obtain ⟨_, _, ⟨T_2, L_2, k_2, n_2⟩, -, X_2, ⟨Lc_2, hQ_2, l_2, y_2, z_2⟩, st_2⟩ := Jvm.LawKit.callS X_1 hx (y := (⟨"java/lang/StringLatin1", "canEncode", "(C)Z"⟩ : MethodName)) hown (mvT hZ (hw _ (List.mem_of_getElem? (i := 34) rfl))) (mvT hZ (hw _ (List.mem_of_getElem? (i := 35) rfl))) (mvT hZ (hw _ (List.mem_of_getElem? (i := 36) rfl))) (mvT hZ (hw _ (List.mem_of_getElem? (i := 37) rfl))) (by decide) (backOf (W := 0) (rm_can l Z a0 hw [] p h0 n0 Z0 hp) hZ (hw _ (List.mem_of_getElem? (i := 37) rfl)) (hw _ (List.mem_of_getElem? (i := 36) rfl)) (by decide) (by decide)) (g := (mkF mM 7 #[.val (.int p)] [(.int p)])) rfl (by rw [hml]; rfl) (argsL := [(.int p)]) (rest := []) (lenOf pd_4 rfl) rfl (by show 2 * 0 + _ ≤ _; exact Nat.le_of_eq rfl) (hb hby d_jdk_42m139_7) (fun _ _ => ⟨rfl, e_1, (by decide : 0 + 0 ≤ _), (by decide : 0 + 0 ≤ _)⟩)
  dsimp only [Pt.U, Pt.locs, Pt.cells, Pt.slots] at X_2 l_2 y_2 z_2 st_2 hQ_2
  subst l_2 y_2 z_2
  obtain ⟨rfl, N_2q, eh_2⟩ := hQ_2
  have N_2 := Fr.app N0 N_2q
  obtain ⟨T_3, h_3, X_3, e_3, E_3, A_3, D_3, -, st_3⟩ := newO X_2 hx hZ hown (hw _ (List.mem_of_getElem? (i := 38) rfl)) (hw _ (List.mem_of_getElem? (i := 3) rfl)) (hw _ (List.mem_of_getElem? (i := 4) rfl)) eh_2 (g := (mkF mM 13 #[.val (.int p)] [])) rfl (hb hby d_jdk_42m139_13) (by decide) (by decide)
  obtain ⟨b_3, g_3⟩ : ∃ z, z = h0.size := ⟨_, rfl⟩
  rw [← g_3] at A_3 D_3 st_3
  have g_b_3 : n0 ≤ b_3 := Nat.le_trans Z0 (Nat.le_of_eq g_3.symm)
  have sz_b_3 : h0.size ≤ b_3 := Nat.le_trans (Keep.refl h0 []).1 (Nat.le_of_eq g_3.symm)
  have Z_3 : n0 ≤ h_3.size := (Nat.le_trans Z0 E_3.1)
  have K_3 : Keep h0 h_3 [] := (Keep.refl h0 []).ext E_3
  have F_coder_b_3__3 : Fld Z h_3 b_3 "java/lang/String" "coder" "B" (.int (0 : Int32)) := D_3 (Or.inr (hw _ (List.mem_of_getElem? (i := 28) rfl))) (ty := .byte) (by decide)
  have F_value_b_3__3 : Fld Z h_3 b_3 "java/lang/String" "value" "[B" .null := D_3 (Or.inr (hw _ (List.mem_of_getElem? (i := 30) rfl))) (ty := (.array .byte)) (by decide)
  obtain ⟨_, _, ⟨T_4, L_4, k_4, n_4⟩, -, X_4, ⟨Lc_4, hQ_4, l_4, y_4, z_4⟩, st_4⟩ := Jvm.LawKit.callS X_3 hx (y := (⟨"java/lang/StringLatin1", "toBytes", "(C)[B"⟩ : MethodName)) hown (mvT hZ (hw _ (List.mem_of_getElem? (i := 39) rfl))) (mvT hZ (hw _ (List.mem_of_getElem? (i := 40) rfl))) (mvT hZ (hw _ (List.mem_of_getElem? (i := 36) rfl))) (mvT hZ (hw _ (List.mem_of_getElem? (i := 41) rfl))) (by decide) (backOf (W := 2) (rm_tob l Z a0 hw [] p h_3 n0 Z_3 ) hZ (hw _ (List.mem_of_getElem? (i := 41) rfl)) (hw _ (List.mem_of_getElem? (i := 36) rfl)) (by decide) (by decide)) (g := (mkF mM 18 #[.val (.int p)] [(.int p), (.ref b_3), (.ref b_3)])) rfl (by rw [hml]; rfl) (argsL := [(.int p)]) (rest := [(.ref b_3), (.ref b_3)]) (lenOf pd_5 rfl) rfl (by show 2 * 0 + _ ≤ _; exact Nat.le_of_eq rfl) (hb hby d_jdk_42m139_18) (fun _ _ => ⟨rfl, e_3, (by decide : 1 + 1 ≤ _), (by decide : 4 + 1 ≤ _)⟩)
  dsimp only [Pt.U, Pt.locs, Pt.cells, Pt.slots] at X_4 l_4 y_4 z_4 st_4 hQ_4
  subst l_4 y_4 z_4
  obtain ⟨b__4, ⟨k__4, ⟨rfl, N_4q, Kc_4, pfsz_b_4, pfV_b_4⟩⟩⟩ := hQ_4
  have Z_4 : n0 ≤ T_4.heap.size := (Nat.le_trans Z_3 Kc_4.1)
  have K_4 : Keep h0 T_4.heap [] := K_3.trans Kc_4 all0
  have sz_b__4 : h0.size ≤ b__4 := Nat.le_trans K_3.1 pfsz_b_4
  have g_b__4 : n0 ≤ b__4 := Nat.le_trans Z_3 pfsz_b_4
  have N_4 := Fr.app N_2 N_4q
  obtain ⟨_, _, ⟨T_5, L_5, k_5, n_5⟩, -, X_5, ⟨Lc_5, hQ_5, l_5, y_5, z_5⟩, st_5⟩ := X_4.specialBack hx (y := (⟨"java/lang/String", "<init>", "([BB)V"⟩ : MethodName)) rfl hown (mvT hZ (hw _ (List.mem_of_getElem? (i := 42) rfl))) (mvT hZ (hw _ (List.mem_of_getElem? (i := 43) rfl))) (mvT hZ (hw _ (List.mem_of_getElem? (i := 44) rfl))) (by decide) (backOf (W := 1) (rm_sinit l Z a0 hw [] b_3 b__4 T_4.heap n0 Z_4 (F_value_b_3__3.keep Kc_4 nin0) (F_coder_b_3__3.keep Kc_4 nin0) (A_3.keep Kc_4) g_b_3) hZ (hw _ (List.mem_of_getElem? (i := 44) rfl)) (hw _ (List.mem_of_getElem? (i := 4) rfl)) (by decide) (by decide)) (g := (mkF mM 22 #[.val (.int p)] [(.int (0 : Int32)), (.ref b__4), (.ref b_3), (.ref b_3)])) rfl (by rw [hml]; rfl) (Steps.refl _) (a := b_3) (argsL := [(.ref b__4), (.int (0 : Int32))]) (rest := [(.ref b_3)]) (lenOf pd_6 rfl) rfl (by show 2 * 0 + _ ≤ _; exact Nat.le_of_eq rfl) (hb hby d_jdk_42m139_22) (fun _ _ => ⟨rfl, rfl, (by decide : 2 + 0 ≤ _), (by decide : 5 + 0 ≤ _)⟩)
  dsimp only [Pt.U, Pt.locs, Pt.cells, Pt.slots] at X_5 l_5 y_5 z_5 st_5 hQ_5
  subst l_5 y_5 z_5
  obtain ⟨rfl, N_5q, Kc_5, pfF_value_a_5, pfF_coder_a_5, pfE_a_5⟩ := hQ_5
  have Z_5 : n0 ≤ T_5.heap.size := (Nat.le_trans Z_4 Kc_5.1)
  have K_5 : Keep h0 T_5.heap [] := K_4.trans Kc_5 (allS (Or.inr sz_b_3) all0)
  have N_5 := Fr.app N_4 N_5q
  obtain ⟨fs, hr, hrun, hended, hW, hsame⟩ := X_5.leave (v := some (.ref b_3)) (fun h => by rw [Bd.returns] at h; cases h)
  refine ⟨_, _, pre0 _ ?_, hrun, hended, _, _, rfl, ?_, ⟨_, rfl⟩, hW, hsame.mono (by decide) (by decide)⟩
  · show Steps pP.tables eE below (s₁.setTop (mkF mM 0 #[.val (.int p)] [])) _
    refine st_1 _ ?_
    show Steps pP.tables eE below (T_1.setTop (mkF mM 3 #[.val (.int p)] [(.int cs)])) _
    refine XS.ifNo X_1.here hx rfl (hb hby d_jdk_42m139_3) rfl (XT.i0_eq_f hcs) ?_
    show Steps pP.tables eE below (T_1.setTop (mkF mM 6 #[.val (.int p)] [])) _
    refine XS.iloadN X_1.here hx rfl (hb hby d_jdk_42m139_6) rfl ?_
    show Steps pP.tables eE below (T_1.setTop (mkF mM 7 #[.val (.int p)] [(.int p)])) _
    refine st_2 _ ?_
    show Steps pP.tables eE below (T_2.setTop (mkF mM 10 #[.val (.int p)] [(.int (1 : Int32))])) _
    refine XS.ifNo X_2.here hx rfl (hb hby d_jdk_42m139_10) rfl (by decide) ?_
    show Steps pP.tables eE below (T_2.setTop (mkF mM 13 #[.val (.int p)] [])) _
    refine st_3 _ ?_
    show Steps pP.tables eE below (T_3.setTop (mkF mM 16 #[.val (.int p)] [(.ref b_3)])) _
    refine XS.dup X_3.here hx rfl (hb hby d_jdk_42m139_16) rfl rfl ?_
    show Steps pP.tables eE below (T_3.setTop (mkF mM 17 #[.val (.int p)] [(.ref b_3), (.ref b_3)])) _
    refine XS.iloadN X_3.here hx rfl (hb hby d_jdk_42m139_17) rfl ?_
    show Steps pP.tables eE below (T_3.setTop (mkF mM 18 #[.val (.int p)] [(.int p), (.ref b_3), (.ref b_3)])) _
    refine st_4 _ ?_
    show Steps pP.tables eE below (T_4.setTop (mkF mM 21 #[.val (.int p)] [(.ref b__4), (.ref b_3), (.ref b_3)])) _
    refine XS.iconst X_4.here hx rfl (hb hby d_jdk_42m139_21) ?_
    show Steps pP.tables eE below (T_4.setTop (mkF mM 22 #[.val (.int p)] [(.int (0 : Int32)), (.ref b__4), (.ref b_3), (.ref b_3)])) _
    refine st_5.trans ?_
    show Steps pP.tables eE below (T_5.setTop (mkF mM 25 #[.val (.int p)] [(.ref b_3)])) _
    exact retOut X_5 hx Bd.returns rfl (Or.inr (Or.inr (Or.inr (Or.inr ⟨rfl, rfl, rfl⟩)))) (hb hby d_jdk_42m139_25) hr
  · show Q_valof Z p cs h0 n0 _ T_5.heap _
    exact ⟨b_3, b__4, k__4, rfl, N_5, K_5, sz_b_3, sz_b__4, pfE_a_5, pfF_value_a_5, pfF_coder_a_5, (pfV_b_4.keep Kc_5 (ninS (Ne.symm (Nat.ne_of_lt (Nat.lt_of_lt_of_le A_3.lt pfsz_b_4))) nin0))⟩
theorem d_prog_29m11_0 : decode prog_29_method_11_code 0 = .ok (.dload_n 1, 1) := by decide +kernel
theorem d_prog_29m11_1 : decode prog_29_method_11_code 1 = .ok (.dconst 0, 1) := by decide +kernel
theorem d_prog_29m11_2 : decode prog_29_method_11_code 2 = .ok (.dcmp .l, 1) := by decide +kernel
theorem d_prog_29m11_3 : decode prog_29_method_11_code 3 = .ok (.ifCond .lt 9, 3) := by decide +kernel
theorem d_prog_29m11_6 : decode prog_29_method_11_code 6 = .ok (.dload_n 1, 1) := by decide +kernel
theorem d_prog_29m11_7 : decode prog_29_method_11_code 7 = .ok (.dconst 1, 1) := by decide +kernel
theorem d_prog_29m11_8 : decode prog_29_method_11_code 8 = .ok (.dcmp .g, 1) := by decide +kernel
theorem d_prog_29m11_9 : decode prog_29_method_11_code 9 = .ok (.ifCond .le 18, 3) := by decide +kernel
theorem d_prog_29m11_27 : decode prog_29_method_11_code 27 = .ok (.dload_n 1, 1) := by decide +kernel
theorem d_prog_29m11_28 : decode prog_29_method_11_code 28 = .ok (.dreturn, 1) := by decide +kernel
theorem pn_3 : plainName "com/example/polyvane/polyvane/moead/DecompositionAlgorithm" = true := by first | (simp [plainName, overriddenIn]; done) | decide +kernel
theorem ef_chk (mM : MethodId) (x0 : Addr) (x1 : UInt64) : entryFrame mM #[(.ref x0), (.double x1)] 3 = mkF mM 0 #[.val (.ref x0), .val (.double x1), .second] [] := by first | (simp [entryFrame, mkF, argsToLocals, Value.category]; done) | rfl
def Q_chk (Z : State) (a : Addr) (xd : UInt64) (h0 : Heap) (n0 : Nat) (v_ : Option Value) (h_ : Heap) (L_ : List Loc) : Prop := v_ = some (.double xd) ∧ Fr n0 L_ ∧ h_ = h0
set_option maxRecDepth 65536 in
set_option maxHeartbeats 40000000 in
theorem rm_chk (l : Launch) (Z : State) (a0 : Array Value) (hw : ∀ d ∈ tables_1, d.before a0 Z = true) (ws : List Jvm.Cond) (a : Addr) (xd : UInt64) (h0 : Heap) (n0 : Nat) (Z0 : n0 ≤ h0.size) (hx1 : xd.toNat ≤ 4607182418800017408) :
    MetFree l (⟨"com/example/polyvane/polyvane/moead/DecompositionAlgorithm", "checkedProbability", "(Ljava/lang/String;D)D"⟩ : MethodName) (head1 (Jvm.Cond.code (⟨"com/example/polyvane/polyvane/moead/DecompositionAlgorithm", "checkedProbability", "(Ljava/lang/String;D)D"⟩ : MethodName) prog_29_method_11_code 3 (some .double) :: ws) ({ frames := 0, cells := 0, slots := 0, locals := 0 } : Room)) (fun aa_ U_ => aa_ = #[(.ref a), (.double xd)] ∧ Z.Warmed39 U_.vm ∧ U_.heap = h0) (fun _ _ _ _ _ => True) (fun _ U_ o_ U'_ => ∃ v_ L_, o_ = .returned v_ ∧ Q_chk Z a xd h0 n0 v_ U'_.heap L_ ∧ FrameEnd U_ o_ U'_ L_ ({ frames := 0, cells := 0, slots := 0, locals := 0 } : Room).cells ({ frames := 0, cells := 0, slots := 0, locals := 0 } : Room).slots) := by
  refine MetFree.of_bodySF (plainFor_of_name pn_3) hisR ?_
  intro pP eE sS mM argsA below meth cC s₁ Bd hml0 hP hK
  obtain ⟨rfl, hZ, hh⟩ := hP
  have hx := Bd.exec
  have hby := Bd.bytes
  have hml : cC.maxLocals = 3 := hml0
  have hown : sS.vm.findClass "com/example/polyvane/polyvane/moead/DecompositionAlgorithm" = some mM.cls := findClass_of_methodNamed Bd.named
  have hnm := (name_of_methodNamed Bd.named Bd.method).1
  have X0 : Stand pP l eE ({ frames := 0, cells := 0, slots := 0, locals := 0 } : Room) sS mM #[(.ref a), (.double xd)] below meth cC s₁ [] 0 0 := Stand.of_body Bd
  have e0 : s₁.heap = h0 := by rw [← hh, Bd.state]; rfl
  have N0 := Fr.nil n0
  have pre0 : ∀ t_, Steps pP.tables eE below (s₁.setTop (mkF mM 0 #[.val (.ref a), .val (.double xd), .second] [])) t_ → Steps pP.tables eE below (s₁.setTop (entryFrame mM #[(.ref a), (.double xd)] 3)) t_ := fun t_ k_ => castTop (ef_chk mM a xd) k_
  obtain ⟨fs, hr, hrun, hended, hW, hsame⟩ := X0.leave (v := some (.double xd)) (fun h => by rw [Bd.returns] at h; cases h)
  refine ⟨_, _, pre0 _ ?_, hrun, hended, _, _, rfl, ?_, ⟨_, rfl⟩, hW, hsame.mono (by decide) (by decide)⟩
  · show Steps pP.tables eE below (s₁.setTop (mkF mM 0 #[.val (.ref a), .val (.double xd), .second] [])) _
    refine XS.dloadN X0.here hx rfl (hb hby d_prog_29m11_0) rfl ?_
    show Steps pP.tables eE below (s₁.setTop (mkF mM 1 #[.val (.ref a), .val (.double xd), .second] [(.double xd)])) _
    refine XS.dconst0 X0.here hx rfl (v := (0 : UInt64)) (hb hby d_prog_29m11_1) rfl ?_
    show Steps pP.tables eE below (s₁.setTop (mkF mM 2 #[.val (.ref a), .val (.double xd), .second] [(.double (0 : UInt64)), (.double xd)])) _
    refine XS.dcmpS X0.here hx rfl (hb hby d_prog_29m11_2) rfl rfl ?_
    show Steps pP.tables eE below (s₁.setTop (mkF mM 3 #[.val (.ref a), .val (.double xd), .second] [(.int (cmpValue (FP.dcmp xd (0 : UInt64)) .l))])) _
    refine XS.ifNo X0.here hx rfl (hb hby d_prog_29m11_3) rfl (XT.i0_lt_f (own_ge0 hx1)) ?_
    show Steps pP.tables eE below (s₁.setTop (mkF mM 6 #[.val (.ref a), .val (.double xd), .second] [])) _
    refine XS.dloadN X0.here hx rfl (hb hby d_prog_29m11_6) rfl ?_
    show Steps pP.tables eE below (s₁.setTop (mkF mM 7 #[.val (.ref a), .val (.double xd), .second] [(.double xd)])) _
    refine XS.dconst1 X0.here hx rfl (v := (4607182418800017408 : UInt64)) (hb hby d_prog_29m11_7) rfl ?_
    show Steps pP.tables eE below (s₁.setTop (mkF mM 8 #[.val (.ref a), .val (.double xd), .second] [(.double (4607182418800017408 : UInt64)), (.double xd)])) _
    refine XS.dcmpS X0.here hx rfl (hb hby d_prog_29m11_8) rfl rfl ?_
    show Steps pP.tables eE below (s₁.setTop (mkF mM 9 #[.val (.ref a), .val (.double xd), .second] [(.int (cmpValue (FP.dcmp xd (4607182418800017408 : UInt64)) .g))])) _
    refine XS.ifYes X0.here hx rfl (pc0 := 9) (pc' := 27) rfl (hb hby d_prog_29m11_9) rfl (XT.i0_le_t (own_le1 hx1)) (by decide) (by decide) ?_
    show Steps pP.tables eE below (s₁.setTop (mkF mM 27 #[.val (.ref a), .val (.double xd), .second] [])) _
    refine XS.dloadN X0.here hx rfl (hb hby d_prog_29m11_27) rfl ?_
    show Steps pP.tables eE below (s₁.setTop (mkF mM 28 #[.val (.ref a), .val (.double xd), .second] [(.double xd)])) _
    exact retOut X0 hx Bd.returns rfl (Or.inr (Or.inr (Or.inl ⟨rfl, rfl, _, rfl⟩))) (hb hby d_prog_29m11_28) hr
  · show Q_chk Z a xd h0 n0 _ s₁.heap _
    rw [e0]
    exact ⟨rfl, N0, rfl⟩
theorem pd_7 : parseMethodDescriptor "([C)V" = some ⟨[(.array .char)], none⟩ := by decide +kernel
theorem pd_8 : parseMethodDescriptor "(Ljava/lang/String;D)D" = some ⟨[(.object "java/lang/String"), .double], some .double⟩ := by decide +kernel
theorem pn_4 : plainName "com/example/polyvane/polyvane/moead/DecompositionAlgorithmCheckedProbabilityPinLaw" = true := by first | (simp [plainName, overriddenIn]; done) | decide +kernel
theorem ef_lawe (mM : MethodId) (x0 : Int32) (x1 : Int32) (x2 : Int32) (x3 : Int32) : entryFrame mM #[(.int x0), (.int x1), (.int x2), (.int x3)] maxLocals = mkF mM 0 #[.val (.int x0), .val (.int x1), .val (.int x2), .val (.int x3), .unset, .unset, .unset, .unset, .unset, .unset, .unset, .unset] [] := by first | (simp [entryFrame, mkF, argsToLocals, Value.category, maxLocals]; done) | rfl
def Q_lawe (Z : State) (p1 : Int32) (p2 : Int32) (p3 : Int32) (p4 : Int32) (cs : Int32) (h0 : Heap) (n0 : Nat) (v_ : Option Value) (h_ : Heap) (L_ : List Loc) : Prop := v_ = some (.int (1 : Int32)) ∧ Fr n0 L_
set_option maxRecDepth 65536 in
set_option maxHeartbeats 40000000 in
theorem rm_lawe (l : Launch) (Z : State) (a0 : Array Value) (hw : ∀ d ∈ tables_1, d.before a0 Z = true) (ws : List Jvm.Cond) (p1 : Int32) (p2 : Int32) (p3 : Int32) (p4 : Int32) (cs : Int32) (h0 : Heap) (n0 : Nat) (Z0 : n0 ≤ h0.size) (S_String_COMPACT_STRINGS : Sta Z h0 "java/lang/String" "COMPACT_STRINGS" "Z" (.int cs)) (hcs : ¬ cs = 0) (hf : (p4 &&& (1 : Int32)) = 0) :
    MetFree l x (head1 (Jvm.Cond.code x code maxLocals ret :: ws) room_1) (fun aa_ U_ => aa_ = #[(.int p1), (.int p2), (.int p3), (.int p4)] ∧ Z.Warmed39 U_.vm ∧ U_.heap = h0) (fun _ _ _ _ _ => True) (fun _ U_ o_ U'_ => ∃ v_ L_, o_ = .returned v_ ∧ Q_lawe Z p1 p2 p3 p4 cs h0 n0 v_ U'_.heap L_ ∧ FrameEnd U_ o_ U'_ L_ 3 8) := by
  refine MetFree.of_bodySF (plainFor_of_name pn_4) hisR ?_
  intro pP eE sS mM argsA below meth cC s₁ Bd hml0 hP hK
  obtain ⟨rfl, hZ, hh⟩ := hP
  have hx := Bd.exec
  have hby := Bd.bytes
  have hml : cC.maxLocals = 12 := hml0
  have hown : sS.vm.findClass "com/example/polyvane/polyvane/moead/DecompositionAlgorithmCheckedProbabilityPinLaw" = some mM.cls := findClass_of_methodNamed Bd.named
  have hnm := (name_of_methodNamed Bd.named Bd.method).1
  have X0 : Stand pP l eE room_1 sS mM #[(.int p1), (.int p2), (.int p3), (.int p4)] below meth cC s₁ [] 0 0 := Stand.of_body Bd
  have e0 : s₁.heap = h0 := by rw [← hh, Bd.state]; rfl
  have N0 := Fr.nil n0
  have pre0 : ∀ t_, Steps pP.tables eE below (s₁.setTop (mkF mM 0 #[.val (.int p1), .val (.int p2), .val (.int p3), .val (.int p4), .unset, .unset, .unset, .unset, .unset, .unset, .unset, .unset] [])) t_ → Steps pP.tables eE below (s₁.setTop (entryFrame mM #[(.int p1), (.int p2), (.int p3), (.int p4)] maxLocals)) t_ := fun t_ k_ => castTop (ef_lawe mM p1 p2 p3 p4) k_
  obtain ⟨T_1, h_1, k_1, X_1, e_1, E_1, A_1, st_1⟩ := newP X0 hx hZ (hw _ (List.mem_of_getElem? (i := 1) rfl)) e0 (g := (mkF mM 30 #[.val (.int p1), .val (.int p2), .val (.int p3), .val (.int p4), .val (.int ((p2 &&& (255 : Int32)) + (1 : Int32))), .val (.int ((p1 &&& (2147483647 : Int32)) % (((p2 &&& (255 : Int32)) + (1 : Int32)) + (1 : Int32)))), .val (.double (FP.ddiv (FP.i2d ((p1 &&& (2147483647 : Int32)) % (((p2 &&& (255 : Int32)) + (1 : Int32)) + (1 : Int32)))) (FP.i2d ((p2 &&& (255 : Int32)) + (1 : Int32))))), .second, .unset, .unset, .unset, .unset] [(.int (2 : Int32))])) rfl (hb hby at_30) rfl (by decide) (cap := 2) (by decide) (by decide) (by decide) (by decide)
  obtain ⟨b_1, g_1⟩ : ∃ z, z = h0.size := ⟨_, rfl⟩
  rw [← g_1] at A_1 st_1
  have g_b_1 : n0 ≤ b_1 := Nat.le_trans Z0 (Nat.le_of_eq g_1.symm)
  have sz_b_1 : h0.size ≤ b_1 := Nat.le_trans (Keep.refl h0 []).1 (Nat.le_of_eq g_1.symm)
  have Z_1 : n0 ≤ h_1.size := (Nat.le_trans Z0 E_1.1)
  have K_1 : Keep h0 h_1 [] := (Keep.refl h0 []).ext E_1
  have V_b_1 : Arv Z h_1 b_1 k_1 .char (2 : Int32) [(.int (0 : Int32)), (.int (0 : Int32))] (.int (0 : Int32)) := (Arv.new A_1 (by decide)).pad (pad_rep [] (.int (0 : Int32)) 2)
  obtain ⟨cl_2, Ar_2, qa_2, Sa_2, Na_2, Ha_2, Ga_2⟩ := id V_b_1
  have hin_2 : ¬ ((0 : Int32) < 0 ∨ cl_2.slots.size ≤ ((0 : Int32)).toNatClampNeg) := inb_of Sa_2 ⟨by decide, by decide⟩
  obtain ⟨T_2, h_2, X_2, e_2, W_2, st_2⟩ := stC X_1 hx hZ e_1 Ar_2 (j := (0 : Int32)) hin_2 (g := (mkF mM 43 #[.val (.int p1), .val (.int p2), .val (.int p3), .val (.int p4), .val (.int ((p2 &&& (255 : Int32)) + (1 : Int32))), .val (.int ((p1 &&& (2147483647 : Int32)) % (((p2 &&& (255 : Int32)) + (1 : Int32)) + (1 : Int32)))), .val (.double (FP.ddiv (FP.i2d ((p1 &&& (2147483647 : Int32)) % (((p2 &&& (255 : Int32)) + (1 : Int32)) + (1 : Int32)))) (FP.i2d ((p2 &&& (255 : Int32)) + (1 : Int32))))), .second, .val (.ref b_1), .unset, .unset, .unset] [(.int ((p3 &&& (255 : Int32)).toUInt32.toUInt16.toUInt32.toInt32)), (.int (0 : Int32)), (.ref b_1)])) rfl rfl (hb hby at_43)
  have V_2 : Arv Z h_2 b_1 k_1 .char (2 : Int32) [(.int (nar .char ((p3 &&& (255 : Int32)).toUInt32.toUInt16.toUInt32.toInt32))), (.int (0 : Int32))] (.int (0 : Int32)) := Arv.set Ar_2 qa_2 Sa_2 Na_2 Ha_2 Ga_2 (fits_nar_char _) W_2 0 rfl (Nat.le_of_ble_eq_true rfl)
  have Z_2 : n0 ≤ h_2.size := (Nat.le_trans Z_1 (Keep.of_wr W_2).1)
  have K_2 : Keep h0 h_2 [] := K_1.wr W_2 (Or.inr sz_b_1)
  have N_2 := Fr.snoc X_2 N0 g_b_1
  obtain ⟨cl_3, Ar_3, qa_3, Sa_3, Na_3, Ha_3, Ga_3⟩ := id V_2
  have hin_3 : ¬ ((1 : Int32) < 0 ∨ cl_3.slots.size ≤ ((1 : Int32)).toNatClampNeg) := inb_of Sa_3 ⟨by decide, by decide⟩
  obtain ⟨T_3, h_3, X_3, e_3, W_3, st_3⟩ := stC X_2 hx hZ e_2 Ar_3 (j := (1 : Int32)) hin_3 (g := (mkF mM 56 #[.val (.int p1), .val (.int p2), .val (.int p3), .val (.int p4), .val (.int ((p2 &&& (255 : Int32)) + (1 : Int32))), .val (.int ((p1 &&& (2147483647 : Int32)) % (((p2 &&& (255 : Int32)) + (1 : Int32)) + (1 : Int32)))), .val (.double (FP.ddiv (FP.i2d ((p1 &&& (2147483647 : Int32)) % (((p2 &&& (255 : Int32)) + (1 : Int32)) + (1 : Int32)))) (FP.i2d ((p2 &&& (255 : Int32)) + (1 : Int32))))), .second, .val (.ref b_1), .unset, .unset, .unset] [(.int (((XT.ushr p3 (8 : Int32)) &&& (255 : Int32)).toUInt32.toUInt16.toUInt32.toInt32)), (.int (1 : Int32)), (.ref b_1)])) rfl rfl (hb hby at_56)
  have V_3 : Arv Z h_3 b_1 k_1 .char (2 : Int32) [(.int (nar .char ((p3 &&& (255 : Int32)).toUInt32.toUInt16.toUInt32.toInt32))), (.int (nar .char (((XT.ushr p3 (8 : Int32)) &&& (255 : Int32)).toUInt32.toUInt16.toUInt32.toInt32)))] (.int (0 : Int32)) := Arv.set Ar_3 qa_3 Sa_3 Na_3 Ha_3 Ga_3 (fits_nar_char _) W_3 1 rfl (Nat.le_of_ble_eq_true rfl)
  have Z_3 : n0 ≤ h_3.size := (Nat.le_trans Z_2 (Keep.of_wr W_3).1)
  have K_3 : Keep h0 h_3 [] := K_2.wr W_3 (Or.inr sz_b_1)
  have N_3 := Fr.snoc X_3 N_2 g_b_1
  obtain ⟨T_4, h_4, X_4, e_4, E_4, A_4, D_4, -, st_4⟩ := newO X_3 hx hZ hown (hw _ (List.mem_of_getElem? (i := 2) rfl)) (hw _ (List.mem_of_getElem? (i := 3) rfl)) (hw _ (List.mem_of_getElem? (i := 4) rfl)) e_3 (g := (mkF mM 57 #[.val (.int p1), .val (.int p2), .val (.int p3), .val (.int p4), .val (.int ((p2 &&& (255 : Int32)) + (1 : Int32))), .val (.int ((p1 &&& (2147483647 : Int32)) % (((p2 &&& (255 : Int32)) + (1 : Int32)) + (1 : Int32)))), .val (.double (FP.ddiv (FP.i2d ((p1 &&& (2147483647 : Int32)) % (((p2 &&& (255 : Int32)) + (1 : Int32)) + (1 : Int32)))) (FP.i2d ((p2 &&& (255 : Int32)) + (1 : Int32))))), .second, .val (.ref b_1), .unset, .unset, .unset] [])) rfl (hb hby at_57) (by decide) (by decide)
  obtain ⟨b_4, g_4⟩ : ∃ z, z = h_3.size := ⟨_, rfl⟩
  rw [← g_4] at A_4 D_4 st_4
  have g_b_4 : n0 ≤ b_4 := Nat.le_trans Z_3 (Nat.le_of_eq g_4.symm)
  have sz_b_4 : h0.size ≤ b_4 := Nat.le_trans K_3.1 (Nat.le_of_eq g_4.symm)
  have Z_4 : n0 ≤ h_4.size := (Nat.le_trans Z_3 E_4.1)
  have K_4 : Keep h0 h_4 [] := K_3.ext E_4
  have F_coder_b_4__4 : Fld Z h_4 b_4 "java/lang/String" "coder" "B" (.int (0 : Int32)) := D_4 (Or.inr (hw _ (List.mem_of_getElem? (i := 28) rfl))) (ty := .byte) (by decide)
  have F_value_b_4__4 : Fld Z h_4 b_4 "java/lang/String" "value" "[B" .null := D_4 (Or.inr (hw _ (List.mem_of_getElem? (i := 30) rfl))) (ty := (.array .byte)) (by decide)
  obtain ⟨_, _, ⟨T_5, L_5, k_5, n_5⟩, -, X_5, ⟨Lc_5, hQ_5, l_5, y_5, z_5⟩, st_5⟩ := X_4.specialBack hx (y := (⟨"java/lang/String", "<init>", "([C)V"⟩ : MethodName)) rfl hown (mvT hZ (hw _ (List.mem_of_getElem? (i := 5) rfl))) (mvT hZ (hw _ (List.mem_of_getElem? (i := 6) rfl))) (mvT hZ (hw _ (List.mem_of_getElem? (i := 7) rfl))) (by decide) (backOf (W := 1) (rm_str_2 l Z a0 hw [] b_4 b_1 k_1 cs (nar .char ((p3 &&& (255 : Int32)).toUInt32.toUInt16.toUInt32.toInt32)) (nar .char (((XT.ushr p3 (8 : Int32)) &&& (255 : Int32)).toUInt32.toUInt16.toUInt32.toInt32)) h_4 n0 Z_4 F_value_b_4__4 F_coder_b_4__4 A_4 g_b_4 ((((S_String_COMPACT_STRINGS.ext E_1).wr W_2).wr W_3).ext E_4) hcs (V_3.ext E_4) (Ne.symm (Nat.ne_of_lt (Nat.lt_of_lt_of_le V_3.lt (Nat.le_of_eq g_4.symm)))) (own_c255n _) (own_c255n _)) hZ (hw _ (List.mem_of_getElem? (i := 7) rfl)) (hw _ (List.mem_of_getElem? (i := 4) rfl)) (by decide) (by decide)) (g := (mkF mM 63 #[.val (.int p1), .val (.int p2), .val (.int p3), .val (.int p4), .val (.int ((p2 &&& (255 : Int32)) + (1 : Int32))), .val (.int ((p1 &&& (2147483647 : Int32)) % (((p2 &&& (255 : Int32)) + (1 : Int32)) + (1 : Int32)))), .val (.double (FP.ddiv (FP.i2d ((p1 &&& (2147483647 : Int32)) % (((p2 &&& (255 : Int32)) + (1 : Int32)) + (1 : Int32)))) (FP.i2d ((p2 &&& (255 : Int32)) + (1 : Int32))))), .second, .val (.ref b_1), .unset, .unset, .unset] [(.ref b_1), (.ref b_4), (.ref b_4)])) rfl (by rw [hml]; rfl) (Steps.refl _) (a := b_4) (argsL := [(.ref b_1)]) (rest := [(.ref b_4)]) (lenOf pd_7 rfl) rfl (by show 2 * 0 + _ ≤ _; exact Nat.le_of_eq rfl) (hb hby at_63) (fun _ _ => ⟨rfl, e_4, (by decide : 2 + 1 ≤ _), (by decide : 6 + 2 ≤ _)⟩)
  dsimp only [Pt.U, Pt.locs, Pt.cells, Pt.slots] at X_5 l_5 y_5 z_5 st_5 hQ_5
  subst l_5 y_5 z_5
  obtain ⟨d__5, ⟨kd__5, ⟨rfl, N_5q, Kc_5, pfsz_d_5, pfE_a_5, pfF_value_a_5, pfF_coder_a_5, pfV_d_5⟩⟩⟩ := hQ_5
  have Z_5 : n0 ≤ T_5.heap.size := (Nat.le_trans Z_4 Kc_5.1)
  have K_5 : Keep h0 T_5.heap [] := K_4.trans Kc_5 (allS (Or.inr sz_b_4) all0)
  have sz_d__5 : h0.size ≤ d__5 := Nat.le_trans K_4.1 pfsz_d_5
  have g_d__5 : n0 ≤ d__5 := Nat.le_trans Z_4 pfsz_d_5
  have N_5 := Fr.app N_3 N_5q
  obtain ⟨_, _, ⟨T_6, L_6, k_6, n_6⟩, -, X_6, ⟨Lc_6, hQ_6, l_6, y_6, z_6⟩, st_6⟩ := Jvm.LawKit.callS X_5 hx (y := (⟨"com/example/polyvane/polyvane/moead/DecompositionAlgorithm", "checkedProbability", "(Ljava/lang/String;D)D"⟩ : MethodName)) hown (mvT hZ (hw _ (List.mem_of_getElem? (i := 45) rfl))) (mvT hZ (hw _ (List.mem_of_getElem? (i := 46) rfl))) (mvT hZ (hw _ (List.mem_of_getElem? (i := 47) rfl))) (mvT hZ (hw _ (List.mem_of_getElem? (i := 48) rfl))) (by decide) (backOf (W := 0) (rm_chk l Z a0 hw [] b_4 (FP.ddiv (FP.i2d ((p1 &&& (2147483647 : Int32)) % (((p2 &&& (255 : Int32)) + (1 : Int32)) + (1 : Int32)))) (FP.i2d ((p2 &&& (255 : Int32)) + (1 : Int32)))) T_5.heap n0 Z_5 (own_q p1 p2)) hZ (hw _ (List.mem_of_getElem? (i := 48) rfl)) (hw _ (List.mem_of_getElem? (i := 47) rfl)) (by decide) (by decide)) (g := (mkF mM 92 #[.val (.int p1), .val (.int p2), .val (.int p3), .val (.int p4), .val (.int ((p2 &&& (255 : Int32)) + (1 : Int32))), .val (.int ((p1 &&& (2147483647 : Int32)) % (((p2 &&& (255 : Int32)) + (1 : Int32)) + (1 : Int32)))), .val (.double (FP.ddiv (FP.i2d ((p1 &&& (2147483647 : Int32)) % (((p2 &&& (255 : Int32)) + (1 : Int32)) + (1 : Int32)))) (FP.i2d ((p2 &&& (255 : Int32)) + (1 : Int32))))), .second, .val (.ref b_1), .val (.ref b_4), .unset, .unset] [(.double (FP.ddiv (FP.i2d ((p1 &&& (2147483647 : Int32)) % (((p2 &&& (255 : Int32)) + (1 : Int32)) + (1 : Int32)))) (FP.i2d ((p2 &&& (255 : Int32)) + (1 : Int32))))), (.ref b_4)])) rfl (by rw [hml]; rfl) (argsL := [(.ref b_4), (.double (FP.ddiv (FP.i2d ((p1 &&& (2147483647 : Int32)) % (((p2 &&& (255 : Int32)) + (1 : Int32)) + (1 : Int32)))) (FP.i2d ((p2 &&& (255 : Int32)) + (1 : Int32)))))]) (rest := []) (lenOf pd_8 rfl) rfl (by show 2 * 0 + _ ≤ _; exact Nat.le_of_eq rfl) (hb hby at_92) (fun _ _ => ⟨rfl, rfl, (by decide : 3 + 0 ≤ _), (by decide : 8 + 0 ≤ _)⟩)
  dsimp only [Pt.U, Pt.locs, Pt.cells, Pt.slots] at X_6 l_6 y_6 z_6 st_6 hQ_6
  subst l_6 y_6 z_6
  obtain ⟨rfl, N_6q, eh_6⟩ := hQ_6
  have N_6 := Fr.app N_5 N_6q
  obtain ⟨fs, hr, hrun, hended, hW, hsame⟩ := X_6.leave (v := some (.int (1 : Int32))) (fun h => by rw [Bd.returns] at h; cases h)
  refine ⟨_, _, pre0 _ ?_, hrun, hended, _, _, rfl, ?_, ⟨_, rfl⟩, hW, hsame.mono (by decide) (by decide)⟩
  · show Steps pP.tables eE below (s₁.setTop (mkF mM 0 #[.val (.int p1), .val (.int p2), .val (.int p3), .val (.int p4), .unset, .unset, .unset, .unset, .unset, .unset, .unset, .unset] [])) _
    refine XS.iloadN X0.here hx rfl (hb hby at_0) rfl ?_
    show Steps pP.tables eE below (s₁.setTop (mkF mM 1 #[.val (.int p1), .val (.int p2), .val (.int p3), .val (.int p4), .unset, .unset, .unset, .unset, .unset, .unset, .unset, .unset] [(.int p2)])) _
    refine XS.sipush X0.here hx rfl (hb hby at_1) ?_
    show Steps pP.tables eE below (s₁.setTop (mkF mM 4 #[.val (.int p1), .val (.int p2), .val (.int p3), .val (.int p4), .unset, .unset, .unset, .unset, .unset, .unset, .unset, .unset] [(.int (255 : Int32)), (.int p2)])) _
    refine XS.iand X0.here hx rfl (hb hby at_4) rfl ?_
    show Steps pP.tables eE below (s₁.setTop (mkF mM 5 #[.val (.int p1), .val (.int p2), .val (.int p3), .val (.int p4), .unset, .unset, .unset, .unset, .unset, .unset, .unset, .unset] [(.int (p2 &&& (255 : Int32)))])) _
    refine XS.iconst X0.here hx rfl (hb hby at_5) ?_
    show Steps pP.tables eE below (s₁.setTop (mkF mM 6 #[.val (.int p1), .val (.int p2), .val (.int p3), .val (.int p4), .unset, .unset, .unset, .unset, .unset, .unset, .unset, .unset] [(.int (1 : Int32)), (.int (p2 &&& (255 : Int32)))])) _
    refine XS.iadd X0.here hx rfl (hb hby at_6) rfl ?_
    show Steps pP.tables eE below (s₁.setTop (mkF mM 7 #[.val (.int p1), .val (.int p2), .val (.int p3), .val (.int p4), .unset, .unset, .unset, .unset, .unset, .unset, .unset, .unset] [(.int ((p2 &&& (255 : Int32)) + (1 : Int32)))])) _
    refine XS.istore X0.here hx rfl (hb hby at_7) rfl (l' := #[.val (.int p1), .val (.int p2), .val (.int p3), .val (.int p4), .val (.int ((p2 &&& (255 : Int32)) + (1 : Int32))), .unset, .unset, .unset, .unset, .unset, .unset, .unset]) rfl ?_
    show Steps pP.tables eE below (s₁.setTop (mkF mM 9 #[.val (.int p1), .val (.int p2), .val (.int p3), .val (.int p4), .val (.int ((p2 &&& (255 : Int32)) + (1 : Int32))), .unset, .unset, .unset, .unset, .unset, .unset, .unset] [])) _
    refine XS.iloadN X0.here hx rfl (hb hby at_9) rfl ?_
    show Steps pP.tables eE below (s₁.setTop (mkF mM 10 #[.val (.int p1), .val (.int p2), .val (.int p3), .val (.int p4), .val (.int ((p2 &&& (255 : Int32)) + (1 : Int32))), .unset, .unset, .unset, .unset, .unset, .unset, .unset] [(.int p1)])) _
    refine X0.ldcI hx hown (mvT hZ (hw _ (List.mem_of_getElem? (i := 0) rfl))) (g := (mkF mM 10 #[.val (.int p1), .val (.int p2), .val (.int p3), .val (.int p4), .val (.int ((p2 &&& (255 : Int32)) + (1 : Int32))), .unset, .unset, .unset, .unset, .unset, .unset, .unset] [(.int p1)])) rfl (hb hby at_10) ?_
    show Steps pP.tables eE below (s₁.setTop (mkF mM 12 #[.val (.int p1), .val (.int p2), .val (.int p3), .val (.int p4), .val (.int ((p2 &&& (255 : Int32)) + (1 : Int32))), .unset, .unset, .unset, .unset, .unset, .unset, .unset] [(.int (2147483647 : Int32)), (.int p1)])) _
    refine XS.iand X0.here hx rfl (hb hby at_12) rfl ?_
    show Steps pP.tables eE below (s₁.setTop (mkF mM 13 #[.val (.int p1), .val (.int p2), .val (.int p3), .val (.int p4), .val (.int ((p2 &&& (255 : Int32)) + (1 : Int32))), .unset, .unset, .unset, .unset, .unset, .unset, .unset] [(.int (p1 &&& (2147483647 : Int32)))])) _
    refine XS.iload X0.here hx rfl (hb hby at_13) rfl ?_
    show Steps pP.tables eE below (s₁.setTop (mkF mM 15 #[.val (.int p1), .val (.int p2), .val (.int p3), .val (.int p4), .val (.int ((p2 &&& (255 : Int32)) + (1 : Int32))), .unset, .unset, .unset, .unset, .unset, .unset, .unset] [(.int ((p2 &&& (255 : Int32)) + (1 : Int32))), (.int (p1 &&& (2147483647 : Int32)))])) _
    refine XS.iconst X0.here hx rfl (hb hby at_15) ?_
    show Steps pP.tables eE below (s₁.setTop (mkF mM 16 #[.val (.int p1), .val (.int p2), .val (.int p3), .val (.int p4), .val (.int ((p2 &&& (255 : Int32)) + (1 : Int32))), .unset, .unset, .unset, .unset, .unset, .unset, .unset] [(.int (1 : Int32)), (.int ((p2 &&& (255 : Int32)) + (1 : Int32))), (.int (p1 &&& (2147483647 : Int32)))])) _
    refine XS.iadd X0.here hx rfl (hb hby at_16) rfl ?_
    show Steps pP.tables eE below (s₁.setTop (mkF mM 17 #[.val (.int p1), .val (.int p2), .val (.int p3), .val (.int p4), .val (.int ((p2 &&& (255 : Int32)) + (1 : Int32))), .unset, .unset, .unset, .unset, .unset, .unset, .unset] [(.int (((p2 &&& (255 : Int32)) + (1 : Int32)) + (1 : Int32))), (.int (p1 &&& (2147483647 : Int32)))])) _
    refine iremM X0 hx rfl (hb hby at_17) rfl (own_nz p2) ?_
    show Steps pP.tables eE below (s₁.setTop (mkF mM 18 #[.val (.int p1), .val (.int p2), .val (.int p3), .val (.int p4), .val (.int ((p2 &&& (255 : Int32)) + (1 : Int32))), .unset, .unset, .unset, .unset, .unset, .unset, .unset] [(.int ((p1 &&& (2147483647 : Int32)) % (((p2 &&& (255 : Int32)) + (1 : Int32)) + (1 : Int32))))])) _
    refine XS.istore X0.here hx rfl (hb hby at_18) rfl (l' := #[.val (.int p1), .val (.int p2), .val (.int p3), .val (.int p4), .val (.int ((p2 &&& (255 : Int32)) + (1 : Int32))), .val (.int ((p1 &&& (2147483647 : Int32)) % (((p2 &&& (255 : Int32)) + (1 : Int32)) + (1 : Int32)))), .unset, .unset, .unset, .unset, .unset, .unset]) rfl ?_
    show Steps pP.tables eE below (s₁.setTop (mkF mM 20 #[.val (.int p1), .val (.int p2), .val (.int p3), .val (.int p4), .val (.int ((p2 &&& (255 : Int32)) + (1 : Int32))), .val (.int ((p1 &&& (2147483647 : Int32)) % (((p2 &&& (255 : Int32)) + (1 : Int32)) + (1 : Int32)))), .unset, .unset, .unset, .unset, .unset, .unset] [])) _
    refine XS.iload X0.here hx rfl (hb hby at_20) rfl ?_
    show Steps pP.tables eE below (s₁.setTop (mkF mM 22 #[.val (.int p1), .val (.int p2), .val (.int p3), .val (.int p4), .val (.int ((p2 &&& (255 : Int32)) + (1 : Int32))), .val (.int ((p1 &&& (2147483647 : Int32)) % (((p2 &&& (255 : Int32)) + (1 : Int32)) + (1 : Int32)))), .unset, .unset, .unset, .unset, .unset, .unset] [(.int ((p1 &&& (2147483647 : Int32)) % (((p2 &&& (255 : Int32)) + (1 : Int32)) + (1 : Int32))))])) _
    refine XS.i2dS X0.here hx rfl (hb hby at_22) rfl rfl ?_
    show Steps pP.tables eE below (s₁.setTop (mkF mM 23 #[.val (.int p1), .val (.int p2), .val (.int p3), .val (.int p4), .val (.int ((p2 &&& (255 : Int32)) + (1 : Int32))), .val (.int ((p1 &&& (2147483647 : Int32)) % (((p2 &&& (255 : Int32)) + (1 : Int32)) + (1 : Int32)))), .unset, .unset, .unset, .unset, .unset, .unset] [(.double (FP.i2d ((p1 &&& (2147483647 : Int32)) % (((p2 &&& (255 : Int32)) + (1 : Int32)) + (1 : Int32)))))])) _
    refine XS.iload X0.here hx rfl (hb hby at_23) rfl ?_
    show Steps pP.tables eE below (s₁.setTop (mkF mM 25 #[.val (.int p1), .val (.int p2), .val (.int p3), .val (.int p4), .val (.int ((p2 &&& (255 : Int32)) + (1 : Int32))), .val (.int ((p1 &&& (2147483647 : Int32)) % (((p2 &&& (255 : Int32)) + (1 : Int32)) + (1 : Int32)))), .unset, .unset, .unset, .unset, .unset, .unset] [(.int ((p2 &&& (255 : Int32)) + (1 : Int32))), (.double (FP.i2d ((p1 &&& (2147483647 : Int32)) % (((p2 &&& (255 : Int32)) + (1 : Int32)) + (1 : Int32)))))])) _
    refine XS.i2dS X0.here hx rfl (hb hby at_25) rfl rfl ?_
    show Steps pP.tables eE below (s₁.setTop (mkF mM 26 #[.val (.int p1), .val (.int p2), .val (.int p3), .val (.int p4), .val (.int ((p2 &&& (255 : Int32)) + (1 : Int32))), .val (.int ((p1 &&& (2147483647 : Int32)) % (((p2 &&& (255 : Int32)) + (1 : Int32)) + (1 : Int32)))), .unset, .unset, .unset, .unset, .unset, .unset] [(.double (FP.i2d ((p2 &&& (255 : Int32)) + (1 : Int32)))), (.double (FP.i2d ((p1 &&& (2147483647 : Int32)) % (((p2 &&& (255 : Int32)) + (1 : Int32)) + (1 : Int32)))))])) _
    refine XS.ddivS X0.here hx rfl (hb hby at_26) rfl (own_val (own_q p1 p2)) rfl ?_
    show Steps pP.tables eE below (s₁.setTop (mkF mM 27 #[.val (.int p1), .val (.int p2), .val (.int p3), .val (.int p4), .val (.int ((p2 &&& (255 : Int32)) + (1 : Int32))), .val (.int ((p1 &&& (2147483647 : Int32)) % (((p2 &&& (255 : Int32)) + (1 : Int32)) + (1 : Int32)))), .unset, .unset, .unset, .unset, .unset, .unset] [(.double (FP.ddiv (FP.i2d ((p1 &&& (2147483647 : Int32)) % (((p2 &&& (255 : Int32)) + (1 : Int32)) + (1 : Int32)))) (FP.i2d ((p2 &&& (255 : Int32)) + (1 : Int32)))))])) _
    refine XS.dstore X0.here hx rfl (hb hby at_27) rfl (l' := #[.val (.int p1), .val (.int p2), .val (.int p3), .val (.int p4), .val (.int ((p2 &&& (255 : Int32)) + (1 : Int32))), .val (.int ((p1 &&& (2147483647 : Int32)) % (((p2 &&& (255 : Int32)) + (1 : Int32)) + (1 : Int32)))), .val (.double (FP.ddiv (FP.i2d ((p1 &&& (2147483647 : Int32)) % (((p2 &&& (255 : Int32)) + (1 : Int32)) + (1 : Int32)))) (FP.i2d ((p2 &&& (255 : Int32)) + (1 : Int32))))), .second, .unset, .unset, .unset, .unset]) rfl ?_
    show Steps pP.tables eE below (s₁.setTop (mkF mM 29 #[.val (.int p1), .val (.int p2), .val (.int p3), .val (.int p4), .val (.int ((p2 &&& (255 : Int32)) + (1 : Int32))), .val (.int ((p1 &&& (2147483647 : Int32)) % (((p2 &&& (255 : Int32)) + (1 : Int32)) + (1 : Int32)))), .val (.double (FP.ddiv (FP.i2d ((p1 &&& (2147483647 : Int32)) % (((p2 &&& (255 : Int32)) + (1 : Int32)) + (1 : Int32)))) (FP.i2d ((p2 &&& (255 : Int32)) + (1 : Int32))))), .second, .unset, .unset, .unset, .unset] [])) _
    refine XS.iconst X0.here hx rfl (hb hby at_29) ?_
    show Steps pP.tables eE below (s₁.setTop (mkF mM 30 #[.val (.int p1), .val (.int p2), .val (.int p3), .val (.int p4), .val (.int ((p2 &&& (255 : Int32)) + (1 : Int32))), .val (.int ((p1 &&& (2147483647 : Int32)) % (((p2 &&& (255 : Int32)) + (1 : Int32)) + (1 : Int32)))), .val (.double (FP.ddiv (FP.i2d ((p1 &&& (2147483647 : Int32)) % (((p2 &&& (255 : Int32)) + (1 : Int32)) + (1 : Int32)))) (FP.i2d ((p2 &&& (255 : Int32)) + (1 : Int32))))), .second, .unset, .unset, .unset, .unset] [(.int (2 : Int32))])) _
    refine st_1 _ ?_
    show Steps pP.tables eE below (T_1.setTop (mkF mM 32 #[.val (.int p1), .val (.int p2), .val (.int p3), .val (.int p4), .val (.int ((p2 &&& (255 : Int32)) + (1 : Int32))), .val (.int ((p1 &&& (2147483647 : Int32)) % (((p2 &&& (255 : Int32)) + (1 : Int32)) + (1 : Int32)))), .val (.double (FP.ddiv (FP.i2d ((p1 &&& (2147483647 : Int32)) % (((p2 &&& (255 : Int32)) + (1 : Int32)) + (1 : Int32)))) (FP.i2d ((p2 &&& (255 : Int32)) + (1 : Int32))))), .second, .unset, .unset, .unset, .unset] [(.ref b_1)])) _
    refine XS.astore X_1.here hx rfl (hb hby at_32) rfl rfl (l' := #[.val (.int p1), .val (.int p2), .val (.int p3), .val (.int p4), .val (.int ((p2 &&& (255 : Int32)) + (1 : Int32))), .val (.int ((p1 &&& (2147483647 : Int32)) % (((p2 &&& (255 : Int32)) + (1 : Int32)) + (1 : Int32)))), .val (.double (FP.ddiv (FP.i2d ((p1 &&& (2147483647 : Int32)) % (((p2 &&& (255 : Int32)) + (1 : Int32)) + (1 : Int32)))) (FP.i2d ((p2 &&& (255 : Int32)) + (1 : Int32))))), .second, .val (.ref b_1), .unset, .unset, .unset]) rfl ?_
    show Steps pP.tables eE below (T_1.setTop (mkF mM 34 #[.val (.int p1), .val (.int p2), .val (.int p3), .val (.int p4), .val (.int ((p2 &&& (255 : Int32)) + (1 : Int32))), .val (.int ((p1 &&& (2147483647 : Int32)) % (((p2 &&& (255 : Int32)) + (1 : Int32)) + (1 : Int32)))), .val (.double (FP.ddiv (FP.i2d ((p1 &&& (2147483647 : Int32)) % (((p2 &&& (255 : Int32)) + (1 : Int32)) + (1 : Int32)))) (FP.i2d ((p2 &&& (255 : Int32)) + (1 : Int32))))), .second, .val (.ref b_1), .unset, .unset, .unset] [])) _
    refine XS.aload X_1.here hx rfl (hb hby at_34) rfl rfl ?_
    show Steps pP.tables eE below (T_1.setTop (mkF mM 36 #[.val (.int p1), .val (.int p2), .val (.int p3), .val (.int p4), .val (.int ((p2 &&& (255 : Int32)) + (1 : Int32))), .val (.int ((p1 &&& (2147483647 : Int32)) % (((p2 &&& (255 : Int32)) + (1 : Int32)) + (1 : Int32)))), .val (.double (FP.ddiv (FP.i2d ((p1 &&& (2147483647 : Int32)) % (((p2 &&& (255 : Int32)) + (1 : Int32)) + (1 : Int32)))) (FP.i2d ((p2 &&& (255 : Int32)) + (1 : Int32))))), .second, .val (.ref b_1), .unset, .unset, .unset] [(.ref b_1)])) _
    refine XS.iconst X_1.here hx rfl (hb hby at_36) ?_
    show Steps pP.tables eE below (T_1.setTop (mkF mM 37 #[.val (.int p1), .val (.int p2), .val (.int p3), .val (.int p4), .val (.int ((p2 &&& (255 : Int32)) + (1 : Int32))), .val (.int ((p1 &&& (2147483647 : Int32)) % (((p2 &&& (255 : Int32)) + (1 : Int32)) + (1 : Int32)))), .val (.double (FP.ddiv (FP.i2d ((p1 &&& (2147483647 : Int32)) % (((p2 &&& (255 : Int32)) + (1 : Int32)) + (1 : Int32)))) (FP.i2d ((p2 &&& (255 : Int32)) + (1 : Int32))))), .second, .val (.ref b_1), .unset, .unset, .unset] [(.int (0 : Int32)), (.ref b_1)])) _
    refine XS.iloadN X_1.here hx rfl (hb hby at_37) rfl ?_
    show Steps pP.tables eE below (T_1.setTop (mkF mM 38 #[.val (.int p1), .val (.int p2), .val (.int p3), .val (.int p4), .val (.int ((p2 &&& (255 : Int32)) + (1 : Int32))), .val (.int ((p1 &&& (2147483647 : Int32)) % (((p2 &&& (255 : Int32)) + (1 : Int32)) + (1 : Int32)))), .val (.double (FP.ddiv (FP.i2d ((p1 &&& (2147483647 : Int32)) % (((p2 &&& (255 : Int32)) + (1 : Int32)) + (1 : Int32)))) (FP.i2d ((p2 &&& (255 : Int32)) + (1 : Int32))))), .second, .val (.ref b_1), .unset, .unset, .unset] [(.int p3), (.int (0 : Int32)), (.ref b_1)])) _
    refine XS.sipush X_1.here hx rfl (hb hby at_38) ?_
    show Steps pP.tables eE below (T_1.setTop (mkF mM 41 #[.val (.int p1), .val (.int p2), .val (.int p3), .val (.int p4), .val (.int ((p2 &&& (255 : Int32)) + (1 : Int32))), .val (.int ((p1 &&& (2147483647 : Int32)) % (((p2 &&& (255 : Int32)) + (1 : Int32)) + (1 : Int32)))), .val (.double (FP.ddiv (FP.i2d ((p1 &&& (2147483647 : Int32)) % (((p2 &&& (255 : Int32)) + (1 : Int32)) + (1 : Int32)))) (FP.i2d ((p2 &&& (255 : Int32)) + (1 : Int32))))), .second, .val (.ref b_1), .unset, .unset, .unset] [(.int (255 : Int32)), (.int p3), (.int (0 : Int32)), (.ref b_1)])) _
    refine XS.iand X_1.here hx rfl (hb hby at_41) rfl ?_
    show Steps pP.tables eE below (T_1.setTop (mkF mM 42 #[.val (.int p1), .val (.int p2), .val (.int p3), .val (.int p4), .val (.int ((p2 &&& (255 : Int32)) + (1 : Int32))), .val (.int ((p1 &&& (2147483647 : Int32)) % (((p2 &&& (255 : Int32)) + (1 : Int32)) + (1 : Int32)))), .val (.double (FP.ddiv (FP.i2d ((p1 &&& (2147483647 : Int32)) % (((p2 &&& (255 : Int32)) + (1 : Int32)) + (1 : Int32)))) (FP.i2d ((p2 &&& (255 : Int32)) + (1 : Int32))))), .second, .val (.ref b_1), .unset, .unset, .unset] [(.int (p3 &&& (255 : Int32))), (.int (0 : Int32)), (.ref b_1)])) _
    refine XT.i2c X_1.here hx rfl (hb hby at_42) rfl ?_
    show Steps pP.tables eE below (T_1.setTop (mkF mM 43 #[.val (.int p1), .val (.int p2), .val (.int p3), .val (.int p4), .val (.int ((p2 &&& (255 : Int32)) + (1 : Int32))), .val (.int ((p1 &&& (2147483647 : Int32)) % (((p2 &&& (255 : Int32)) + (1 : Int32)) + (1 : Int32)))), .val (.double (FP.ddiv (FP.i2d ((p1 &&& (2147483647 : Int32)) % (((p2 &&& (255 : Int32)) + (1 : Int32)) + (1 : Int32)))) (FP.i2d ((p2 &&& (255 : Int32)) + (1 : Int32))))), .second, .val (.ref b_1), .unset, .unset, .unset] [(.int ((p3 &&& (255 : Int32)).toUInt32.toUInt16.toUInt32.toInt32)), (.int (0 : Int32)), (.ref b_1)])) _
    refine st_2 _ ?_
    show Steps pP.tables eE below (T_2.setTop (mkF mM 44 #[.val (.int p1), .val (.int p2), .val (.int p3), .val (.int p4), .val (.int ((p2 &&& (255 : Int32)) + (1 : Int32))), .val (.int ((p1 &&& (2147483647 : Int32)) % (((p2 &&& (255 : Int32)) + (1 : Int32)) + (1 : Int32)))), .val (.double (FP.ddiv (FP.i2d ((p1 &&& (2147483647 : Int32)) % (((p2 &&& (255 : Int32)) + (1 : Int32)) + (1 : Int32)))) (FP.i2d ((p2 &&& (255 : Int32)) + (1 : Int32))))), .second, .val (.ref b_1), .unset, .unset, .unset] [])) _
    refine XS.aload X_2.here hx rfl (hb hby at_44) rfl rfl ?_
    show Steps pP.tables eE below (T_2.setTop (mkF mM 46 #[.val (.int p1), .val (.int p2), .val (.int p3), .val (.int p4), .val (.int ((p2 &&& (255 : Int32)) + (1 : Int32))), .val (.int ((p1 &&& (2147483647 : Int32)) % (((p2 &&& (255 : Int32)) + (1 : Int32)) + (1 : Int32)))), .val (.double (FP.ddiv (FP.i2d ((p1 &&& (2147483647 : Int32)) % (((p2 &&& (255 : Int32)) + (1 : Int32)) + (1 : Int32)))) (FP.i2d ((p2 &&& (255 : Int32)) + (1 : Int32))))), .second, .val (.ref b_1), .unset, .unset, .unset] [(.ref b_1)])) _
    refine XS.iconst X_2.here hx rfl (hb hby at_46) ?_
    show Steps pP.tables eE below (T_2.setTop (mkF mM 47 #[.val (.int p1), .val (.int p2), .val (.int p3), .val (.int p4), .val (.int ((p2 &&& (255 : Int32)) + (1 : Int32))), .val (.int ((p1 &&& (2147483647 : Int32)) % (((p2 &&& (255 : Int32)) + (1 : Int32)) + (1 : Int32)))), .val (.double (FP.ddiv (FP.i2d ((p1 &&& (2147483647 : Int32)) % (((p2 &&& (255 : Int32)) + (1 : Int32)) + (1 : Int32)))) (FP.i2d ((p2 &&& (255 : Int32)) + (1 : Int32))))), .second, .val (.ref b_1), .unset, .unset, .unset] [(.int (1 : Int32)), (.ref b_1)])) _
    refine XS.iloadN X_2.here hx rfl (hb hby at_47) rfl ?_
    show Steps pP.tables eE below (T_2.setTop (mkF mM 48 #[.val (.int p1), .val (.int p2), .val (.int p3), .val (.int p4), .val (.int ((p2 &&& (255 : Int32)) + (1 : Int32))), .val (.int ((p1 &&& (2147483647 : Int32)) % (((p2 &&& (255 : Int32)) + (1 : Int32)) + (1 : Int32)))), .val (.double (FP.ddiv (FP.i2d ((p1 &&& (2147483647 : Int32)) % (((p2 &&& (255 : Int32)) + (1 : Int32)) + (1 : Int32)))) (FP.i2d ((p2 &&& (255 : Int32)) + (1 : Int32))))), .second, .val (.ref b_1), .unset, .unset, .unset] [(.int p3), (.int (1 : Int32)), (.ref b_1)])) _
    refine XS.bipush X_2.here hx rfl (hb hby at_48) ?_
    show Steps pP.tables eE below (T_2.setTop (mkF mM 50 #[.val (.int p1), .val (.int p2), .val (.int p3), .val (.int p4), .val (.int ((p2 &&& (255 : Int32)) + (1 : Int32))), .val (.int ((p1 &&& (2147483647 : Int32)) % (((p2 &&& (255 : Int32)) + (1 : Int32)) + (1 : Int32)))), .val (.double (FP.ddiv (FP.i2d ((p1 &&& (2147483647 : Int32)) % (((p2 &&& (255 : Int32)) + (1 : Int32)) + (1 : Int32)))) (FP.i2d ((p2 &&& (255 : Int32)) + (1 : Int32))))), .second, .val (.ref b_1), .unset, .unset, .unset] [(.int (8 : Int32)), (.int p3), (.int (1 : Int32)), (.ref b_1)])) _
    refine XT.iushr X_2.here hx rfl (hb hby at_50) rfl ?_
    show Steps pP.tables eE below (T_2.setTop (mkF mM 51 #[.val (.int p1), .val (.int p2), .val (.int p3), .val (.int p4), .val (.int ((p2 &&& (255 : Int32)) + (1 : Int32))), .val (.int ((p1 &&& (2147483647 : Int32)) % (((p2 &&& (255 : Int32)) + (1 : Int32)) + (1 : Int32)))), .val (.double (FP.ddiv (FP.i2d ((p1 &&& (2147483647 : Int32)) % (((p2 &&& (255 : Int32)) + (1 : Int32)) + (1 : Int32)))) (FP.i2d ((p2 &&& (255 : Int32)) + (1 : Int32))))), .second, .val (.ref b_1), .unset, .unset, .unset] [(.int (XT.ushr p3 (8 : Int32))), (.int (1 : Int32)), (.ref b_1)])) _
    refine XS.sipush X_2.here hx rfl (hb hby at_51) ?_
    show Steps pP.tables eE below (T_2.setTop (mkF mM 54 #[.val (.int p1), .val (.int p2), .val (.int p3), .val (.int p4), .val (.int ((p2 &&& (255 : Int32)) + (1 : Int32))), .val (.int ((p1 &&& (2147483647 : Int32)) % (((p2 &&& (255 : Int32)) + (1 : Int32)) + (1 : Int32)))), .val (.double (FP.ddiv (FP.i2d ((p1 &&& (2147483647 : Int32)) % (((p2 &&& (255 : Int32)) + (1 : Int32)) + (1 : Int32)))) (FP.i2d ((p2 &&& (255 : Int32)) + (1 : Int32))))), .second, .val (.ref b_1), .unset, .unset, .unset] [(.int (255 : Int32)), (.int (XT.ushr p3 (8 : Int32))), (.int (1 : Int32)), (.ref b_1)])) _
    refine XS.iand X_2.here hx rfl (hb hby at_54) rfl ?_
    show Steps pP.tables eE below (T_2.setTop (mkF mM 55 #[.val (.int p1), .val (.int p2), .val (.int p3), .val (.int p4), .val (.int ((p2 &&& (255 : Int32)) + (1 : Int32))), .val (.int ((p1 &&& (2147483647 : Int32)) % (((p2 &&& (255 : Int32)) + (1 : Int32)) + (1 : Int32)))), .val (.double (FP.ddiv (FP.i2d ((p1 &&& (2147483647 : Int32)) % (((p2 &&& (255 : Int32)) + (1 : Int32)) + (1 : Int32)))) (FP.i2d ((p2 &&& (255 : Int32)) + (1 : Int32))))), .second, .val (.ref b_1), .unset, .unset, .unset] [(.int ((XT.ushr p3 (8 : Int32)) &&& (255 : Int32))), (.int (1 : Int32)), (.ref b_1)])) _
    refine XT.i2c X_2.here hx rfl (hb hby at_55) rfl ?_
    show Steps pP.tables eE below (T_2.setTop (mkF mM 56 #[.val (.int p1), .val (.int p2), .val (.int p3), .val (.int p4), .val (.int ((p2 &&& (255 : Int32)) + (1 : Int32))), .val (.int ((p1 &&& (2147483647 : Int32)) % (((p2 &&& (255 : Int32)) + (1 : Int32)) + (1 : Int32)))), .val (.double (FP.ddiv (FP.i2d ((p1 &&& (2147483647 : Int32)) % (((p2 &&& (255 : Int32)) + (1 : Int32)) + (1 : Int32)))) (FP.i2d ((p2 &&& (255 : Int32)) + (1 : Int32))))), .second, .val (.ref b_1), .unset, .unset, .unset] [(.int (((XT.ushr p3 (8 : Int32)) &&& (255 : Int32)).toUInt32.toUInt16.toUInt32.toInt32)), (.int (1 : Int32)), (.ref b_1)])) _
    refine st_3 _ ?_
    show Steps pP.tables eE below (T_3.setTop (mkF mM 57 #[.val (.int p1), .val (.int p2), .val (.int p3), .val (.int p4), .val (.int ((p2 &&& (255 : Int32)) + (1 : Int32))), .val (.int ((p1 &&& (2147483647 : Int32)) % (((p2 &&& (255 : Int32)) + (1 : Int32)) + (1 : Int32)))), .val (.double (FP.ddiv (FP.i2d ((p1 &&& (2147483647 : Int32)) % (((p2 &&& (255 : Int32)) + (1 : Int32)) + (1 : Int32)))) (FP.i2d ((p2 &&& (255 : Int32)) + (1 : Int32))))), .second, .val (.ref b_1), .unset, .unset, .unset] [])) _
    refine st_4 _ ?_
    show Steps pP.tables eE below (T_4.setTop (mkF mM 60 #[.val (.int p1), .val (.int p2), .val (.int p3), .val (.int p4), .val (.int ((p2 &&& (255 : Int32)) + (1 : Int32))), .val (.int ((p1 &&& (2147483647 : Int32)) % (((p2 &&& (255 : Int32)) + (1 : Int32)) + (1 : Int32)))), .val (.double (FP.ddiv (FP.i2d ((p1 &&& (2147483647 : Int32)) % (((p2 &&& (255 : Int32)) + (1 : Int32)) + (1 : Int32)))) (FP.i2d ((p2 &&& (255 : Int32)) + (1 : Int32))))), .second, .val (.ref b_1), .unset, .unset, .unset] [(.ref b_4)])) _
    refine XS.dup X_4.here hx rfl (hb hby at_60) rfl rfl ?_
    show Steps pP.tables eE below (T_4.setTop (mkF mM 61 #[.val (.int p1), .val (.int p2), .val (.int p3), .val (.int p4), .val (.int ((p2 &&& (255 : Int32)) + (1 : Int32))), .val (.int ((p1 &&& (2147483647 : Int32)) % (((p2 &&& (255 : Int32)) + (1 : Int32)) + (1 : Int32)))), .val (.double (FP.ddiv (FP.i2d ((p1 &&& (2147483647 : Int32)) % (((p2 &&& (255 : Int32)) + (1 : Int32)) + (1 : Int32)))) (FP.i2d ((p2 &&& (255 : Int32)) + (1 : Int32))))), .second, .val (.ref b_1), .unset, .unset, .unset] [(.ref b_4), (.ref b_4)])) _
    refine XS.aload X_4.here hx rfl (hb hby at_61) rfl rfl ?_
    show Steps pP.tables eE below (T_4.setTop (mkF mM 63 #[.val (.int p1), .val (.int p2), .val (.int p3), .val (.int p4), .val (.int ((p2 &&& (255 : Int32)) + (1 : Int32))), .val (.int ((p1 &&& (2147483647 : Int32)) % (((p2 &&& (255 : Int32)) + (1 : Int32)) + (1 : Int32)))), .val (.double (FP.ddiv (FP.i2d ((p1 &&& (2147483647 : Int32)) % (((p2 &&& (255 : Int32)) + (1 : Int32)) + (1 : Int32)))) (FP.i2d ((p2 &&& (255 : Int32)) + (1 : Int32))))), .second, .val (.ref b_1), .unset, .unset, .unset] [(.ref b_1), (.ref b_4), (.ref b_4)])) _
    refine st_5.trans ?_
    show Steps pP.tables eE below (T_5.setTop (mkF mM 66 #[.val (.int p1), .val (.int p2), .val (.int p3), .val (.int p4), .val (.int ((p2 &&& (255 : Int32)) + (1 : Int32))), .val (.int ((p1 &&& (2147483647 : Int32)) % (((p2 &&& (255 : Int32)) + (1 : Int32)) + (1 : Int32)))), .val (.double (FP.ddiv (FP.i2d ((p1 &&& (2147483647 : Int32)) % (((p2 &&& (255 : Int32)) + (1 : Int32)) + (1 : Int32)))) (FP.i2d ((p2 &&& (255 : Int32)) + (1 : Int32))))), .second, .val (.ref b_1), .unset, .unset, .unset] [(.ref b_4)])) _
    refine XS.astore X_5.here hx rfl (hb hby at_66) rfl rfl (l' := #[.val (.int p1), .val (.int p2), .val (.int p3), .val (.int p4), .val (.int ((p2 &&& (255 : Int32)) + (1 : Int32))), .val (.int ((p1 &&& (2147483647 : Int32)) % (((p2 &&& (255 : Int32)) + (1 : Int32)) + (1 : Int32)))), .val (.double (FP.ddiv (FP.i2d ((p1 &&& (2147483647 : Int32)) % (((p2 &&& (255 : Int32)) + (1 : Int32)) + (1 : Int32)))) (FP.i2d ((p2 &&& (255 : Int32)) + (1 : Int32))))), .second, .val (.ref b_1), .val (.ref b_4), .unset, .unset]) rfl ?_
    show Steps pP.tables eE below (T_5.setTop (mkF mM 68 #[.val (.int p1), .val (.int p2), .val (.int p3), .val (.int p4), .val (.int ((p2 &&& (255 : Int32)) + (1 : Int32))), .val (.int ((p1 &&& (2147483647 : Int32)) % (((p2 &&& (255 : Int32)) + (1 : Int32)) + (1 : Int32)))), .val (.double (FP.ddiv (FP.i2d ((p1 &&& (2147483647 : Int32)) % (((p2 &&& (255 : Int32)) + (1 : Int32)) + (1 : Int32)))) (FP.i2d ((p2 &&& (255 : Int32)) + (1 : Int32))))), .second, .val (.ref b_1), .val (.ref b_4), .unset, .unset] [])) _
    refine XS.iloadN X_5.here hx rfl (hb hby at_68) rfl ?_
    show Steps pP.tables eE below (T_5.setTop (mkF mM 69 #[.val (.int p1), .val (.int p2), .val (.int p3), .val (.int p4), .val (.int ((p2 &&& (255 : Int32)) + (1 : Int32))), .val (.int ((p1 &&& (2147483647 : Int32)) % (((p2 &&& (255 : Int32)) + (1 : Int32)) + (1 : Int32)))), .val (.double (FP.ddiv (FP.i2d ((p1 &&& (2147483647 : Int32)) % (((p2 &&& (255 : Int32)) + (1 : Int32)) + (1 : Int32)))) (FP.i2d ((p2 &&& (255 : Int32)) + (1 : Int32))))), .second, .val (.ref b_1), .val (.ref b_4), .unset, .unset] [(.int p4)])) _
    refine XS.iconst X_5.here hx rfl (hb hby at_69) ?_
    show Steps pP.tables eE below (T_5.setTop (mkF mM 70 #[.val (.int p1), .val (.int p2), .val (.int p3), .val (.int p4), .val (.int ((p2 &&& (255 : Int32)) + (1 : Int32))), .val (.int ((p1 &&& (2147483647 : Int32)) % (((p2 &&& (255 : Int32)) + (1 : Int32)) + (1 : Int32)))), .val (.double (FP.ddiv (FP.i2d ((p1 &&& (2147483647 : Int32)) % (((p2 &&& (255 : Int32)) + (1 : Int32)) + (1 : Int32)))) (FP.i2d ((p2 &&& (255 : Int32)) + (1 : Int32))))), .second, .val (.ref b_1), .val (.ref b_4), .unset, .unset] [(.int (1 : Int32)), (.int p4)])) _
    refine XS.iand X_5.here hx rfl (hb hby at_70) rfl ?_
    show Steps pP.tables eE below (T_5.setTop (mkF mM 71 #[.val (.int p1), .val (.int p2), .val (.int p3), .val (.int p4), .val (.int ((p2 &&& (255 : Int32)) + (1 : Int32))), .val (.int ((p1 &&& (2147483647 : Int32)) % (((p2 &&& (255 : Int32)) + (1 : Int32)) + (1 : Int32)))), .val (.double (FP.ddiv (FP.i2d ((p1 &&& (2147483647 : Int32)) % (((p2 &&& (255 : Int32)) + (1 : Int32)) + (1 : Int32)))) (FP.i2d ((p2 &&& (255 : Int32)) + (1 : Int32))))), .second, .val (.ref b_1), .val (.ref b_4), .unset, .unset] [(.int (p4 &&& (1 : Int32)))])) _
    refine XS.ifYes X_5.here hx rfl (pc0 := 71) (pc' := 88) rfl (hb hby at_71) rfl (XT.i0_eq_t hf) (by decide) (by decide) ?_
    show Steps pP.tables eE below (T_5.setTop (mkF mM 88 #[.val (.int p1), .val (.int p2), .val (.int p3), .val (.int p4), .val (.int ((p2 &&& (255 : Int32)) + (1 : Int32))), .val (.int ((p1 &&& (2147483647 : Int32)) % (((p2 &&& (255 : Int32)) + (1 : Int32)) + (1 : Int32)))), .val (.double (FP.ddiv (FP.i2d ((p1 &&& (2147483647 : Int32)) % (((p2 &&& (255 : Int32)) + (1 : Int32)) + (1 : Int32)))) (FP.i2d ((p2 &&& (255 : Int32)) + (1 : Int32))))), .second, .val (.ref b_1), .val (.ref b_4), .unset, .unset] [])) _
    refine XS.aload X_5.here hx rfl (hb hby at_88) rfl rfl ?_
    show Steps pP.tables eE below (T_5.setTop (mkF mM 90 #[.val (.int p1), .val (.int p2), .val (.int p3), .val (.int p4), .val (.int ((p2 &&& (255 : Int32)) + (1 : Int32))), .val (.int ((p1 &&& (2147483647 : Int32)) % (((p2 &&& (255 : Int32)) + (1 : Int32)) + (1 : Int32)))), .val (.double (FP.ddiv (FP.i2d ((p1 &&& (2147483647 : Int32)) % (((p2 &&& (255 : Int32)) + (1 : Int32)) + (1 : Int32)))) (FP.i2d ((p2 &&& (255 : Int32)) + (1 : Int32))))), .second, .val (.ref b_1), .val (.ref b_4), .unset, .unset] [(.ref b_4)])) _
    refine XS.dload X_5.here hx rfl (hb hby at_90) rfl ?_
    show Steps pP.tables eE below (T_5.setTop (mkF mM 92 #[.val (.int p1), .val (.int p2), .val (.int p3), .val (.int p4), .val (.int ((p2 &&& (255 : Int32)) + (1 : Int32))), .val (.int ((p1 &&& (2147483647 : Int32)) % (((p2 &&& (255 : Int32)) + (1 : Int32)) + (1 : Int32)))), .val (.double (FP.ddiv (FP.i2d ((p1 &&& (2147483647 : Int32)) % (((p2 &&& (255 : Int32)) + (1 : Int32)) + (1 : Int32)))) (FP.i2d ((p2 &&& (255 : Int32)) + (1 : Int32))))), .second, .val (.ref b_1), .val (.ref b_4), .unset, .unset] [(.double (FP.ddiv (FP.i2d ((p1 &&& (2147483647 : Int32)) % (((p2 &&& (255 : Int32)) + (1 : Int32)) + (1 : Int32)))) (FP.i2d ((p2 &&& (255 : Int32)) + (1 : Int32))))), (.ref b_4)])) _
    refine st_6 _ ?_
    show Steps pP.tables eE below (T_6.setTop (mkF mM 95 #[.val (.int p1), .val (.int p2), .val (.int p3), .val (.int p4), .val (.int ((p2 &&& (255 : Int32)) + (1 : Int32))), .val (.int ((p1 &&& (2147483647 : Int32)) % (((p2 &&& (255 : Int32)) + (1 : Int32)) + (1 : Int32)))), .val (.double (FP.ddiv (FP.i2d ((p1 &&& (2147483647 : Int32)) % (((p2 &&& (255 : Int32)) + (1 : Int32)) + (1 : Int32)))) (FP.i2d ((p2 &&& (255 : Int32)) + (1 : Int32))))), .second, .val (.ref b_1), .val (.ref b_4), .unset, .unset] [(.double (FP.ddiv (FP.i2d ((p1 &&& (2147483647 : Int32)) % (((p2 &&& (255 : Int32)) + (1 : Int32)) + (1 : Int32)))) (FP.i2d ((p2 &&& (255 : Int32)) + (1 : Int32)))))])) _
    refine XS.dstore X_6.here hx rfl (hb hby at_95) rfl (l' := #[.val (.int p1), .val (.int p2), .val (.int p3), .val (.int p4), .val (.int ((p2 &&& (255 : Int32)) + (1 : Int32))), .val (.int ((p1 &&& (2147483647 : Int32)) % (((p2 &&& (255 : Int32)) + (1 : Int32)) + (1 : Int32)))), .val (.double (FP.ddiv (FP.i2d ((p1 &&& (2147483647 : Int32)) % (((p2 &&& (255 : Int32)) + (1 : Int32)) + (1 : Int32)))) (FP.i2d ((p2 &&& (255 : Int32)) + (1 : Int32))))), .second, .val (.ref b_1), .val (.ref b_4), .val (.double (FP.ddiv (FP.i2d ((p1 &&& (2147483647 : Int32)) % (((p2 &&& (255 : Int32)) + (1 : Int32)) + (1 : Int32)))) (FP.i2d ((p2 &&& (255 : Int32)) + (1 : Int32))))), .second]) rfl ?_
    show Steps pP.tables eE below (T_6.setTop (mkF mM 97 #[.val (.int p1), .val (.int p2), .val (.int p3), .val (.int p4), .val (.int ((p2 &&& (255 : Int32)) + (1 : Int32))), .val (.int ((p1 &&& (2147483647 : Int32)) % (((p2 &&& (255 : Int32)) + (1 : Int32)) + (1 : Int32)))), .val (.double (FP.ddiv (FP.i2d ((p1 &&& (2147483647 : Int32)) % (((p2 &&& (255 : Int32)) + (1 : Int32)) + (1 : Int32)))) (FP.i2d ((p2 &&& (255 : Int32)) + (1 : Int32))))), .second, .val (.ref b_1), .val (.ref b_4), .val (.double (FP.ddiv (FP.i2d ((p1 &&& (2147483647 : Int32)) % (((p2 &&& (255 : Int32)) + (1 : Int32)) + (1 : Int32)))) (FP.i2d ((p2 &&& (255 : Int32)) + (1 : Int32))))), .second] [])) _
    refine XS.dload X_6.here hx rfl (hb hby at_97) rfl ?_
    show Steps pP.tables eE below (T_6.setTop (mkF mM 99 #[.val (.int p1), .val (.int p2), .val (.int p3), .val (.int p4), .val (.int ((p2 &&& (255 : Int32)) + (1 : Int32))), .val (.int ((p1 &&& (2147483647 : Int32)) % (((p2 &&& (255 : Int32)) + (1 : Int32)) + (1 : Int32)))), .val (.double (FP.ddiv (FP.i2d ((p1 &&& (2147483647 : Int32)) % (((p2 &&& (255 : Int32)) + (1 : Int32)) + (1 : Int32)))) (FP.i2d ((p2 &&& (255 : Int32)) + (1 : Int32))))), .second, .val (.ref b_1), .val (.ref b_4), .val (.double (FP.ddiv (FP.i2d ((p1 &&& (2147483647 : Int32)) % (((p2 &&& (255 : Int32)) + (1 : Int32)) + (1 : Int32)))) (FP.i2d ((p2 &&& (255 : Int32)) + (1 : Int32))))), .second] [(.double (FP.ddiv (FP.i2d ((p1 &&& (2147483647 : Int32)) % (((p2 &&& (255 : Int32)) + (1 : Int32)) + (1 : Int32)))) (FP.i2d ((p2 &&& (255 : Int32)) + (1 : Int32)))))])) _
    refine XS.dload X_6.here hx rfl (hb hby at_99) rfl ?_
    show Steps pP.tables eE below (T_6.setTop (mkF mM 101 #[.val (.int p1), .val (.int p2), .val (.int p3), .val (.int p4), .val (.int ((p2 &&& (255 : Int32)) + (1 : Int32))), .val (.int ((p1 &&& (2147483647 : Int32)) % (((p2 &&& (255 : Int32)) + (1 : Int32)) + (1 : Int32)))), .val (.double (FP.ddiv (FP.i2d ((p1 &&& (2147483647 : Int32)) % (((p2 &&& (255 : Int32)) + (1 : Int32)) + (1 : Int32)))) (FP.i2d ((p2 &&& (255 : Int32)) + (1 : Int32))))), .second, .val (.ref b_1), .val (.ref b_4), .val (.double (FP.ddiv (FP.i2d ((p1 &&& (2147483647 : Int32)) % (((p2 &&& (255 : Int32)) + (1 : Int32)) + (1 : Int32)))) (FP.i2d ((p2 &&& (255 : Int32)) + (1 : Int32))))), .second] [(.double (FP.ddiv (FP.i2d ((p1 &&& (2147483647 : Int32)) % (((p2 &&& (255 : Int32)) + (1 : Int32)) + (1 : Int32)))) (FP.i2d ((p2 &&& (255 : Int32)) + (1 : Int32))))), (.double (FP.ddiv (FP.i2d ((p1 &&& (2147483647 : Int32)) % (((p2 &&& (255 : Int32)) + (1 : Int32)) + (1 : Int32)))) (FP.i2d ((p2 &&& (255 : Int32)) + (1 : Int32)))))])) _
    refine XS.dcmpS X_6.here hx rfl (hb hby at_101) rfl rfl ?_
    show Steps pP.tables eE below (T_6.setTop (mkF mM 102 #[.val (.int p1), .val (.int p2), .val (.int p3), .val (.int p4), .val (.int ((p2 &&& (255 : Int32)) + (1 : Int32))), .val (.int ((p1 &&& (2147483647 : Int32)) % (((p2 &&& (255 : Int32)) + (1 : Int32)) + (1 : Int32)))), .val (.double (FP.ddiv (FP.i2d ((p1 &&& (2147483647 : Int32)) % (((p2 &&& (255 : Int32)) + (1 : Int32)) + (1 : Int32)))) (FP.i2d ((p2 &&& (255 : Int32)) + (1 : Int32))))), .second, .val (.ref b_1), .val (.ref b_4), .val (.double (FP.ddiv (FP.i2d ((p1 &&& (2147483647 : Int32)) % (((p2 &&& (255 : Int32)) + (1 : Int32)) + (1 : Int32)))) (FP.i2d ((p2 &&& (255 : Int32)) + (1 : Int32))))), .second] [(.int (cmpValue (FP.dcmp (FP.ddiv (FP.i2d ((p1 &&& (2147483647 : Int32)) % (((p2 &&& (255 : Int32)) + (1 : Int32)) + (1 : Int32)))) (FP.i2d ((p2 &&& (255 : Int32)) + (1 : Int32)))) (FP.ddiv (FP.i2d ((p1 &&& (2147483647 : Int32)) % (((p2 &&& (255 : Int32)) + (1 : Int32)) + (1 : Int32)))) (FP.i2d ((p2 &&& (255 : Int32)) + (1 : Int32))))) .l))])) _
    refine XS.ifNo X_6.here hx rfl (hb hby at_102) rfl (XT.i0_ne_f (dcmpV_self (own_val (own_q p1 p2)) .l)) ?_
    show Steps pP.tables eE below (T_6.setTop (mkF mM 105 #[.val (.int p1), .val (.int p2), .val (.int p3), .val (.int p4), .val (.int ((p2 &&& (255 : Int32)) + (1 : Int32))), .val (.int ((p1 &&& (2147483647 : Int32)) % (((p2 &&& (255 : Int32)) + (1 : Int32)) + (1 : Int32)))), .val (.double (FP.ddiv (FP.i2d ((p1 &&& (2147483647 : Int32)) % (((p2 &&& (255 : Int32)) + (1 : Int32)) + (1 : Int32)))) (FP.i2d ((p2 &&& (255 : Int32)) + (1 : Int32))))), .second, .val (.ref b_1), .val (.ref b_4), .val (.double (FP.ddiv (FP.i2d ((p1 &&& (2147483647 : Int32)) % (((p2 &&& (255 : Int32)) + (1 : Int32)) + (1 : Int32)))) (FP.i2d ((p2 &&& (255 : Int32)) + (1 : Int32))))), .second] [])) _
    refine XS.iconst X_6.here hx rfl (hb hby at_105) ?_
    show Steps pP.tables eE below (T_6.setTop (mkF mM 106 #[.val (.int p1), .val (.int p2), .val (.int p3), .val (.int p4), .val (.int ((p2 &&& (255 : Int32)) + (1 : Int32))), .val (.int ((p1 &&& (2147483647 : Int32)) % (((p2 &&& (255 : Int32)) + (1 : Int32)) + (1 : Int32)))), .val (.double (FP.ddiv (FP.i2d ((p1 &&& (2147483647 : Int32)) % (((p2 &&& (255 : Int32)) + (1 : Int32)) + (1 : Int32)))) (FP.i2d ((p2 &&& (255 : Int32)) + (1 : Int32))))), .second, .val (.ref b_1), .val (.ref b_4), .val (.double (FP.ddiv (FP.i2d ((p1 &&& (2147483647 : Int32)) % (((p2 &&& (255 : Int32)) + (1 : Int32)) + (1 : Int32)))) (FP.i2d ((p2 &&& (255 : Int32)) + (1 : Int32))))), .second] [(.int (1 : Int32))])) _
    refine XS.goto X_6.here hx rfl (pc0 := 106) (pc' := 110) rfl (hb hby at_106) (by decide) (by decide) ?_
    show Steps pP.tables eE below (T_6.setTop (mkF mM 110 #[.val (.int p1), .val (.int p2), .val (.int p3), .val (.int p4), .val (.int ((p2 &&& (255 : Int32)) + (1 : Int32))), .val (.int ((p1 &&& (2147483647 : Int32)) % (((p2 &&& (255 : Int32)) + (1 : Int32)) + (1 : Int32)))), .val (.double (FP.ddiv (FP.i2d ((p1 &&& (2147483647 : Int32)) % (((p2 &&& (255 : Int32)) + (1 : Int32)) + (1 : Int32)))) (FP.i2d ((p2 &&& (255 : Int32)) + (1 : Int32))))), .second, .val (.ref b_1), .val (.ref b_4), .val (.double (FP.ddiv (FP.i2d ((p1 &&& (2147483647 : Int32)) % (((p2 &&& (255 : Int32)) + (1 : Int32)) + (1 : Int32)))) (FP.i2d ((p2 &&& (255 : Int32)) + (1 : Int32))))), .second] [(.int (1 : Int32))])) _
    exact retN X_6 hx (t := .boolean) Bd.returns (by simp) (hb hby at_110) hr
  · show Q_lawe Z p1 p2 p3 p4 cs h0 n0 _ T_6.heap _
    exact ⟨rfl, N_6⟩
theorem pd_9 : parseMethodDescriptor "(C)Ljava/lang/String;" = some ⟨[.char], some (.object "java/lang/String")⟩ := by decide +kernel
theorem ef_lawo (mM : MethodId) (x0 : Int32) (x1 : Int32) (x2 : Int32) (x3 : Int32) : entryFrame mM #[(.int x0), (.int x1), (.int x2), (.int x3)] maxLocals = mkF mM 0 #[.val (.int x0), .val (.int x1), .val (.int x2), .val (.int x3), .unset, .unset, .unset, .unset, .unset, .unset, .unset, .unset] [] := by first | (simp [entryFrame, mkF, argsToLocals, Value.category, maxLocals]; done) | rfl
def Q_lawo (Z : State) (p1 : Int32) (p2 : Int32) (p3 : Int32) (p4 : Int32) (cs : Int32) (h0 : Heap) (n0 : Nat) (v_ : Option Value) (h_ : Heap) (L_ : List Loc) : Prop := v_ = some (.int (1 : Int32)) ∧ Fr n0 L_
set_option maxRecDepth 65536 in
set_option maxHeartbeats 40000000 in
theorem rm_lawo (l : Launch) (Z : State) (a0 : Array Value) (hw : ∀ d ∈ tables_1, d.before a0 Z = true) (ws : List Jvm.Cond) (p1 : Int32) (p2 : Int32) (p3 : Int32) (p4 : Int32) (cs : Int32) (h0 : Heap) (n0 : Nat) (Z0 : n0 ≤ h0.size) (S_String_COMPACT_STRINGS : Sta Z h0 "java/lang/String" "COMPACT_STRINGS" "Z" (.int cs)) (hcs : ¬ cs = 0) (hf : ¬ (p4 &&& (1 : Int32)) = 0) :
    MetFree l x (head1 (Jvm.Cond.code x code maxLocals ret :: ws) room_1) (fun aa_ U_ => aa_ = #[(.int p1), (.int p2), (.int p3), (.int p4)] ∧ Z.Warmed39 U_.vm ∧ U_.heap = h0) (fun _ _ _ _ _ => True) (fun _ U_ o_ U'_ => ∃ v_ L_, o_ = .returned v_ ∧ Q_lawo Z p1 p2 p3 p4 cs h0 n0 v_ U'_.heap L_ ∧ FrameEnd U_ o_ U'_ L_ 5 13) := by
  refine MetFree.of_bodySF (plainFor_of_name pn_4) hisR ?_
  intro pP eE sS mM argsA below meth cC s₁ Bd hml0 hP hK
  obtain ⟨rfl, hZ, hh⟩ := hP
  have hx := Bd.exec
  have hby := Bd.bytes
  have hml : cC.maxLocals = 12 := hml0
  have hown : sS.vm.findClass "com/example/polyvane/polyvane/moead/DecompositionAlgorithmCheckedProbabilityPinLaw" = some mM.cls := findClass_of_methodNamed Bd.named
  have hnm := (name_of_methodNamed Bd.named Bd.method).1
  have X0 : Stand pP l eE room_1 sS mM #[(.int p1), (.int p2), (.int p3), (.int p4)] below meth cC s₁ [] 0 0 := Stand.of_body Bd
  have e0 : s₁.heap = h0 := by rw [← hh, Bd.state]; rfl
  have N0 := Fr.nil n0
  have pre0 : ∀ t_, Steps pP.tables eE below (s₁.setTop (mkF mM 0 #[.val (.int p1), .val (.int p2), .val (.int p3), .val (.int p4), .unset, .unset, .unset, .unset, .unset, .unset, .unset, .unset] [])) t_ → Steps pP.tables eE below (s₁.setTop (entryFrame mM #[(.int p1), (.int p2), (.int p3), (.int p4)] maxLocals)) t_ := fun t_ k_ => castTop (ef_lawo mM p1 p2 p3 p4) k_
  obtain ⟨T_1, h_1, k_1, X_1, e_1, E_1, A_1, st_1⟩ := newP X0 hx hZ (hw _ (List.mem_of_getElem? (i := 1) rfl)) e0 (g := (mkF mM 30 #[.val (.int p1), .val (.int p2), .val (.int p3), .val (.int p4), .val (.int ((p2 &&& (255 : Int32)) + (1 : Int32))), .val (.int ((p1 &&& (2147483647 : Int32)) % (((p2 &&& (255 : Int32)) + (1 : Int32)) + (1 : Int32)))), .val (.double (FP.ddiv (FP.i2d ((p1 &&& (2147483647 : Int32)) % (((p2 &&& (255 : Int32)) + (1 : Int32)) + (1 : Int32)))) (FP.i2d ((p2 &&& (255 : Int32)) + (1 : Int32))))), .second, .unset, .unset, .unset, .unset] [(.int (2 : Int32))])) rfl (hb hby at_30) rfl (by decide) (cap := 2) (by decide) (by decide) (by decide) (by decide)
  obtain ⟨b_1, g_1⟩ : ∃ z, z = h0.size := ⟨_, rfl⟩
  rw [← g_1] at A_1 st_1
  have g_b_1 : n0 ≤ b_1 := Nat.le_trans Z0 (Nat.le_of_eq g_1.symm)
  have sz_b_1 : h0.size ≤ b_1 := Nat.le_trans (Keep.refl h0 []).1 (Nat.le_of_eq g_1.symm)
  have Z_1 : n0 ≤ h_1.size := (Nat.le_trans Z0 E_1.1)
  have K_1 : Keep h0 h_1 [] := (Keep.refl h0 []).ext E_1
  have V_b_1 : Arv Z h_1 b_1 k_1 .char (2 : Int32) [(.int (0 : Int32)), (.int (0 : Int32))] (.int (0 : Int32)) := (Arv.new A_1 (by decide)).pad (pad_rep [] (.int (0 : Int32)) 2)
  obtain ⟨cl_2, Ar_2, qa_2, Sa_2, Na_2, Ha_2, Ga_2⟩ := id V_b_1
  have hin_2 : ¬ ((0 : Int32) < 0 ∨ cl_2.slots.size ≤ ((0 : Int32)).toNatClampNeg) := inb_of Sa_2 ⟨by decide, by decide⟩
  obtain ⟨T_2, h_2, X_2, e_2, W_2, st_2⟩ := stC X_1 hx hZ e_1 Ar_2 (j := (0 : Int32)) hin_2 (g := (mkF mM 43 #[.val (.int p1), .val (.int p2), .val (.int p3), .val (.int p4), .val (.int ((p2 &&& (255 : Int32)) + (1 : Int32))), .val (.int ((p1 &&& (2147483647 : Int32)) % (((p2 &&& (255 : Int32)) + (1 : Int32)) + (1 : Int32)))), .val (.double (FP.ddiv (FP.i2d ((p1 &&& (2147483647 : Int32)) % (((p2 &&& (255 : Int32)) + (1 : Int32)) + (1 : Int32)))) (FP.i2d ((p2 &&& (255 : Int32)) + (1 : Int32))))), .second, .val (.ref b_1), .unset, .unset, .unset] [(.int ((p3 &&& (255 : Int32)).toUInt32.toUInt16.toUInt32.toInt32)), (.int (0 : Int32)), (.ref b_1)])) rfl rfl (hb hby at_43)
  have V_2 : Arv Z h_2 b_1 k_1 .char (2 : Int32) [(.int (nar .char ((p3 &&& (255 : Int32)).toUInt32.toUInt16.toUInt32.toInt32))), (.int (0 : Int32))] (.int (0 : Int32)) := Arv.set Ar_2 qa_2 Sa_2 Na_2 Ha_2 Ga_2 (fits_nar_char _) W_2 0 rfl (Nat.le_of_ble_eq_true rfl)
  have Z_2 : n0 ≤ h_2.size := (Nat.le_trans Z_1 (Keep.of_wr W_2).1)
  have K_2 : Keep h0 h_2 [] := K_1.wr W_2 (Or.inr sz_b_1)
  have N_2 := Fr.snoc X_2 N0 g_b_1
  obtain ⟨cl_3, Ar_3, qa_3, Sa_3, Na_3, Ha_3, Ga_3⟩ := id V_2
  have hin_3 : ¬ ((1 : Int32) < 0 ∨ cl_3.slots.size ≤ ((1 : Int32)).toNatClampNeg) := inb_of Sa_3 ⟨by decide, by decide⟩
  obtain ⟨T_3, h_3, X_3, e_3, W_3, st_3⟩ := stC X_2 hx hZ e_2 Ar_3 (j := (1 : Int32)) hin_3 (g := (mkF mM 56 #[.val (.int p1), .val (.int p2), .val (.int p3), .val (.int p4), .val (.int ((p2 &&& (255 : Int32)) + (1 : Int32))), .val (.int ((p1 &&& (2147483647 : Int32)) % (((p2 &&& (255 : Int32)) + (1 : Int32)) + (1 : Int32)))), .val (.double (FP.ddiv (FP.i2d ((p1 &&& (2147483647 : Int32)) % (((p2 &&& (255 : Int32)) + (1 : Int32)) + (1 : Int32)))) (FP.i2d ((p2 &&& (255 : Int32)) + (1 : Int32))))), .second, .val (.ref b_1), .unset, .unset, .unset] [(.int (((XT.ushr p3 (8 : Int32)) &&& (255 : Int32)).toUInt32.toUInt16.toUInt32.toInt32)), (.int (1 : Int32)), (.ref b_1)])) rfl rfl (hb hby at_56)
  have V_3 : Arv Z h_3 b_1 k_1 .char (2 : Int32) [(.int (nar .char ((p3 &&& (255 : Int32)).toUInt32.toUInt16.toUInt32.toInt32))), (.int (nar .char (((XT.ushr p3 (8 : Int32)) &&& (255 : Int32)).toUInt32.toUInt16.toUInt32.toInt32)))] (.int (0 : Int32)) := Arv.set Ar_3 qa_3 Sa_3 Na_3 Ha_3 Ga_3 (fits_nar_char _) W_3 1 rfl (Nat.le_of_ble_eq_true rfl)
  have Z_3 : n0 ≤ h_3.size := (Nat.le_trans Z_2 (Keep.of_wr W_3).1)
  have K_3 : Keep h0 h_3 [] := K_2.wr W_3 (Or.inr sz_b_1)
  have N_3 := Fr.snoc X_3 N_2 g_b_1
  obtain ⟨T_4, h_4, X_4, e_4, E_4, A_4, D_4, -, st_4⟩ := newO X_3 hx hZ hown (hw _ (List.mem_of_getElem? (i := 2) rfl)) (hw _ (List.mem_of_getElem? (i := 3) rfl)) (hw _ (List.mem_of_getElem? (i := 4) rfl)) e_3 (g := (mkF mM 57 #[.val (.int p1), .val (.int p2), .val (.int p3), .val (.int p4), .val (.int ((p2 &&& (255 : Int32)) + (1 : Int32))), .val (.int ((p1 &&& (2147483647 : Int32)) % (((p2 &&& (255 : Int32)) + (1 : Int32)) + (1 : Int32)))), .val (.double (FP.ddiv (FP.i2d ((p1 &&& (2147483647 : Int32)) % (((p2 &&& (255 : Int32)) + (1 : Int32)) + (1 : Int32)))) (FP.i2d ((p2 &&& (255 : Int32)) + (1 : Int32))))), .second, .val (.ref b_1), .unset, .unset, .unset] [])) rfl (hb hby at_57) (by decide) (by decide)
  obtain ⟨b_4, g_4⟩ : ∃ z, z = h_3.size := ⟨_, rfl⟩
  rw [← g_4] at A_4 D_4 st_4
  have g_b_4 : n0 ≤ b_4 := Nat.le_trans Z_3 (Nat.le_of_eq g_4.symm)
  have sz_b_4 : h0.size ≤ b_4 := Nat.le_trans K_3.1 (Nat.le_of_eq g_4.symm)
  have Z_4 : n0 ≤ h_4.size := (Nat.le_trans Z_3 E_4.1)
  have K_4 : Keep h0 h_4 [] := K_3.ext E_4
  have F_coder_b_4__4 : Fld Z h_4 b_4 "java/lang/String" "coder" "B" (.int (0 : Int32)) := D_4 (Or.inr (hw _ (List.mem_of_getElem? (i := 28) rfl))) (ty := .byte) (by decide)
  have F_value_b_4__4 : Fld Z h_4 b_4 "java/lang/String" "value" "[B" .null := D_4 (Or.inr (hw _ (List.mem_of_getElem? (i := 30) rfl))) (ty := (.array .byte)) (by decide)
  obtain ⟨_, _, ⟨T_5, L_5, k_5, n_5⟩, -, X_5, ⟨Lc_5, hQ_5, l_5, y_5, z_5⟩, st_5⟩ := X_4.specialBack hx (y := (⟨"java/lang/String", "<init>", "([C)V"⟩ : MethodName)) rfl hown (mvT hZ (hw _ (List.mem_of_getElem? (i := 5) rfl))) (mvT hZ (hw _ (List.mem_of_getElem? (i := 6) rfl))) (mvT hZ (hw _ (List.mem_of_getElem? (i := 7) rfl))) (by decide) (backOf (W := 1) (rm_str_2 l Z a0 hw [] b_4 b_1 k_1 cs (nar .char ((p3 &&& (255 : Int32)).toUInt32.toUInt16.toUInt32.toInt32)) (nar .char (((XT.ushr p3 (8 : Int32)) &&& (255 : Int32)).toUInt32.toUInt16.toUInt32.toInt32)) h_4 n0 Z_4 F_value_b_4__4 F_coder_b_4__4 A_4 g_b_4 ((((S_String_COMPACT_STRINGS.ext E_1).wr W_2).wr W_3).ext E_4) hcs (V_3.ext E_4) (Ne.symm (Nat.ne_of_lt (Nat.lt_of_lt_of_le V_3.lt (Nat.le_of_eq g_4.symm)))) (own_c255n _) (own_c255n _)) hZ (hw _ (List.mem_of_getElem? (i := 7) rfl)) (hw _ (List.mem_of_getElem? (i := 4) rfl)) (by decide) (by decide)) (g := (mkF mM 63 #[.val (.int p1), .val (.int p2), .val (.int p3), .val (.int p4), .val (.int ((p2 &&& (255 : Int32)) + (1 : Int32))), .val (.int ((p1 &&& (2147483647 : Int32)) % (((p2 &&& (255 : Int32)) + (1 : Int32)) + (1 : Int32)))), .val (.double (FP.ddiv (FP.i2d ((p1 &&& (2147483647 : Int32)) % (((p2 &&& (255 : Int32)) + (1 : Int32)) + (1 : Int32)))) (FP.i2d ((p2 &&& (255 : Int32)) + (1 : Int32))))), .second, .val (.ref b_1), .unset, .unset, .unset] [(.ref b_1), (.ref b_4), (.ref b_4)])) rfl (by rw [hml]; rfl) (Steps.refl _) (a := b_4) (argsL := [(.ref b_1)]) (rest := [(.ref b_4)]) (lenOf pd_7 rfl) rfl (by show 2 * 0 + _ ≤ _; exact Nat.le_of_eq rfl) (hb hby at_63) (fun _ _ => ⟨rfl, e_4, (by decide : 2 + 1 ≤ _), (by decide : 6 + 2 ≤ _)⟩)
  dsimp only [Pt.U, Pt.locs, Pt.cells, Pt.slots] at X_5 l_5 y_5 z_5 st_5 hQ_5
  subst l_5 y_5 z_5
  obtain ⟨d__5, ⟨kd__5, ⟨rfl, N_5q, Kc_5, pfsz_d_5, pfE_a_5, pfF_value_a_5, pfF_coder_a_5, pfV_d_5⟩⟩⟩ := hQ_5
  have Z_5 : n0 ≤ T_5.heap.size := (Nat.le_trans Z_4 Kc_5.1)
  have K_5 : Keep h0 T_5.heap [] := K_4.trans Kc_5 (allS (Or.inr sz_b_4) all0)
  have sz_d__5 : h0.size ≤ d__5 := Nat.le_trans K_4.1 pfsz_d_5
  have g_d__5 : n0 ≤ d__5 := Nat.le_trans Z_4 pfsz_d_5
  have N_5 := Fr.app N_3 N_5q
  obtain ⟨_, _, ⟨T_6, L_6, k_6, n_6⟩, -, X_6, ⟨Lc_6, hQ_6, l_6, y_6, z_6⟩, st_6⟩ := Jvm.LawKit.callS X_5 hx (y := (⟨"java/lang/String", "valueOf", "(C)Ljava/lang/String;"⟩ : MethodName)) hown (mvT hZ (hw _ (List.mem_of_getElem? (i := 31) rfl))) (mvT hZ (hw _ (List.mem_of_getElem? (i := 32) rfl))) (mvT hZ (hw _ (List.mem_of_getElem? (i := 4) rfl))) (mvT hZ (hw _ (List.mem_of_getElem? (i := 33) rfl))) (by decide) (backOf (W := 0) (rm_valof l Z a0 hw [] (((XT.ushr p3 (16 : Int32)) &&& (255 : Int32)).toUInt32.toUInt16.toUInt32.toInt32) cs T_5.heap n0 Z_5 (own_sta_keep ((((S_String_COMPACT_STRINGS.ext E_1).wr W_2).wr W_3).ext E_4) Kc_5 (allS (own_exa_ns A_4) all0)) hcs (own_c255 _)) hZ (hw _ (List.mem_of_getElem? (i := 33) rfl)) (hw _ (List.mem_of_getElem? (i := 4) rfl)) (by decide) (by decide)) (g := (mkF mM 83 #[.val (.int p1), .val (.int p2), .val (.int p3), .val (.int p4), .val (.int ((p2 &&& (255 : Int32)) + (1 : Int32))), .val (.int ((p1 &&& (2147483647 : Int32)) % (((p2 &&& (255 : Int32)) + (1 : Int32)) + (1 : Int32)))), .val (.double (FP.ddiv (FP.i2d ((p1 &&& (2147483647 : Int32)) % (((p2 &&& (255 : Int32)) + (1 : Int32)) + (1 : Int32)))) (FP.i2d ((p2 &&& (255 : Int32)) + (1 : Int32))))), .second, .val (.ref b_1), .val (.ref b_4), .unset, .unset] [(.int (((XT.ushr p3 (16 : Int32)) &&& (255 : Int32)).toUInt32.toUInt16.toUInt32.toInt32))])) rfl (by rw [hml]; rfl) (argsL := [(.int (((XT.ushr p3 (16 : Int32)) &&& (255 : Int32)).toUInt32.toUInt16.toUInt32.toInt32))]) (rest := []) (lenOf pd_9 rfl) rfl (by show 2 * 0 + _ ≤ _; exact Nat.le_of_eq rfl) (hb hby at_83) (fun _ _ => ⟨rfl, rfl, (by decide : 3 + 2 ≤ _), (by decide : 8 + 5 ≤ _)⟩)
  dsimp only [Pt.U, Pt.locs, Pt.cells, Pt.slots] at X_6 l_6 y_6 z_6 st_6 hQ_6
  subst l_6 y_6 z_6
  obtain ⟨b__6, ⟨d__6, ⟨k__6, ⟨rfl, N_6q, Kc_6, pfsz_b_6, pfsz_d_6, pfE_b_6, pfF_value_b_6, pfF_coder_b_6, pfV_d_6⟩⟩⟩⟩ := hQ_6
  have Z_6 : n0 ≤ T_6.heap.size := (Nat.le_trans Z_5 Kc_6.1)
  have K_6 : Keep h0 T_6.heap [] := K_5.trans Kc_6 all0
  have sz_b__6 : h0.size ≤ b__6 := Nat.le_trans K_5.1 pfsz_b_6
  have g_b__6 : n0 ≤ b__6 := Nat.le_trans Z_5 pfsz_b_6
  have sz_d__6 : h0.size ≤ d__6 := Nat.le_trans K_5.1 pfsz_d_6
  have g_d__6 : n0 ≤ d__6 := Nat.le_trans Z_5 pfsz_d_6
  have N_6 := Fr.app N_5 N_6q
  obtain ⟨_, _, ⟨T_7, L_7, k_7, n_7⟩, -, X_7, ⟨Lc_7, hQ_7, l_7, y_7, z_7⟩, st_7⟩ := Jvm.LawKit.callS X_6 hx (y := (⟨"com/example/polyvane/polyvane/moead/DecompositionAlgorithm", "checkedProbability", "(Ljava/lang/String;D)D"⟩ : MethodName)) hown (mvT hZ (hw _ (List.mem_of_getElem? (i := 45) rfl))) (mvT hZ (hw _ (List.mem_of_getElem? (i := 46) rfl))) (mvT hZ (hw _ (List.mem_of_getElem? (i := 47) rfl))) (mvT hZ (hw _ (List.mem_of_getElem? (i := 48) rfl))) (by decide) (backOf (W := 0) (rm_chk l Z a0 hw [] b__6 (FP.ddiv (FP.i2d ((p1 &&& (2147483647 : Int32)) % (((p2 &&& (255 : Int32)) + (1 : Int32)) + (1 : Int32)))) (FP.i2d ((p2 &&& (255 : Int32)) + (1 : Int32)))) T_6.heap n0 Z_6 (own_q p1 p2)) hZ (hw _ (List.mem_of_getElem? (i := 48) rfl)) (hw _ (List.mem_of_getElem? (i := 47) rfl)) (by decide) (by decide)) (g := (mkF mM 92 #[.val (.int p1), .val (.int p2), .val (.int p3), .val (.int p4), .val (.int ((p2 &&& (255 : Int32)) + (1 : Int32))), .val (.int ((p1 &&& (2147483647 : Int32)) % (((p2 &&& (255 : Int32)) + (1 : Int32)) + (1 : Int32)))), .val (.double (FP.ddiv (FP.i2d ((p1 &&& (2147483647 : Int32)) % (((p2 &&& (255 : Int32)) + (1 : Int32)) + (1 : Int32)))) (FP.i2d ((p2 &&& (255 : Int32)) + (1 : Int32))))), .second, .val (.ref b_1), .val (.ref b__6), .unset, .unset] [(.double (FP.ddiv (FP.i2d ((p1 &&& (2147483647 : Int32)) % (((p2 &&& (255 : Int32)) + (1 : Int32)) + (1 : Int32)))) (FP.i2d ((p2 &&& (255 : Int32)) + (1 : Int32))))), (.ref b__6)])) rfl (by rw [hml]; rfl) (argsL := [(.ref b__6), (.double (FP.ddiv (FP.i2d ((p1 &&& (2147483647 : Int32)) % (((p2 &&& (255 : Int32)) + (1 : Int32)) + (1 : Int32)))) (FP.i2d ((p2 &&& (255 : Int32)) + (1 : Int32)))))]) (rest := []) (lenOf pd_8 rfl) rfl (by show 2 * 0 + _ ≤ _; exact Nat.le_of_eq rfl) (hb hby at_92) (fun _ _ => ⟨rfl, rfl, (by decide : 5 + 0 ≤ _), (by decide : 13 + 0 ≤ _)⟩)
  dsimp only [Pt.U, Pt.locs, Pt.cells, Pt.slots] at X_7 l_7 y_7 z_7 st_7 hQ_7
  subst l_7 y_7 z_7
  obtain ⟨rfl, N_7q, eh_7⟩ := hQ_7
  have N_7 := Fr.app N_6 N_7q
  obtain ⟨fs, hr, hrun, hended, hW, hsame⟩ := X_7.leave (v := some (.int (1 : Int32))) (fun h => by rw [Bd.returns] at h; cases h)
  refine ⟨_, _, pre0 _ ?_, hrun, hended, _, _, rfl, ?_, ⟨_, rfl⟩, hW, hsame.mono (by decide) (by decide)⟩
  · show Steps pP.tables eE below (s₁.setTop (mkF mM 0 #[.val (.int p1), .val (.int p2), .val (.int p3), .val (.int p4), .unset, .unset, .unset, .unset, .unset, .unset, .unset, .unset] [])) _
    refine XS.iloadN X0.here hx rfl (hb hby at_0) rfl ?_
    show Steps pP.tables eE below (s₁.setTop (mkF mM 1 #[.val (.int p1), .val (.int p2), .val (.int p3), .val (.int p4), .unset, .unset, .unset, .unset, .unset, .unset, .unset, .unset] [(.int p2)])) _
    refine XS.sipush X0.here hx rfl (hb hby at_1) ?_
    show Steps pP.tables eE below (s₁.setTop (mkF mM 4 #[.val (.int p1), .val (.int p2), .val (.int p3), .val (.int p4), .unset, .unset, .unset, .unset, .unset, .unset, .unset, .unset] [(.int (255 : Int32)), (.int p2)])) _
    refine XS.iand X0.here hx rfl (hb hby at_4) rfl ?_
    show Steps pP.tables eE below (s₁.setTop (mkF mM 5 #[.val (.int p1), .val (.int p2), .val (.int p3), .val (.int p4), .unset, .unset, .unset, .unset, .unset, .unset, .unset, .unset] [(.int (p2 &&& (255 : Int32)))])) _
    refine XS.iconst X0.here hx rfl (hb hby at_5) ?_
    show Steps pP.tables eE below (s₁.setTop (mkF mM 6 #[.val (.int p1), .val (.int p2), .val (.int p3), .val (.int p4), .unset, .unset, .unset, .unset, .unset, .unset, .unset, .unset] [(.int (1 : Int32)), (.int (p2 &&& (255 : Int32)))])) _
    refine XS.iadd X0.here hx rfl (hb hby at_6) rfl ?_
    show Steps pP.tables eE below (s₁.setTop (mkF mM 7 #[.val (.int p1), .val (.int p2), .val (.int p3), .val (.int p4), .unset, .unset, .unset, .unset, .unset, .unset, .unset, .unset] [(.int ((p2 &&& (255 : Int32)) + (1 : Int32)))])) _
    refine XS.istore X0.here hx rfl (hb hby at_7) rfl (l' := #[.val (.int p1), .val (.int p2), .val (.int p3), .val (.int p4), .val (.int ((p2 &&& (255 : Int32)) + (1 : Int32))), .unset, .unset, .unset, .unset, .unset, .unset, .unset]) rfl ?_
    show Steps pP.tables eE below (s₁.setTop (mkF mM 9 #[.val (.int p1), .val (.int p2), .val (.int p3), .val (.int p4), .val (.int ((p2 &&& (255 : Int32)) + (1 : Int32))), .unset, .unset, .unset, .unset, .unset, .unset, .unset] [])) _
    refine XS.iloadN X0.here hx rfl (hb hby at_9) rfl ?_
    show Steps pP.tables eE below (s₁.setTop (mkF mM 10 #[.val (.int p1), .val (.int p2), .val (.int p3), .val (.int p4), .val (.int ((p2 &&& (255 : Int32)) + (1 : Int32))), .unset, .unset, .unset, .unset, .unset, .unset, .unset] [(.int p1)])) _
    refine X0.ldcI hx hown (mvT hZ (hw _ (List.mem_of_getElem? (i := 0) rfl))) (g := (mkF mM 10 #[.val (.int p1), .val (.int p2), .val (.int p3), .val (.int p4), .val (.int ((p2 &&& (255 : Int32)) + (1 : Int32))), .unset, .unset, .unset, .unset, .unset, .unset, .unset] [(.int p1)])) rfl (hb hby at_10) ?_
    show Steps pP.tables eE below (s₁.setTop (mkF mM 12 #[.val (.int p1), .val (.int p2), .val (.int p3), .val (.int p4), .val (.int ((p2 &&& (255 : Int32)) + (1 : Int32))), .unset, .unset, .unset, .unset, .unset, .unset, .unset] [(.int (2147483647 : Int32)), (.int p1)])) _
    refine XS.iand X0.here hx rfl (hb hby at_12) rfl ?_
    show Steps pP.tables eE below (s₁.setTop (mkF mM 13 #[.val (.int p1), .val (.int p2), .val (.int p3), .val (.int p4), .val (.int ((p2 &&& (255 : Int32)) + (1 : Int32))), .unset, .unset, .unset, .unset, .unset, .unset, .unset] [(.int (p1 &&& (2147483647 : Int32)))])) _
    refine XS.iload X0.here hx rfl (hb hby at_13) rfl ?_
    show Steps pP.tables eE below (s₁.setTop (mkF mM 15 #[.val (.int p1), .val (.int p2), .val (.int p3), .val (.int p4), .val (.int ((p2 &&& (255 : Int32)) + (1 : Int32))), .unset, .unset, .unset, .unset, .unset, .unset, .unset] [(.int ((p2 &&& (255 : Int32)) + (1 : Int32))), (.int (p1 &&& (2147483647 : Int32)))])) _
    refine XS.iconst X0.here hx rfl (hb hby at_15) ?_
    show Steps pP.tables eE below (s₁.setTop (mkF mM 16 #[.val (.int p1), .val (.int p2), .val (.int p3), .val (.int p4), .val (.int ((p2 &&& (255 : Int32)) + (1 : Int32))), .unset, .unset, .unset, .unset, .unset, .unset, .unset] [(.int (1 : Int32)), (.int ((p2 &&& (255 : Int32)) + (1 : Int32))), (.int (p1 &&& (2147483647 : Int32)))])) _
    refine XS.iadd X0.here hx rfl (hb hby at_16) rfl ?_
    show Steps pP.tables eE below (s₁.setTop (mkF mM 17 #[.val (.int p1), .val (.int p2), .val (.int p3), .val (.int p4), .val (.int ((p2 &&& (255 : Int32)) + (1 : Int32))), .unset, .unset, .unset, .unset, .unset, .unset, .unset] [(.int (((p2 &&& (255 : Int32)) + (1 : Int32)) + (1 : Int32))), (.int (p1 &&& (2147483647 : Int32)))])) _
    refine iremM X0 hx rfl (hb hby at_17) rfl (own_nz p2) ?_
    show Steps pP.tables eE below (s₁.setTop (mkF mM 18 #[.val (.int p1), .val (.int p2), .val (.int p3), .val (.int p4), .val (.int ((p2 &&& (255 : Int32)) + (1 : Int32))), .unset, .unset, .unset, .unset, .unset, .unset, .unset] [(.int ((p1 &&& (2147483647 : Int32)) % (((p2 &&& (255 : Int32)) + (1 : Int32)) + (1 : Int32))))])) _
    refine XS.istore X0.here hx rfl (hb hby at_18) rfl (l' := #[.val (.int p1), .val (.int p2), .val (.int p3), .val (.int p4), .val (.int ((p2 &&& (255 : Int32)) + (1 : Int32))), .val (.int ((p1 &&& (2147483647 : Int32)) % (((p2 &&& (255 : Int32)) + (1 : Int32)) + (1 : Int32)))), .unset, .unset, .unset, .unset, .unset, .unset]) rfl ?_
    show Steps pP.tables eE below (s₁.setTop (mkF mM 20 #[.val (.int p1), .val (.int p2), .val (.int p3), .val (.int p4), .val (.int ((p2 &&& (255 : Int32)) + (1 : Int32))), .val (.int ((p1 &&& (2147483647 : Int32)) % (((p2 &&& (255 : Int32)) + (1 : Int32)) + (1 : Int32)))), .unset, .unset, .unset, .unset, .unset, .unset] [])) _
    refine XS.iload X0.here hx rfl (hb hby at_20) rfl ?_
    show Steps pP.tables eE below (s₁.setTop (mkF mM 22 #[.val (.int p1), .val (.int p2), .val (.int p3), .val (.int p4), .val (.int ((p2 &&& (255 : Int32)) + (1 : Int32))), .val (.int ((p1 &&& (2147483647 : Int32)) % (((p2 &&& (255 : Int32)) + (1 : Int32)) + (1 : Int32)))), .unset, .unset, .unset, .unset, .unset, .unset] [(.int ((p1 &&& (2147483647 : Int32)) % (((p2 &&& (255 : Int32)) + (1 : Int32)) + (1 : Int32))))])) _
    refine XS.i2dS X0.here hx rfl (hb hby at_22) rfl rfl ?_
    show Steps pP.tables eE below (s₁.setTop (mkF mM 23 #[.val (.int p1), .val (.int p2), .val (.int p3), .val (.int p4), .val (.int ((p2 &&& (255 : Int32)) + (1 : Int32))), .val (.int ((p1 &&& (2147483647 : Int32)) % (((p2 &&& (255 : Int32)) + (1 : Int32)) + (1 : Int32)))), .unset, .unset, .unset, .unset, .unset, .unset] [(.double (FP.i2d ((p1 &&& (2147483647 : Int32)) % (((p2 &&& (255 : Int32)) + (1 : Int32)) + (1 : Int32)))))])) _
    refine XS.iload X0.here hx rfl (hb hby at_23) rfl ?_
    show Steps pP.tables eE below (s₁.setTop (mkF mM 25 #[.val (.int p1), .val (.int p2), .val (.int p3), .val (.int p4), .val (.int ((p2 &&& (255 : Int32)) + (1 : Int32))), .val (.int ((p1 &&& (2147483647 : Int32)) % (((p2 &&& (255 : Int32)) + (1 : Int32)) + (1 : Int32)))), .unset, .unset, .unset, .unset, .unset, .unset] [(.int ((p2 &&& (255 : Int32)) + (1 : Int32))), (.double (FP.i2d ((p1 &&& (2147483647 : Int32)) % (((p2 &&& (255 : Int32)) + (1 : Int32)) + (1 : Int32)))))])) _
    refine XS.i2dS X0.here hx rfl (hb hby at_25) rfl rfl ?_
    show Steps pP.tables eE below (s₁.setTop (mkF mM 26 #[.val (.int p1), .val (.int p2), .val (.int p3), .val (.int p4), .val (.int ((p2 &&& (255 : Int32)) + (1 : Int32))), .val (.int ((p1 &&& (2147483647 : Int32)) % (((p2 &&& (255 : Int32)) + (1 : Int32)) + (1 : Int32)))), .unset, .unset, .unset, .unset, .unset, .unset] [(.double (FP.i2d ((p2 &&& (255 : Int32)) + (1 : Int32)))), (.double (FP.i2d ((p1 &&& (2147483647 : Int32)) % (((p2 &&& (255 : Int32)) + (1 : Int32)) + (1 : Int32)))))])) _
    refine XS.ddivS X0.here hx rfl (hb hby at_26) rfl (own_val (own_q p1 p2)) rfl ?_
    show Steps pP.tables eE below (s₁.setTop (mkF mM 27 #[.val (.int p1), .val (.int p2), .val (.int p3), .val (.int p4), .val (.int ((p2 &&& (255 : Int32)) + (1 : Int32))), .val (.int ((p1 &&& (2147483647 : Int32)) % (((p2 &&& (255 : Int32)) + (1 : Int32)) + (1 : Int32)))), .unset, .unset, .unset, .unset, .unset, .unset] [(.double (FP.ddiv (FP.i2d ((p1 &&& (2147483647 : Int32)) % (((p2 &&& (255 : Int32)) + (1 : Int32)) + (1 : Int32)))) (FP.i2d ((p2 &&& (255 : Int32)) + (1 : Int32)))))])) _
    refine XS.dstore X0.here hx rfl (hb hby at_27) rfl (l' := #[.val (.int p1), .val (.int p2), .val (.int p3), .val (.int p4), .val (.int ((p2 &&& (255 : Int32)) + (1 : Int32))), .val (.int ((p1 &&& (2147483647 : Int32)) % (((p2 &&& (255 : Int32)) + (1 : Int32)) + (1 : Int32)))), .val (.double (FP.ddiv (FP.i2d ((p1 &&& (2147483647 : Int32)) % (((p2 &&& (255 : Int32)) + (1 : Int32)) + (1 : Int32)))) (FP.i2d ((p2 &&& (255 : Int32)) + (1 : Int32))))), .second, .unset, .unset, .unset, .unset]) rfl ?_
    show Steps pP.tables eE below (s₁.setTop (mkF mM 29 #[.val (.int p1), .val (.int p2), .val (.int p3), .val (.int p4), .val (.int ((p2 &&& (255 : Int32)) + (1 : Int32))), .val (.int ((p1 &&& (2147483647 : Int32)) % (((p2 &&& (255 : Int32)) + (1 : Int32)) + (1 : Int32)))), .val (.double (FP.ddiv (FP.i2d ((p1 &&& (2147483647 : Int32)) % (((p2 &&& (255 : Int32)) + (1 : Int32)) + (1 : Int32)))) (FP.i2d ((p2 &&& (255 : Int32)) + (1 : Int32))))), .second, .unset, .unset, .unset, .unset] [])) _
    refine XS.iconst X0.here hx rfl (hb hby at_29) ?_
    show Steps pP.tables eE below (s₁.setTop (mkF mM 30 #[.val (.int p1), .val (.int p2), .val (.int p3), .val (.int p4), .val (.int ((p2 &&& (255 : Int32)) + (1 : Int32))), .val (.int ((p1 &&& (2147483647 : Int32)) % (((p2 &&& (255 : Int32)) + (1 : Int32)) + (1 : Int32)))), .val (.double (FP.ddiv (FP.i2d ((p1 &&& (2147483647 : Int32)) % (((p2 &&& (255 : Int32)) + (1 : Int32)) + (1 : Int32)))) (FP.i2d ((p2 &&& (255 : Int32)) + (1 : Int32))))), .second, .unset, .unset, .unset, .unset] [(.int (2 : Int32))])) _
    refine st_1 _ ?_
    show Steps pP.tables eE below (T_1.setTop (mkF mM 32 #[.val (.int p1), .val (.int p2), .val (.int p3), .val (.int p4), .val (.int ((p2 &&& (255 : Int32)) + (1 : Int32))), .val (.int ((p1 &&& (2147483647 : Int32)) % (((p2 &&& (255 : Int32)) + (1 : Int32)) + (1 : Int32)))), .val (.double (FP.ddiv (FP.i2d ((p1 &&& (2147483647 : Int32)) % (((p2 &&& (255 : Int32)) + (1 : Int32)) + (1 : Int32)))) (FP.i2d ((p2 &&& (255 : Int32)) + (1 : Int32))))), .second, .unset, .unset, .unset, .unset] [(.ref b_1)])) _
    refine XS.astore X_1.here hx rfl (hb hby at_32) rfl rfl (l' := #[.val (.int p1), .val (.int p2), .val (.int p3), .val (.int p4), .val (.int ((p2 &&& (255 : Int32)) + (1 : Int32))), .val (.int ((p1 &&& (2147483647 : Int32)) % (((p2 &&& (255 : Int32)) + (1 : Int32)) + (1 : Int32)))), .val (.double (FP.ddiv (FP.i2d ((p1 &&& (2147483647 : Int32)) % (((p2 &&& (255 : Int32)) + (1 : Int32)) + (1 : Int32)))) (FP.i2d ((p2 &&& (255 : Int32)) + (1 : Int32))))), .second, .val (.ref b_1), .unset, .unset, .unset]) rfl ?_
    show Steps pP.tables eE below (T_1.setTop (mkF mM 34 #[.val (.int p1), .val (.int p2), .val (.int p3), .val (.int p4), .val (.int ((p2 &&& (255 : Int32)) + (1 : Int32))), .val (.int ((p1 &&& (2147483647 : Int32)) % (((p2 &&& (255 : Int32)) + (1 : Int32)) + (1 : Int32)))), .val (.double (FP.ddiv (FP.i2d ((p1 &&& (2147483647 : Int32)) % (((p2 &&& (255 : Int32)) + (1 : Int32)) + (1 : Int32)))) (FP.i2d ((p2 &&& (255 : Int32)) + (1 : Int32))))), .second, .val (.ref b_1), .unset, .unset, .unset] [])) _
    refine XS.aload X_1.here hx rfl (hb hby at_34) rfl rfl ?_
    show Steps pP.tables eE below (T_1.setTop (mkF mM 36 #[.val (.int p1), .val (.int p2), .val (.int p3), .val (.int p4), .val (.int ((p2 &&& (255 : Int32)) + (1 : Int32))), .val (.int ((p1 &&& (2147483647 : Int32)) % (((p2 &&& (255 : Int32)) + (1 : Int32)) + (1 : Int32)))), .val (.double (FP.ddiv (FP.i2d ((p1 &&& (2147483647 : Int32)) % (((p2 &&& (255 : Int32)) + (1 : Int32)) + (1 : Int32)))) (FP.i2d ((p2 &&& (255 : Int32)) + (1 : Int32))))), .second, .val (.ref b_1), .unset, .unset, .unset] [(.ref b_1)])) _
    refine XS.iconst X_1.here hx rfl (hb hby at_36) ?_
    show Steps pP.tables eE below (T_1.setTop (mkF mM 37 #[.val (.int p1), .val (.int p2), .val (.int p3), .val (.int p4), .val (.int ((p2 &&& (255 : Int32)) + (1 : Int32))), .val (.int ((p1 &&& (2147483647 : Int32)) % (((p2 &&& (255 : Int32)) + (1 : Int32)) + (1 : Int32)))), .val (.double (FP.ddiv (FP.i2d ((p1 &&& (2147483647 : Int32)) % (((p2 &&& (255 : Int32)) + (1 : Int32)) + (1 : Int32)))) (FP.i2d ((p2 &&& (255 : Int32)) + (1 : Int32))))), .second, .val (.ref b_1), .unset, .unset, .unset] [(.int (0 : Int32)), (.ref b_1)])) _
    refine XS.iloadN X_1.here hx rfl (hb hby at_37) rfl ?_
    show Steps pP.tables eE below (T_1.setTop (mkF mM 38 #[.val (.int p1), .val (.int p2), .val (.int p3), .val (.int p4), .val (.int ((p2 &&& (255 : Int32)) + (1 : Int32))), .val (.int ((p1 &&& (2147483647 : Int32)) % (((p2 &&& (255 : Int32)) + (1 : Int32)) + (1 : Int32)))), .val (.double (FP.ddiv (FP.i2d ((p1 &&& (2147483647 : Int32)) % (((p2 &&& (255 : Int32)) + (1 : Int32)) + (1 : Int32)))) (FP.i2d ((p2 &&& (255 : Int32)) + (1 : Int32))))), .second, .val (.ref b_1), .unset, .unset, .unset] [(.int p3), (.int (0 : Int32)), (.ref b_1)])) _
    refine XS.sipush X_1.here hx rfl (hb hby at_38) ?_
    show Steps pP.tables eE below (T_1.setTop (mkF mM 41 #[.val (.int p1), .val (.int p2), .val (.int p3), .val (.int p4), .val (.int ((p2 &&& (255 : Int32)) + (1 : Int32))), .val (.int ((p1 &&& (2147483647 : Int32)) % (((p2 &&& (255 : Int32)) + (1 : Int32)) + (1 : Int32)))), .val (.double (FP.ddiv (FP.i2d ((p1 &&& (2147483647 : Int32)) % (((p2 &&& (255 : Int32)) + (1 : Int32)) + (1 : Int32)))) (FP.i2d ((p2 &&& (255 : Int32)) + (1 : Int32))))), .second, .val (.ref b_1), .unset, .unset, .unset] [(.int (255 : Int32)), (.int p3), (.int (0 : Int32)), (.ref b_1)])) _
    refine XS.iand X_1.here hx rfl (hb hby at_41) rfl ?_
    show Steps pP.tables eE below (T_1.setTop (mkF mM 42 #[.val (.int p1), .val (.int p2), .val (.int p3), .val (.int p4), .val (.int ((p2 &&& (255 : Int32)) + (1 : Int32))), .val (.int ((p1 &&& (2147483647 : Int32)) % (((p2 &&& (255 : Int32)) + (1 : Int32)) + (1 : Int32)))), .val (.double (FP.ddiv (FP.i2d ((p1 &&& (2147483647 : Int32)) % (((p2 &&& (255 : Int32)) + (1 : Int32)) + (1 : Int32)))) (FP.i2d ((p2 &&& (255 : Int32)) + (1 : Int32))))), .second, .val (.ref b_1), .unset, .unset, .unset] [(.int (p3 &&& (255 : Int32))), (.int (0 : Int32)), (.ref b_1)])) _
    refine XT.i2c X_1.here hx rfl (hb hby at_42) rfl ?_
    show Steps pP.tables eE below (T_1.setTop (mkF mM 43 #[.val (.int p1), .val (.int p2), .val (.int p3), .val (.int p4), .val (.int ((p2 &&& (255 : Int32)) + (1 : Int32))), .val (.int ((p1 &&& (2147483647 : Int32)) % (((p2 &&& (255 : Int32)) + (1 : Int32)) + (1 : Int32)))), .val (.double (FP.ddiv (FP.i2d ((p1 &&& (2147483647 : Int32)) % (((p2 &&& (255 : Int32)) + (1 : Int32)) + (1 : Int32)))) (FP.i2d ((p2 &&& (255 : Int32)) + (1 : Int32))))), .second, .val (.ref b_1), .unset, .unset, .unset] [(.int ((p3 &&& (255 : Int32)).toUInt32.toUInt16.toUInt32.toInt32)), (.int (0 : Int32)), (.ref b_1)])) _
    refine st_2 _ ?_
    show Steps pP.tables eE below (T_2.setTop (mkF mM 44 #[.val (.int p1), .val (.int p2), .val (.int p3), .val (.int p4), .val (.int ((p2 &&& (255 : Int32)) + (1 : Int32))), .val (.int ((p1 &&& (2147483647 : Int32)) % (((p2 &&& (255 : Int32)) + (1 : Int32)) + (1 : Int32)))), .val (.double (FP.ddiv (FP.i2d ((p1 &&& (2147483647 : Int32)) % (((p2 &&& (255 : Int32)) + (1 : Int32)) + (1 : Int32)))) (FP.i2d ((p2 &&& (255 : Int32)) + (1 : Int32))))), .second, .val (.ref b_1), .unset, .unset, .unset] [])) _
    refine XS.aload X_2.here hx rfl (hb hby at_44) rfl rfl ?_
    show Steps pP.tables eE below (T_2.setTop (mkF mM 46 #[.val (.int p1), .val (.int p2), .val (.int p3), .val (.int p4), .val (.int ((p2 &&& (255 : Int32)) + (1 : Int32))), .val (.int ((p1 &&& (2147483647 : Int32)) % (((p2 &&& (255 : Int32)) + (1 : Int32)) + (1 : Int32)))), .val (.double (FP.ddiv (FP.i2d ((p1 &&& (2147483647 : Int32)) % (((p2 &&& (255 : Int32)) + (1 : Int32)) + (1 : Int32)))) (FP.i2d ((p2 &&& (255 : Int32)) + (1 : Int32))))), .second, .val (.ref b_1), .unset, .unset, .unset] [(.ref b_1)])) _
    refine XS.iconst X_2.here hx rfl (hb hby at_46) ?_
    show Steps pP.tables eE below (T_2.setTop (mkF mM 47 #[.val (.int p1), .val (.int p2), .val (.int p3), .val (.int p4), .val (.int ((p2 &&& (255 : Int32)) + (1 : Int32))), .val (.int ((p1 &&& (2147483647 : Int32)) % (((p2 &&& (255 : Int32)) + (1 : Int32)) + (1 : Int32)))), .val (.double (FP.ddiv (FP.i2d ((p1 &&& (2147483647 : Int32)) % (((p2 &&& (255 : Int32)) + (1 : Int32)) + (1 : Int32)))) (FP.i2d ((p2 &&& (255 : Int32)) + (1 : Int32))))), .second, .val (.ref b_1), .unset, .unset, .unset] [(.int (1 : Int32)), (.ref b_1)])) _
    refine XS.iloadN X_2.here hx rfl (hb hby at_47) rfl ?_
    show Steps pP.tables eE below (T_2.setTop (mkF mM 48 #[.val (.int p1), .val (.int p2), .val (.int p3), .val (.int p4), .val (.int ((p2 &&& (255 : Int32)) + (1 : Int32))), .val (.int ((p1 &&& (2147483647 : Int32)) % (((p2 &&& (255 : Int32)) + (1 : Int32)) + (1 : Int32)))), .val (.double (FP.ddiv (FP.i2d ((p1 &&& (2147483647 : Int32)) % (((p2 &&& (255 : Int32)) + (1 : Int32)) + (1 : Int32)))) (FP.i2d ((p2 &&& (255 : Int32)) + (1 : Int32))))), .second, .val (.ref b_1), .unset, .unset, .unset] [(.int p3), (.int (1 : Int32)), (.ref b_1)])) _
    refine XS.bipush X_2.here hx rfl (hb hby at_48) ?_
    show Steps pP.tables eE below (T_2.setTop (mkF mM 50 #[.val (.int p1), .val (.int p2), .val (.int p3), .val (.int p4), .val (.int ((p2 &&& (255 : Int32)) + (1 : Int32))), .val (.int ((p1 &&& (2147483647 : Int32)) % (((p2 &&& (255 : Int32)) + (1 : Int32)) + (1 : Int32)))), .val (.double (FP.ddiv (FP.i2d ((p1 &&& (2147483647 : Int32)) % (((p2 &&& (255 : Int32)) + (1 : Int32)) + (1 : Int32)))) (FP.i2d ((p2 &&& (255 : Int32)) + (1 : Int32))))), .second, .val (.ref b_1), .unset, .unset, .unset] [(.int (8 : Int32)), (.int p3), (.int (1 : Int32)), (.ref b_1)])) _
    refine XT.iushr X_2.here hx rfl (hb hby at_50) rfl ?_
    show Steps pP.tables eE below (T_2.setTop (mkF mM 51 #[.val (.int p1), .val (.int p2), .val (.int p3), .val (.int p4), .val (.int ((p2 &&& (255 : Int32)) + (1 : Int32))), .val (.int ((p1 &&& (2147483647 : Int32)) % (((p2 &&& (255 : Int32)) + (1 : Int32)) + (1 : Int32)))), .val (.double (FP.ddiv (FP.i2d ((p1 &&& (2147483647 : Int32)) % (((p2 &&& (255 : Int32)) + (1 : Int32)) + (1 : Int32)))) (FP.i2d ((p2 &&& (255 : Int32)) + (1 : Int32))))), .second, .val (.ref b_1), .unset, .unset, .unset] [(.int (XT.ushr p3 (8 : Int32))), (.int (1 : Int32)), (.ref b_1)])) _
    refine XS.sipush X_2.here hx rfl (hb hby at_51) ?_
    show Steps pP.tables eE below (T_2.setTop (mkF mM 54 #[.val (.int p1), .val (.int p2), .val (.int p3), .val (.int p4), .val (.int ((p2 &&& (255 : Int32)) + (1 : Int32))), .val (.int ((p1 &&& (2147483647 : Int32)) % (((p2 &&& (255 : Int32)) + (1 : Int32)) + (1 : Int32)))), .val (.double (FP.ddiv (FP.i2d ((p1 &&& (2147483647 : Int32)) % (((p2 &&& (255 : Int32)) + (1 : Int32)) + (1 : Int32)))) (FP.i2d ((p2 &&& (255 : Int32)) + (1 : Int32))))), .second, .val (.ref b_1), .unset, .unset, .unset] [(.int (255 : Int32)), (.int (XT.ushr p3 (8 : Int32))), (.int (1 : Int32)), (.ref b_1)])) _
    refine XS.iand X_2.here hx rfl (hb hby at_54) rfl ?_
    show Steps pP.tables eE below (T_2.setTop (mkF mM 55 #[.val (.int p1), .val (.int p2), .val (.int p3), .val (.int p4), .val (.int ((p2 &&& (255 : Int32)) + (1 : Int32))), .val (.int ((p1 &&& (2147483647 : Int32)) % (((p2 &&& (255 : Int32)) + (1 : Int32)) + (1 : Int32)))), .val (.double (FP.ddiv (FP.i2d ((p1 &&& (2147483647 : Int32)) % (((p2 &&& (255 : Int32)) + (1 : Int32)) + (1 : Int32)))) (FP.i2d ((p2 &&& (255 : Int32)) + (1 : Int32))))), .second, .val (.ref b_1), .unset, .unset, .unset] [(.int ((XT.ushr p3 (8 : Int32)) &&& (255 : Int32))), (.int (1 : Int32)), (.ref b_1)])) _
    refine XT.i2c X_2.here hx rfl (hb hby at_55) rfl ?_
    show Steps pP.tables eE below (T_2.setTop (mkF mM 56 #[.val (.int p1), .val (.int p2), .val (.int p3), .val (.int p4), .val (.int ((p2 &&& (255 : Int32)) + (1 : Int32))), .val (.int ((p1 &&& (2147483647 : Int32)) % (((p2 &&& (255 : Int32)) + (1 : Int32)) + (1 : Int32)))), .val (.double (FP.ddiv (FP.i2d ((p1 &&& (2147483647 : Int32)) % (((p2 &&& (255 : Int32)) + (1 : Int32)) + (1 : Int32)))) (FP.i2d ((p2 &&& (255 : Int32)) + (1 : Int32))))), .second, .val (.ref b_1), .unset, .unset, .unset] [(.int (((XT.ushr p3 (8 : Int32)) &&& (255 : Int32)).toUInt32.toUInt16.toUInt32.toInt32)), (.int (1 : Int32)), (.ref b_1)])) _
    refine st_3 _ ?_
    show Steps pP.tables eE below (T_3.setTop (mkF mM 57 #[.val (.int p1), .val (.int p2), .val (.int p3), .val (.int p4), .val (.int ((p2 &&& (255 : Int32)) + (1 : Int32))), .val (.int ((p1 &&& (2147483647 : Int32)) % (((p2 &&& (255 : Int32)) + (1 : Int32)) + (1 : Int32)))), .val (.double (FP.ddiv (FP.i2d ((p1 &&& (2147483647 : Int32)) % (((p2 &&& (255 : Int32)) + (1 : Int32)) + (1 : Int32)))) (FP.i2d ((p2 &&& (255 : Int32)) + (1 : Int32))))), .second, .val (.ref b_1), .unset, .unset, .unset] [])) _
    refine st_4 _ ?_
    show Steps pP.tables eE below (T_4.setTop (mkF mM 60 #[.val (.int p1), .val (.int p2), .val (.int p3), .val (.int p4), .val (.int ((p2 &&& (255 : Int32)) + (1 : Int32))), .val (.int ((p1 &&& (2147483647 : Int32)) % (((p2 &&& (255 : Int32)) + (1 : Int32)) + (1 : Int32)))), .val (.double (FP.ddiv (FP.i2d ((p1 &&& (2147483647 : Int32)) % (((p2 &&& (255 : Int32)) + (1 : Int32)) + (1 : Int32)))) (FP.i2d ((p2 &&& (255 : Int32)) + (1 : Int32))))), .second, .val (.ref b_1), .unset, .unset, .unset] [(.ref b_4)])) _
    refine XS.dup X_4.here hx rfl (hb hby at_60) rfl rfl ?_
    show Steps pP.tables eE below (T_4.setTop (mkF mM 61 #[.val (.int p1), .val (.int p2), .val (.int p3), .val (.int p4), .val (.int ((p2 &&& (255 : Int32)) + (1 : Int32))), .val (.int ((p1 &&& (2147483647 : Int32)) % (((p2 &&& (255 : Int32)) + (1 : Int32)) + (1 : Int32)))), .val (.double (FP.ddiv (FP.i2d ((p1 &&& (2147483647 : Int32)) % (((p2 &&& (255 : Int32)) + (1 : Int32)) + (1 : Int32)))) (FP.i2d ((p2 &&& (255 : Int32)) + (1 : Int32))))), .second, .val (.ref b_1), .unset, .unset, .unset] [(.ref b_4), (.ref b_4)])) _
    refine XS.aload X_4.here hx rfl (hb hby at_61) rfl rfl ?_
    show Steps pP.tables eE below (T_4.setTop (mkF mM 63 #[.val (.int p1), .val (.int p2), .val (.int p3), .val (.int p4), .val (.int ((p2 &&& (255 : Int32)) + (1 : Int32))), .val (.int ((p1 &&& (2147483647 : Int32)) % (((p2 &&& (255 : Int32)) + (1 : Int32)) + (1 : Int32)))), .val (.double (FP.ddiv (FP.i2d ((p1 &&& (2147483647 : Int32)) % (((p2 &&& (255 : Int32)) + (1 : Int32)) + (1 : Int32)))) (FP.i2d ((p2 &&& (255 : Int32)) + (1 : Int32))))), .second, .val (.ref b_1), .unset, .unset, .unset] [(.ref b_1), (.ref b_4), (.ref b_4)])) _
    refine st_5.trans ?_
    show Steps pP.tables eE below (T_5.setTop (mkF mM 66 #[.val (.int p1), .val (.int p2), .val (.int p3), .val (.int p4), .val (.int ((p2 &&& (255 : Int32)) + (1 : Int32))), .val (.int ((p1 &&& (2147483647 : Int32)) % (((p2 &&& (255 : Int32)) + (1 : Int32)) + (1 : Int32)))), .val (.double (FP.ddiv (FP.i2d ((p1 &&& (2147483647 : Int32)) % (((p2 &&& (255 : Int32)) + (1 : Int32)) + (1 : Int32)))) (FP.i2d ((p2 &&& (255 : Int32)) + (1 : Int32))))), .second, .val (.ref b_1), .unset, .unset, .unset] [(.ref b_4)])) _
    refine XS.astore X_5.here hx rfl (hb hby at_66) rfl rfl (l' := #[.val (.int p1), .val (.int p2), .val (.int p3), .val (.int p4), .val (.int ((p2 &&& (255 : Int32)) + (1 : Int32))), .val (.int ((p1 &&& (2147483647 : Int32)) % (((p2 &&& (255 : Int32)) + (1 : Int32)) + (1 : Int32)))), .val (.double (FP.ddiv (FP.i2d ((p1 &&& (2147483647 : Int32)) % (((p2 &&& (255 : Int32)) + (1 : Int32)) + (1 : Int32)))) (FP.i2d ((p2 &&& (255 : Int32)) + (1 : Int32))))), .second, .val (.ref b_1), .val (.ref b_4), .unset, .unset]) rfl ?_
    show Steps pP.tables eE below (T_5.setTop (mkF mM 68 #[.val (.int p1), .val (.int p2), .val (.int p3), .val (.int p4), .val (.int ((p2 &&& (255 : Int32)) + (1 : Int32))), .val (.int ((p1 &&& (2147483647 : Int32)) % (((p2 &&& (255 : Int32)) + (1 : Int32)) + (1 : Int32)))), .val (.double (FP.ddiv (FP.i2d ((p1 &&& (2147483647 : Int32)) % (((p2 &&& (255 : Int32)) + (1 : Int32)) + (1 : Int32)))) (FP.i2d ((p2 &&& (255 : Int32)) + (1 : Int32))))), .second, .val (.ref b_1), .val (.ref b_4), .unset, .unset] [])) _
    refine XS.iloadN X_5.here hx rfl (hb hby at_68) rfl ?_
    show Steps pP.tables eE below (T_5.setTop (mkF mM 69 #[.val (.int p1), .val (.int p2), .val (.int p3), .val (.int p4), .val (.int ((p2 &&& (255 : Int32)) + (1 : Int32))), .val (.int ((p1 &&& (2147483647 : Int32)) % (((p2 &&& (255 : Int32)) + (1 : Int32)) + (1 : Int32)))), .val (.double (FP.ddiv (FP.i2d ((p1 &&& (2147483647 : Int32)) % (((p2 &&& (255 : Int32)) + (1 : Int32)) + (1 : Int32)))) (FP.i2d ((p2 &&& (255 : Int32)) + (1 : Int32))))), .second, .val (.ref b_1), .val (.ref b_4), .unset, .unset] [(.int p4)])) _
    refine XS.iconst X_5.here hx rfl (hb hby at_69) ?_
    show Steps pP.tables eE below (T_5.setTop (mkF mM 70 #[.val (.int p1), .val (.int p2), .val (.int p3), .val (.int p4), .val (.int ((p2 &&& (255 : Int32)) + (1 : Int32))), .val (.int ((p1 &&& (2147483647 : Int32)) % (((p2 &&& (255 : Int32)) + (1 : Int32)) + (1 : Int32)))), .val (.double (FP.ddiv (FP.i2d ((p1 &&& (2147483647 : Int32)) % (((p2 &&& (255 : Int32)) + (1 : Int32)) + (1 : Int32)))) (FP.i2d ((p2 &&& (255 : Int32)) + (1 : Int32))))), .second, .val (.ref b_1), .val (.ref b_4), .unset, .unset] [(.int (1 : Int32)), (.int p4)])) _
    refine XS.iand X_5.here hx rfl (hb hby at_70) rfl ?_
    show Steps pP.tables eE below (T_5.setTop (mkF mM 71 #[.val (.int p1), .val (.int p2), .val (.int p3), .val (.int p4), .val (.int ((p2 &&& (255 : Int32)) + (1 : Int32))), .val (.int ((p1 &&& (2147483647 : Int32)) % (((p2 &&& (255 : Int32)) + (1 : Int32)) + (1 : Int32)))), .val (.double (FP.ddiv (FP.i2d ((p1 &&& (2147483647 : Int32)) % (((p2 &&& (255 : Int32)) + (1 : Int32)) + (1 : Int32)))) (FP.i2d ((p2 &&& (255 : Int32)) + (1 : Int32))))), .second, .val (.ref b_1), .val (.ref b_4), .unset, .unset] [(.int (p4 &&& (1 : Int32)))])) _
    refine XS.ifNo X_5.here hx rfl (hb hby at_71) rfl (XT.i0_eq_f hf) ?_
    show Steps pP.tables eE below (T_5.setTop (mkF mM 74 #[.val (.int p1), .val (.int p2), .val (.int p3), .val (.int p4), .val (.int ((p2 &&& (255 : Int32)) + (1 : Int32))), .val (.int ((p1 &&& (2147483647 : Int32)) % (((p2 &&& (255 : Int32)) + (1 : Int32)) + (1 : Int32)))), .val (.double (FP.ddiv (FP.i2d ((p1 &&& (2147483647 : Int32)) % (((p2 &&& (255 : Int32)) + (1 : Int32)) + (1 : Int32)))) (FP.i2d ((p2 &&& (255 : Int32)) + (1 : Int32))))), .second, .val (.ref b_1), .val (.ref b_4), .unset, .unset] [])) _
    refine XS.iloadN X_5.here hx rfl (hb hby at_74) rfl ?_
    show Steps pP.tables eE below (T_5.setTop (mkF mM 75 #[.val (.int p1), .val (.int p2), .val (.int p3), .val (.int p4), .val (.int ((p2 &&& (255 : Int32)) + (1 : Int32))), .val (.int ((p1 &&& (2147483647 : Int32)) % (((p2 &&& (255 : Int32)) + (1 : Int32)) + (1 : Int32)))), .val (.double (FP.ddiv (FP.i2d ((p1 &&& (2147483647 : Int32)) % (((p2 &&& (255 : Int32)) + (1 : Int32)) + (1 : Int32)))) (FP.i2d ((p2 &&& (255 : Int32)) + (1 : Int32))))), .second, .val (.ref b_1), .val (.ref b_4), .unset, .unset] [(.int p3)])) _
    refine XS.bipush X_5.here hx rfl (hb hby at_75) ?_
    show Steps pP.tables eE below (T_5.setTop (mkF mM 77 #[.val (.int p1), .val (.int p2), .val (.int p3), .val (.int p4), .val (.int ((p2 &&& (255 : Int32)) + (1 : Int32))), .val (.int ((p1 &&& (2147483647 : Int32)) % (((p2 &&& (255 : Int32)) + (1 : Int32)) + (1 : Int32)))), .val (.double (FP.ddiv (FP.i2d ((p1 &&& (2147483647 : Int32)) % (((p2 &&& (255 : Int32)) + (1 : Int32)) + (1 : Int32)))) (FP.i2d ((p2 &&& (255 : Int32)) + (1 : Int32))))), .second, .val (.ref b_1), .val (.ref b_4), .unset, .unset] [(.int (16 : Int32)), (.int p3)])) _
    refine XT.iushr X_5.here hx rfl (hb hby at_77) rfl ?_
    show Steps pP.tables eE below (T_5.setTop (mkF mM 78 #[.val (.int p1), .val (.int p2), .val (.int p3), .val (.int p4), .val (.int ((p2 &&& (255 : Int32)) + (1 : Int32))), .val (.int ((p1 &&& (2147483647 : Int32)) % (((p2 &&& (255 : Int32)) + (1 : Int32)) + (1 : Int32)))), .val (.double (FP.ddiv (FP.i2d ((p1 &&& (2147483647 : Int32)) % (((p2 &&& (255 : Int32)) + (1 : Int32)) + (1 : Int32)))) (FP.i2d ((p2 &&& (255 : Int32)) + (1 : Int32))))), .second, .val (.ref b_1), .val (.ref b_4), .unset, .unset] [(.int (XT.ushr p3 (16 : Int32)))])) _
    refine XS.sipush X_5.here hx rfl (hb hby at_78) ?_
    show Steps pP.tables eE below (T_5.setTop (mkF mM 81 #[.val (.int p1), .val (.int p2), .val (.int p3), .val (.int p4), .val (.int ((p2 &&& (255 : Int32)) + (1 : Int32))), .val (.int ((p1 &&& (2147483647 : Int32)) % (((p2 &&& (255 : Int32)) + (1 : Int32)) + (1 : Int32)))), .val (.double (FP.ddiv (FP.i2d ((p1 &&& (2147483647 : Int32)) % (((p2 &&& (255 : Int32)) + (1 : Int32)) + (1 : Int32)))) (FP.i2d ((p2 &&& (255 : Int32)) + (1 : Int32))))), .second, .val (.ref b_1), .val (.ref b_4), .unset, .unset] [(.int (255 : Int32)), (.int (XT.ushr p3 (16 : Int32)))])) _
    refine XS.iand X_5.here hx rfl (hb hby at_81) rfl ?_
    show Steps pP.tables eE below (T_5.setTop (mkF mM 82 #[.val (.int p1), .val (.int p2), .val (.int p3), .val (.int p4), .val (.int ((p2 &&& (255 : Int32)) + (1 : Int32))), .val (.int ((p1 &&& (2147483647 : Int32)) % (((p2 &&& (255 : Int32)) + (1 : Int32)) + (1 : Int32)))), .val (.double (FP.ddiv (FP.i2d ((p1 &&& (2147483647 : Int32)) % (((p2 &&& (255 : Int32)) + (1 : Int32)) + (1 : Int32)))) (FP.i2d ((p2 &&& (255 : Int32)) + (1 : Int32))))), .second, .val (.ref b_1), .val (.ref b_4), .unset, .unset] [(.int ((XT.ushr p3 (16 : Int32)) &&& (255 : Int32)))])) _
    refine XT.i2c X_5.here hx rfl (hb hby at_82) rfl ?_
    show Steps pP.tables eE below (T_5.setTop (mkF mM 83 #[.val (.int p1), .val (.int p2), .val (.int p3), .val (.int p4), .val (.int ((p2 &&& (255 : Int32)) + (1 : Int32))), .val (.int ((p1 &&& (2147483647 : Int32)) % (((p2 &&& (255 : Int32)) + (1 : Int32)) + (1 : Int32)))), .val (.double (FP.ddiv (FP.i2d ((p1 &&& (2147483647 : Int32)) % (((p2 &&& (255 : Int32)) + (1 : Int32)) + (1 : Int32)))) (FP.i2d ((p2 &&& (255 : Int32)) + (1 : Int32))))), .second, .val (.ref b_1), .val (.ref b_4), .unset, .unset] [(.int (((XT.ushr p3 (16 : Int32)) &&& (255 : Int32)).toUInt32.toUInt16.toUInt32.toInt32))])) _
    refine st_6 _ ?_
    show Steps pP.tables eE below (T_6.setTop (mkF mM 86 #[.val (.int p1), .val (.int p2), .val (.int p3), .val (.int p4), .val (.int ((p2 &&& (255 : Int32)) + (1 : Int32))), .val (.int ((p1 &&& (2147483647 : Int32)) % (((p2 &&& (255 : Int32)) + (1 : Int32)) + (1 : Int32)))), .val (.double (FP.ddiv (FP.i2d ((p1 &&& (2147483647 : Int32)) % (((p2 &&& (255 : Int32)) + (1 : Int32)) + (1 : Int32)))) (FP.i2d ((p2 &&& (255 : Int32)) + (1 : Int32))))), .second, .val (.ref b_1), .val (.ref b_4), .unset, .unset] [(.ref b__6)])) _
    refine XS.astore X_6.here hx rfl (hb hby at_86) rfl rfl (l' := #[.val (.int p1), .val (.int p2), .val (.int p3), .val (.int p4), .val (.int ((p2 &&& (255 : Int32)) + (1 : Int32))), .val (.int ((p1 &&& (2147483647 : Int32)) % (((p2 &&& (255 : Int32)) + (1 : Int32)) + (1 : Int32)))), .val (.double (FP.ddiv (FP.i2d ((p1 &&& (2147483647 : Int32)) % (((p2 &&& (255 : Int32)) + (1 : Int32)) + (1 : Int32)))) (FP.i2d ((p2 &&& (255 : Int32)) + (1 : Int32))))), .second, .val (.ref b_1), .val (.ref b__6), .unset, .unset]) rfl ?_
    show Steps pP.tables eE below (T_6.setTop (mkF mM 88 #[.val (.int p1), .val (.int p2), .val (.int p3), .val (.int p4), .val (.int ((p2 &&& (255 : Int32)) + (1 : Int32))), .val (.int ((p1 &&& (2147483647 : Int32)) % (((p2 &&& (255 : Int32)) + (1 : Int32)) + (1 : Int32)))), .val (.double (FP.ddiv (FP.i2d ((p1 &&& (2147483647 : Int32)) % (((p2 &&& (255 : Int32)) + (1 : Int32)) + (1 : Int32)))) (FP.i2d ((p2 &&& (255 : Int32)) + (1 : Int32))))), .second, .val (.ref b_1), .val (.ref b__6), .unset, .unset] [])) _
    refine XS.aload X_6.here hx rfl (hb hby at_88) rfl rfl ?_
    show Steps pP.tables eE below (T_6.setTop (mkF mM 90 #[.val (.int p1), .val (.int p2), .val (.int p3), .val (.int p4), .val (.int ((p2 &&& (255 : Int32)) + (1 : Int32))), .val (.int ((p1 &&& (2147483647 : Int32)) % (((p2 &&& (255 : Int32)) + (1 : Int32)) + (1 : Int32)))), .val (.double (FP.ddiv (FP.i2d ((p1 &&& (2147483647 : Int32)) % (((p2 &&& (255 : Int32)) + (1 : Int32)) + (1 : Int32)))) (FP.i2d ((p2 &&& (255 : Int32)) + (1 : Int32))))), .second, .val (.ref b_1), .val (.ref b__6), .unset, .unset] [(.ref b__6)])) _
    refine XS.dload X_6.here hx rfl (hb hby at_90) rfl ?_
    show Steps pP.tables eE below (T_6.setTop (mkF mM 92 #[.val (.int p1), .val (.int p2), .val (.int p3), .val (.int p4), .val (.int ((p2 &&& (255 : Int32)) + (1 : Int32))), .val (.int ((p1 &&& (2147483647 : Int32)) % (((p2 &&& (255 : Int32)) + (1 : Int32)) + (1 : Int32)))), .val (.double (FP.ddiv (FP.i2d ((p1 &&& (2147483647 : Int32)) % (((p2 &&& (255 : Int32)) + (1 : Int32)) + (1 : Int32)))) (FP.i2d ((p2 &&& (255 : Int32)) + (1 : Int32))))), .second, .val (.ref b_1), .val (.ref b__6), .unset, .unset] [(.double (FP.ddiv (FP.i2d ((p1 &&& (2147483647 : Int32)) % (((p2 &&& (255 : Int32)) + (1 : Int32)) + (1 : Int32)))) (FP.i2d ((p2 &&& (255 : Int32)) + (1 : Int32))))), (.ref b__6)])) _
    refine st_7 _ ?_
    show Steps pP.tables eE below (T_7.setTop (mkF mM 95 #[.val (.int p1), .val (.int p2), .val (.int p3), .val (.int p4), .val (.int ((p2 &&& (255 : Int32)) + (1 : Int32))), .val (.int ((p1 &&& (2147483647 : Int32)) % (((p2 &&& (255 : Int32)) + (1 : Int32)) + (1 : Int32)))), .val (.double (FP.ddiv (FP.i2d ((p1 &&& (2147483647 : Int32)) % (((p2 &&& (255 : Int32)) + (1 : Int32)) + (1 : Int32)))) (FP.i2d ((p2 &&& (255 : Int32)) + (1 : Int32))))), .second, .val (.ref b_1), .val (.ref b__6), .unset, .unset] [(.double (FP.ddiv (FP.i2d ((p1 &&& (2147483647 : Int32)) % (((p2 &&& (255 : Int32)) + (1 : Int32)) + (1 : Int32)))) (FP.i2d ((p2 &&& (255 : Int32)) + (1 : Int32)))))])) _
    refine XS.dstore X_7.here hx rfl (hb hby at_95) rfl (l' := #[.val (.int p1), .val (.int p2), .val (.int p3), .val (.int p4), .val (.int ((p2 &&& (255 : Int32)) + (1 : Int32))), .val (.int ((p1 &&& (2147483647 : Int32)) % (((p2 &&& (255 : Int32)) + (1 : Int32)) + (1 : Int32)))), .val (.double (FP.ddiv (FP.i2d ((p1 &&& (2147483647 : Int32)) % (((p2 &&& (255 : Int32)) + (1 : Int32)) + (1 : Int32)))) (FP.i2d ((p2 &&& (255 : Int32)) + (1 : Int32))))), .second, .val (.ref b_1), .val (.ref b__6), .val (.double (FP.ddiv (FP.i2d ((p1 &&& (2147483647 : Int32)) % (((p2 &&& (255 : Int32)) + (1 : Int32)) + (1 : Int32)))) (FP.i2d ((p2 &&& (255 : Int32)) + (1 : Int32))))), .second]) rfl ?_
    show Steps pP.tables eE below (T_7.setTop (mkF mM 97 #[.val (.int p1), .val (.int p2), .val (.int p3), .val (.int p4), .val (.int ((p2 &&& (255 : Int32)) + (1 : Int32))), .val (.int ((p1 &&& (2147483647 : Int32)) % (((p2 &&& (255 : Int32)) + (1 : Int32)) + (1 : Int32)))), .val (.double (FP.ddiv (FP.i2d ((p1 &&& (2147483647 : Int32)) % (((p2 &&& (255 : Int32)) + (1 : Int32)) + (1 : Int32)))) (FP.i2d ((p2 &&& (255 : Int32)) + (1 : Int32))))), .second, .val (.ref b_1), .val (.ref b__6), .val (.double (FP.ddiv (FP.i2d ((p1 &&& (2147483647 : Int32)) % (((p2 &&& (255 : Int32)) + (1 : Int32)) + (1 : Int32)))) (FP.i2d ((p2 &&& (255 : Int32)) + (1 : Int32))))), .second] [])) _
    refine XS.dload X_7.here hx rfl (hb hby at_97) rfl ?_
    show Steps pP.tables eE below (T_7.setTop (mkF mM 99 #[.val (.int p1), .val (.int p2), .val (.int p3), .val (.int p4), .val (.int ((p2 &&& (255 : Int32)) + (1 : Int32))), .val (.int ((p1 &&& (2147483647 : Int32)) % (((p2 &&& (255 : Int32)) + (1 : Int32)) + (1 : Int32)))), .val (.double (FP.ddiv (FP.i2d ((p1 &&& (2147483647 : Int32)) % (((p2 &&& (255 : Int32)) + (1 : Int32)) + (1 : Int32)))) (FP.i2d ((p2 &&& (255 : Int32)) + (1 : Int32))))), .second, .val (.ref b_1), .val (.ref b__6), .val (.double (FP.ddiv (FP.i2d ((p1 &&& (2147483647 : Int32)) % (((p2 &&& (255 : Int32)) + (1 : Int32)) + (1 : Int32)))) (FP.i2d ((p2 &&& (255 : Int32)) + (1 : Int32))))), .second] [(.double (FP.ddiv (FP.i2d ((p1 &&& (2147483647 : Int32)) % (((p2 &&& (255 : Int32)) + (1 : Int32)) + (1 : Int32)))) (FP.i2d ((p2 &&& (255 : Int32)) + (1 : Int32)))))])) _
    refine XS.dload X_7.here hx rfl (hb hby at_99) rfl ?_
    show Steps pP.tables eE below (T_7.setTop (mkF mM 101 #[.val (.int p1), .val (.int p2), .val (.int p3), .val (.int p4), .val (.int ((p2 &&& (255 : Int32)) + (1 : Int32))), .val (.int ((p1 &&& (2147483647 : Int32)) % (((p2 &&& (255 : Int32)) + (1 : Int32)) + (1 : Int32)))), .val (.double (FP.ddiv (FP.i2d ((p1 &&& (2147483647 : Int32)) % (((p2 &&& (255 : Int32)) + (1 : Int32)) + (1 : Int32)))) (FP.i2d ((p2 &&& (255 : Int32)) + (1 : Int32))))), .second, .val (.ref b_1), .val (.ref b__6), .val (.double (FP.ddiv (FP.i2d ((p1 &&& (2147483647 : Int32)) % (((p2 &&& (255 : Int32)) + (1 : Int32)) + (1 : Int32)))) (FP.i2d ((p2 &&& (255 : Int32)) + (1 : Int32))))), .second] [(.double (FP.ddiv (FP.i2d ((p1 &&& (2147483647 : Int32)) % (((p2 &&& (255 : Int32)) + (1 : Int32)) + (1 : Int32)))) (FP.i2d ((p2 &&& (255 : Int32)) + (1 : Int32))))), (.double (FP.ddiv (FP.i2d ((p1 &&& (2147483647 : Int32)) % (((p2 &&& (255 : Int32)) + (1 : Int32)) + (1 : Int32)))) (FP.i2d ((p2 &&& (255 : Int32)) + (1 : Int32)))))])) _
    refine XS.dcmpS X_7.here hx rfl (hb hby at_101) rfl rfl ?_
    show Steps pP.tables eE below (T_7.setTop (mkF mM 102 #[.val (.int p1), .val (.int p2), .val (.int p3), .val (.int p4), .val (.int ((p2 &&& (255 : Int32)) + (1 : Int32))), .val (.int ((p1 &&& (2147483647 : Int32)) % (((p2 &&& (255 : Int32)) + (1 : Int32)) + (1 : Int32)))), .val (.double (FP.ddiv (FP.i2d ((p1 &&& (2147483647 : Int32)) % (((p2 &&& (255 : Int32)) + (1 : Int32)) + (1 : Int32)))) (FP.i2d ((p2 &&& (255 : Int32)) + (1 : Int32))))), .second, .val (.ref b_1), .val (.ref b__6), .val (.double (FP.ddiv (FP.i2d ((p1 &&& (2147483647 : Int32)) % (((p2 &&& (255 : Int32)) + (1 : Int32)) + (1 : Int32)))) (FP.i2d ((p2 &&& (255 : Int32)) + (1 : Int32))))), .second] [(.int (cmpValue (FP.dcmp (FP.ddiv (FP.i2d ((p1 &&& (2147483647 : Int32)) % (((p2 &&& (255 : Int32)) + (1 : Int32)) + (1 : Int32)))) (FP.i2d ((p2 &&& (255 : Int32)) + (1 : Int32)))) (FP.ddiv (FP.i2d ((p1 &&& (2147483647 : Int32)) % (((p2 &&& (255 : Int32)) + (1 : Int32)) + (1 : Int32)))) (FP.i2d ((p2 &&& (255 : Int32)) + (1 : Int32))))) .l))])) _
    refine XS.ifNo X_7.here hx rfl (hb hby at_102) rfl (XT.i0_ne_f (dcmpV_self (own_val (own_q p1 p2)) .l)) ?_
    show Steps pP.tables eE below (T_7.setTop (mkF mM 105 #[.val (.int p1), .val (.int p2), .val (.int p3), .val (.int p4), .val (.int ((p2 &&& (255 : Int32)) + (1 : Int32))), .val (.int ((p1 &&& (2147483647 : Int32)) % (((p2 &&& (255 : Int32)) + (1 : Int32)) + (1 : Int32)))), .val (.double (FP.ddiv (FP.i2d ((p1 &&& (2147483647 : Int32)) % (((p2 &&& (255 : Int32)) + (1 : Int32)) + (1 : Int32)))) (FP.i2d ((p2 &&& (255 : Int32)) + (1 : Int32))))), .second, .val (.ref b_1), .val (.ref b__6), .val (.double (FP.ddiv (FP.i2d ((p1 &&& (2147483647 : Int32)) % (((p2 &&& (255 : Int32)) + (1 : Int32)) + (1 : Int32)))) (FP.i2d ((p2 &&& (255 : Int32)) + (1 : Int32))))), .second] [])) _
    refine XS.iconst X_7.here hx rfl (hb hby at_105) ?_
    show Steps pP.tables eE below (T_7.setTop (mkF mM 106 #[.val (.int p1), .val (.int p2), .val (.int p3), .val (.int p4), .val (.int ((p2 &&& (255 : Int32)) + (1 : Int32))), .val (.int ((p1 &&& (2147483647 : Int32)) % (((p2 &&& (255 : Int32)) + (1 : Int32)) + (1 : Int32)))), .val (.double (FP.ddiv (FP.i2d ((p1 &&& (2147483647 : Int32)) % (((p2 &&& (255 : Int32)) + (1 : Int32)) + (1 : Int32)))) (FP.i2d ((p2 &&& (255 : Int32)) + (1 : Int32))))), .second, .val (.ref b_1), .val (.ref b__6), .val (.double (FP.ddiv (FP.i2d ((p1 &&& (2147483647 : Int32)) % (((p2 &&& (255 : Int32)) + (1 : Int32)) + (1 : Int32)))) (FP.i2d ((p2 &&& (255 : Int32)) + (1 : Int32))))), .second] [(.int (1 : Int32))])) _
    refine XS.goto X_7.here hx rfl (pc0 := 106) (pc' := 110) rfl (hb hby at_106) (by decide) (by decide) ?_
    show Steps pP.tables eE below (T_7.setTop (mkF mM 110 #[.val (.int p1), .val (.int p2), .val (.int p3), .val (.int p4), .val (.int ((p2 &&& (255 : Int32)) + (1 : Int32))), .val (.int ((p1 &&& (2147483647 : Int32)) % (((p2 &&& (255 : Int32)) + (1 : Int32)) + (1 : Int32)))), .val (.double (FP.ddiv (FP.i2d ((p1 &&& (2147483647 : Int32)) % (((p2 &&& (255 : Int32)) + (1 : Int32)) + (1 : Int32)))) (FP.i2d ((p2 &&& (255 : Int32)) + (1 : Int32))))), .second, .val (.ref b_1), .val (.ref b__6), .val (.double (FP.ddiv (FP.i2d ((p1 &&& (2147483647 : Int32)) % (((p2 &&& (255 : Int32)) + (1 : Int32)) + (1 : Int32)))) (FP.i2d ((p2 &&& (255 : Int32)) + (1 : Int32))))), .second] [(.int (1 : Int32))])) _
    exact retN X_7 hx (t := .boolean) Bd.returns (by simp) (hb hby at_110) hr
  · show Q_lawo Z p1 p2 p3 p4 cs h0 n0 _ T_7.heap _
    exact ⟨rfl, N_7⟩
set_option maxRecDepth 65536 in
set_option maxHeartbeats 40000000 in
theorem comes_1 {Post : Tables → Env → Array Value → State → Outcome → State → Prop} (hpost : ∀ tb e args s v u, (limb_1_1.after args s (.returned v) u = true ∧ limb_1_2.after args s (.returned v) u = true ∧ True) → FrameEnd s (.returned v) u (Jvm.fieldLocs frame_1_writes args s ++ Jvm.arrayLocs frame_1_arrays args s ++ Jvm.staticLocs frame_1_statics s) 24 128 → Post tb e args s (.returned v) u) :
    ArmFor flags0 classFile x code maxLocals ret World_1 tables_1 room_1 Calls_1 rest_1 Pre_1 Post := by
  intro l hfl _ _ p e ha hc hk s m args below hf hA hF happ hP
  obtain ⟨hcalls, hrest, hpre⟩ := hP
  obtain ⟨-, -, -, hnamed, -, -, -, hat⟩ := (Spec.applies_iff hf).mp happ
  obtain ⟨hg, hn⟩ := and_e (Cond.before_iff.mp (show (Jvm.Cond.and given_1 narrow_1).before args s = true from hpre))
  obtain ⟨hg1, hg2⟩ := and_e hg
  obtain ⟨hg3, hg4⟩ := and_e hg2
  obtain ⟨hg5, hg6⟩ := and_e hg4
  obtain ⟨hg7, hg8⟩ := and_e hg6
  obtain ⟨w0, w1, w2, w3, rfl⟩ : ∃ w0 w1 w2 w3 : Value, args = #[w0, w1, w2, w3] := by
    have hs : args.size = 4 := by simpa [Cond.value, given_1] using hg1
    obtain ⟨L⟩ := args
    match L, hs with
    | [w0, w1, w2, w3], _ => exact ⟨w0, w1, w2, w3, rfl⟩
  obtain ⟨i0, ei0⟩ := is_v hg3
  obtain rfl : w0 = (.int i0) := Option.some.inj ei0
  obtain ⟨i1, ei1⟩ := is_v hg5
  obtain rfl : w1 = (.int i1) := Option.some.inj ei1
  obtain ⟨i2, ei2⟩ := is_v hg7
  obtain rfl : w2 = (.int i2) := Option.some.inj ei2
  obtain ⟨i3, ei3⟩ := is_v hg8
  obtain rfl : w3 = (.int i3) := Option.some.inj ei3
  have hw := fun d (hd : d ∈ tables_1) => atoms_spec (ws := Jvm.Cond.code x code maxLocals ret :: tables_1) hat d (List.mem_cons_of_mem _ hd)
  have hfit : Fit s := fun {y c} hc i hi => by
    obtain ⟨ha, rfl⟩ := Array.getElem?_eq_some_iff.mp hc
    have q := List.all_eq_true.mp ((Array.all_eq_true_iff_forall_mem.mp hF) _ (Array.getElem_mem ha)) i (List.mem_range.mpr hi)
    simpa [Array.getElem?_eq_getElem hi] using q
  obtain ⟨hsets, hown0⟩ := atoms_of _ (rest_1_c_eq ▸ (show rest_1_c.before _ s = true from hrest))
  obtain ⟨cs, ecs⟩ := is_v (Cond.before_iff.mp (hsets _ (List.mem_of_getElem? (i := 1) rfl)))
  have S1 := Sta.start ecs (Or.inl (hsets _ (List.mem_of_getElem? (i := 0) rfl)))
  have hcs : ¬ cs = 0 := fun q => by
    have h2 := not_v (Cond.before_iff.mp (hsets _ (List.mem_of_getElem? (i := 2) rfl)))
    have h3 := eq_i ecs (Term.int_eval (0)) (congrArg Value.int q) (o := none) (first := s)
    rw [h3] at h2; cases h2
  by_cases hf4 : (i3 &&& (1 : Int32)) = 0
  · obtain ⟨n, o, h1, h2, h3, _, L, rfl, ⟨rfl, N⟩, hq⟩ := rm_lawe l s _ hw tables_1 i0 i1 i2 i3 cs s.heap s.heap.size (Nat.le_refl _) S1 hcs hf4 p e ha hc hk s m _ below hf ((Spec.applies_iff_loose hf).mp happ).1 ⟨rfl, State.Warmed39.refl s, rfl⟩ trivial
    exact ⟨n, _, h1, h2, h3, hpost _ _ _ _ _ _ ⟨Cond.after_iff.mpr rfl, Cond.after_iff.mpr (eq_i res_at (Term.int_eval (1)) rfl), trivial⟩ ⟨hq.1, hq.2.1, (hq.2.2.sift fun y hy => Or.inr (N y hy)).mono (by decide) (by decide)⟩⟩
  · obtain ⟨n, o, h1, h2, h3, _, L, rfl, ⟨rfl, N⟩, hq⟩ := rm_lawo l s _ hw tables_1 i0 i1 i2 i3 cs s.heap s.heap.size (Nat.le_refl _) S1 hcs hf4 p e ha hc hk s m _ below hf ((Spec.applies_iff_loose hf).mp happ).1 ⟨rfl, State.Warmed39.refl s, rfl⟩ trivial
    exact ⟨n, _, h1, h2, h3, hpost _ _ _ _ _ _ ⟨Cond.after_iff.mpr rfl, Cond.after_iff.mpr (eq_i res_at (Term.int_eval (1)) rfl), trivial⟩ ⟨hq.1, hq.2.1, (hq.2.2.sift fun y hy => Or.inr (N y hy)).mono (by decide) (by decide)⟩⟩
theorem main_1_1 : Claimed_1_1 := comes_1 fun _ _ _ _ _ _ h hF => ⟨h.1, hF⟩
theorem main_1_2 : Claimed_1_2 := comes_1 fun _ _ _ _ _ _ h hF => ⟨h.2.1, hF⟩
end Jvm.Pilot.@@N@@
namespace Jvm.Pilot.@@N@@
open Jvm Jvm.ClassFile Sem Op Lib Jvm.Free Jvm.Stand Jvm.Pilot.@@N@@.Jvm.D
/-! MADE BY PROGRAM (witnessworld.py) out of the Statement's table words and the real class files: 20 classes; the members and pool entries that the words name. The judged class is class 1, her method 1. -/
namespace start1
open Jvm.ClassFile
def u (s : String) : CpInfo := .utf8 (stringToUtf16 s)
/-- a pool by its gaps: so many unusable entries, then the entry; so many at the end -/
def gap : Nat → List CpInfo → List CpInfo
  | 0, r => r
  | n + 1, r => .unusable :: gap n r
def poolList (es : List (Nat × CpInfo)) (last : Nat) : List CpInfo := es.foldr (fun e r => gap e.1 (e.2 :: r)) (gap last [])
def pool (es : List (Nat × CpInfo)) (last : Nat) : Array CpInfo := ⟨poolList es last⟩
def fileOf (pool : Array CpInfo) (this : Nat) (attrs : Array Attribute := #[]) (ms : Array MethodInfo := #[]) (fl : Nat := 33) (sup : Nat := 0) (ifs : Array Nat := #[]) (fds : Array FieldInfo := #[]) : ClassFile where
  minorVersion := 0
  majorVersion := 65
  constantPool := pool
  accessFlags := fl
  thisClass := this
  superClass := sup
  interfaces := ifs
  fields := fds
  methods := ms
  attributes := attrs
def plain (name : String) (sup : Option ClassId) : Class where
  name := name
  kind := .ordinary
  loader := none
  accessFlags := 33
  super := sup
  interfaces := #[]
  cf := none
  fields := #[]
  methods := #[]
  instanceTypes := #[]
  staticTypes := #[]
  resolved := #[]
  callSites := []
  init := .initialized
  statics := none
  mirror := none

def pool0 : Array CpInfo := pool [(5, u "<init>"), (0, u "()V"), (1, .class_ 10), (1, u "java/lang/Object")] 113

def k0c0 : Code := { maxStack := 0, maxLocals := 1, code := object_method_1_code, exceptionTable := #[], attributes := #[] }
def k0m0 : Method := { name := "<init>", desc := "()V", sig := { parameters := [], returnType := none }, accessFlags := 1, code := some k0c0 }
/-- java/lang/Object -/
def k0 : Class := { plain "java/lang/Object" none with
  accessFlags := 33
  interfaces := #[]
  cf := some (fileOf pool0 8 #[] #[{ accessFlags := 1, nameIndex := 5, descriptorIndex := 6, attributes := #[] }] 33 0 #[] #[])
  fields := #[]
  methods := #[k0m0]
  instanceTypes := #[]
  staticTypes := #[]
  resolved := Array.replicate 124 none
  statics := none }

def pool1 : Array CpInfo := pool [(2, .class_ 4), (1, u "java/lang/Object"), (0, u "<init>"), (0, u "()V"), (0, .integer 2147483647), (0, .class_ 9), (0, u "java/lang/String"), (0, .methodref 8 11), (0, .nameAndType 5 12), (0, u "([C)V"), (0, .methodref 8 14), (0, .nameAndType 15 16), (0, u "valueOf"), (0, u "(C)Ljava/lang/String;"), (0, .methodref 18 19), (0, .class_ 20), (0, .nameAndType 21 22), (0, u "com/example/polyvane/polyvane/moead/DecompositionAlgorithm"), (0, u "checkedProbability"), (0, u "(Ljava/lang/String;D)D"), (0, .class_ 24), (0, u "com/example/polyvane/polyvane/moead/DecompositionAlgorithmCheckedProbabilityPinLaw"), (2, u "law"), (0, u "(IIII)Z")] 5

def k1m0 : Method := { name := "<init>", desc := "()V", sig := { parameters := [], returnType := none }, accessFlags := 2, code := none }
def k1c1 : Code := { maxStack := 4, maxLocals := 12, code := code, exceptionTable := #[], attributes := #[] }
def k1m1 : Method := { name := "law", desc := "(IIII)Z", sig := { parameters := [.int, .int, .int, .int], returnType := some .boolean }, accessFlags := 9, code := some k1c1 }
/-- com/example/polyvane/polyvane/moead/DecompositionAlgorithmCheckedProbabilityPinLaw -/
def k1 : Class := { plain "com/example/polyvane/polyvane/moead/DecompositionAlgorithmCheckedProbabilityPinLaw" (some 0) with
  accessFlags := 49
  interfaces := #[]
  cf := some (fileOf pool1 23 #[] #[{ accessFlags := 2, nameIndex := 5, descriptorIndex := 6, attributes := #[] }, { accessFlags := 9, nameIndex := 27, descriptorIndex := 28, attributes := #[] }] 49 2 #[] #[])
  fields := #[]
  methods := #[k1m0, k1m1]
  instanceTypes := #[]
  staticTypes := #[]
  resolved := Array.replicate 34 none
  statics := none }

def pool2 : Array CpInfo := pool [(1, .class_ 2), (0, u "java/io/Serializable"), (0, .class_ 4), (0, u "java/lang/Object")] 2

/-- java/io/Serializable -/
def k2 : Class := { plain "java/io/Serializable" (some 0) with
  accessFlags := 1537
  interfaces := #[]
  cf := some (fileOf pool2 1 #[] #[] 1537 3 #[] #[])
  fields := #[]
  methods := #[]
  instanceTypes := #[]
  staticTypes := #[]
  resolved := Array.replicate 7 none
  statics := none }

def pool3 : Array CpInfo := pool [(1, .class_ 2), (0, u "java/lang/Comparable"), (0, .class_ 4), (0, u "java/lang/Object")] 7

/-- java/lang/Comparable -/
def k3 : Class := { plain "java/lang/Comparable" (some 0) with
  accessFlags := 1537
  interfaces := #[]
  cf := some (fileOf pool3 1 #[] #[] 1537 3 #[] #[])
  fields := #[]
  methods := #[]
  instanceTypes := #[]
  staticTypes := #[]
  resolved := Array.replicate 12 none
  statics := none }

def pool4 : Array CpInfo := pool [(2, .class_ 4), (1, u "java/lang/CharSequence"), (42, .class_ 48), (0, u "java/lang/CharSequence$1CodePointIterator"), (10, .class_ 60), (0, u "java/lang/CharSequence$1CharIterator"), (5, .class_ 67), (0, u "java/lang/Object")] 63

/-- java/lang/CharSequence -/
def k4 : Class := { plain "java/lang/CharSequence" (some 0) with
  accessFlags := 1537
  interfaces := #[]
  cf := some (fileOf pool4 2 #[.nestMembers #[47, 59]] #[] 1537 66 #[] #[])
  fields := #[]
  methods := #[]
  instanceTypes := #[]
  staticTypes := #[]
  resolved := Array.replicate 131 none
  statics := none }

def pool5 : Array CpInfo := pool [(1, .class_ 2), (0, u "java/lang/constant/Constable"), (0, .class_ 4), (0, u "java/lang/Object")] 6

/-- java/lang/constant/Constable -/
def k5 : Class := { plain "java/lang/constant/Constable" (some 0) with
  accessFlags := 1537
  interfaces := #[]
  cf := some (fileOf pool5 1 #[] #[] 1537 3 #[] #[])
  fields := #[]
  methods := #[]
  instanceTypes := #[]
  staticTypes := #[]
  resolved := Array.replicate 11 none
  statics := none }

def pool6 : Array CpInfo := pool [(1, .class_ 2), (0, u "java/lang/constant/ConstantDesc"), (0, .class_ 4), (0, u "java/lang/Object")] 32

/-- java/lang/constant/ConstantDesc -/
def k6 : Class := { plain "java/lang/constant/ConstantDesc" (some 0) with
  accessFlags := 1537
  interfaces := #[]
  cf := some (fileOf pool6 1 #[] #[] 1537 3 #[] #[])
  fields := #[]
  methods := #[]
  instanceTypes := #[]
  staticTypes := #[]
  resolved := Array.replicate 37 none
  statics := none }

def pool7 : Array CpInfo := pool [(1, .methodref 2 3), (0, .class_ 4), (0, .nameAndType 5 6), (0, u "java/lang/Object"), (0, u "<init>"), (0, u "()V"), (2, .fieldref 10 11), (0, .class_ 12), (0, .nameAndType 13 14), (0, u "java/lang/String"), (0, u "value"), (0, u "[B"), (0, .fieldref 10 16), (0, .nameAndType 17 18), (0, u "coder"), (0, u "B"), (2, u "hash"), (0, u "I"), (2, u "hashIsZero"), (0, u "Z"), (0, .methodref 10 28), (0, .nameAndType 5 29), (0, u "([CIILjava/lang/Void;)V"), (8, .fieldref 10 39), (0, .nameAndType 40 26), (0, u "COMPACT_STRINGS"), (1, .class_ 44), (1, u "java/lang/StringUTF16"), (0, u "compress"), (1, .methodref 42 48), (0, .nameAndType 49 50), (0, u "coderFromArrayLen"), (0, u "([BI)B"), (2, u "toBytes"), (53, .class_ 109), (1, u "java/lang/StringLatin1"), (67, .methodref 42 178), (0, .nameAndType 45 179), (0, u "([CII)[B"), (29, .methodref 10 210), (0, .nameAndType 5 211), (0, u "([BB)V"), (157, u "(C)Z"), (205, .class_ 576), (0, u "java/lang/CharSequence"), (22, u "CASE_INSENSITIVE_ORDER"), (0, u "Ljava/util/Comparator;"), (181, u "valueOf"), (0, u "(C)Ljava/lang/String;"), (226, u "([C)V"), (4, .methodref 107 1016), (0, .nameAndType 1017 369), (0, u "canEncode"), (0, .methodref 107 1019), (0, .nameAndType 53 1020), (0, u "(C)[B"), (80, u "serialPersistentFields"), (0, u "[Ljava/io/ObjectStreamField;"), (0, .class_ 1104), (0, u "java/lang/String$CaseInsensitiveComparator"), (1, .class_ 1107), (0, u "java/io/Serializable"), (0, .class_ 1109), (0, u "java/lang/Comparable"), (0, .class_ 1111), (0, u "java/lang/constant/Constable"), (0, .class_ 1113), (0, u "java/lang/constant/ConstantDesc"), (2, u "serialVersionUID"), (0, u "J"), (3, u "REPL"), (0, u "C"), (2, u "LATIN1"), (1, u "UTF16")] 323

def k7m0 : Method := { name := "<init>", desc := "()V", sig := { parameters := [], returnType := none }, accessFlags := 1, code := none }
def k7c1 : Code := { maxStack := 5, maxLocals := 2, code := jdk_42_method_3_code, exceptionTable := #[], attributes := #[] }
def k7m1 : Method := { name := "<init>", desc := "([C)V", sig := { parameters := [(.array .char)], returnType := none }, accessFlags := 1, code := some k7c1 }
def k7c2 : Code := { maxStack := 4, maxLocals := 1, code := jdk_42_method_139_code, exceptionTable := #[], attributes := #[] }
def k7m2 : Method := { name := "valueOf", desc := "(C)Ljava/lang/String;", sig := { parameters := [.char], returnType := some (.object "java/lang/String") }, accessFlags := 9, code := some k7c2 }
def k7c3 : Code := { maxStack := 4, maxLocals := 6, code := jdk_42_method_149_code, exceptionTable := #[], attributes := #[] }
def k7m3 : Method := { name := "<init>", desc := "([CIILjava/lang/Void;)V", sig := { parameters := [(.array .char), .int, .int, (.object "java/lang/Void")], returnType := none }, accessFlags := 2, code := some k7c3 }
def k7c4 : Code := { maxStack := 2, maxLocals := 3, code := jdk_42_method_151_code, exceptionTable := #[], attributes := #[] }
def k7m4 : Method := { name := "<init>", desc := "([BB)V", sig := { parameters := [(.array .byte), .byte], returnType := none }, accessFlags := 0, code := some k7c4 }
/-- java/lang/String -/
def k7 : Class := { plain "java/lang/String" (some 0) with
  accessFlags := 49
  interfaces := #[2, 3, 4, 5, 6]
  cf := some (fileOf pool7 10 #[.nestMembers #[1103]] #[{ accessFlags := 1, nameIndex := 5, descriptorIndex := 6, attributes := #[] }, { accessFlags := 1, nameIndex := 5, descriptorIndex := 1010, attributes := #[] }, { accessFlags := 9, nameIndex := 782, descriptorIndex := 783, attributes := #[] }, { accessFlags := 2, nameIndex := 5, descriptorIndex := 29, attributes := #[] }, { accessFlags := 0, nameIndex := 5, descriptorIndex := 211, attributes := #[] }] 49 2 #[1106, 1108, 575, 1110, 1112] #[{ accessFlags := 18, nameIndex := 13, descriptorIndex := 14, attributes := #[] }, { accessFlags := 18, nameIndex := 17, descriptorIndex := 18, attributes := #[] }, { accessFlags := 2, nameIndex := 21, descriptorIndex := 22, attributes := #[] }, { accessFlags := 2, nameIndex := 25, descriptorIndex := 26, attributes := #[] }, { accessFlags := 26, nameIndex := 1116, descriptorIndex := 1117, attributes := #[] }, { accessFlags := 24, nameIndex := 40, descriptorIndex := 26, attributes := #[] }, { accessFlags := 26, nameIndex := 1101, descriptorIndex := 1102, attributes := #[] }, { accessFlags := 26, nameIndex := 1121, descriptorIndex := 1122, attributes := #[] }, { accessFlags := 25, nameIndex := 599, descriptorIndex := 600, attributes := #[] }, { accessFlags := 24, nameIndex := 1125, descriptorIndex := 18, attributes := #[] }, { accessFlags := 24, nameIndex := 1127, descriptorIndex := 18, attributes := #[] }])
  fields := #[{ name := "value", type := (.array .byte), accessFlags := 18, slot := 0, constantValue := 0 }, { name := "coder", type := .byte, accessFlags := 18, slot := 1, constantValue := 0 }, { name := "hash", type := .int, accessFlags := 2, slot := 2, constantValue := 0 }, { name := "hashIsZero", type := .boolean, accessFlags := 2, slot := 3, constantValue := 0 }, { name := "serialVersionUID", type := .long, accessFlags := 26, slot := 0, constantValue := 0 }, { name := "COMPACT_STRINGS", type := .boolean, accessFlags := 24, slot := 1, constantValue := 0 }, { name := "serialPersistentFields", type := (.array (.object "java/io/ObjectStreamField")), accessFlags := 26, slot := 2, constantValue := 0 }, { name := "REPL", type := .char, accessFlags := 26, slot := 3, constantValue := 0 }, { name := "CASE_INSENSITIVE_ORDER", type := (.object "java/util/Comparator"), accessFlags := 25, slot := 4, constantValue := 0 }, { name := "LATIN1", type := .byte, accessFlags := 24, slot := 5, constantValue := 0 }, { name := "UTF16", type := .byte, accessFlags := 24, slot := 6, constantValue := 0 }]
  methods := #[k7m0, k7m1, k7m2, k7m3, k7m4]
  instanceTypes := #[(.array .byte), .byte, .int, .boolean]
  staticTypes := #[.long, .boolean, (.array (.object "java/io/ObjectStreamField")), .char, (.object "java/util/Comparator"), .byte, .byte]
  resolved := Array.replicate 1451 none
  statics := some 0 }

def pool8 : Array CpInfo := pool [(6, .class_ 8), (1, u "java/lang/Object"), (0, u "<init>"), (0, u "()V"), (1, .class_ 14), (1, u "java/lang/StringUTF16"), (31, u "$assertionsDisabled"), (0, u "Z"), (13, u "HI_BYTE_SHIFT"), (0, u "I"), (2, u "LO_BYTE_SHIFT"), (49, .methodref 12 116), (0, .nameAndType 117 118), (0, u "compress"), (0, u "([CI[BII)I"), (3, u "([CII)[B"), (138, u "coderFromArrayLen"), (0, u "([BI)B"), (106, .class_ 371), (1, u "java/lang/StringUTF16$LinesSpliterator"), (58, u "MAX_LENGTH"), (196, .class_ 628), (0, u "java/lang/StringUTF16$CodePointsSpliterator"), (0, .class_ 630), (0, u "java/lang/StringUTF16$CharsSpliterator")] 4

def k8m0 : Method := { name := "<init>", desc := "()V", sig := { parameters := [], returnType := none }, accessFlags := 0, code := none }
def k8c1 : Code := { maxStack := 2, maxLocals := 2, code := jdk_52_method_15_code, exceptionTable := #[], attributes := #[] }
def k8m1 : Method := { name := "coderFromArrayLen", desc := "([BI)B", sig := { parameters := [(.array .byte), .int], returnType := some .byte }, accessFlags := 8, code := some k8c1 }
def k8c2 : Code := { maxStack := 5, maxLocals := 6, code := jdk_52_method_16_code, exceptionTable := #[], attributes := #[] }
def k8m2 : Method := { name := "compress", desc := "([CII)[B", sig := { parameters := [(.array .char), .int, .int], returnType := some (.array .byte) }, accessFlags := 9, code := some k8c2 }
def k8c3 : Code := { maxStack := 3, maxLocals := 7, code := jdk_52_method_21_code, exceptionTable := #[], attributes := #[] }
def k8m3 : Method := { name := "compress", desc := "([CI[BII)I", sig := { parameters := [(.array .char), .int, (.array .byte), .int, .int], returnType := some .int }, accessFlags := 9, code := some k8c3 }
/-- java/lang/StringUTF16 -/
def k8 : Class := { plain "java/lang/StringUTF16" (some 0) with
  accessFlags := 48
  interfaces := #[]
  cf := some (fileOf pool8 12 #[.nestMembers #[627, 629, 369]] #[{ accessFlags := 0, nameIndex := 9, descriptorIndex := 10, attributes := #[] }, { accessFlags := 8, nameIndex := 261, descriptorIndex := 262, attributes := #[] }, { accessFlags := 9, nameIndex := 117, descriptorIndex := 122, attributes := #[] }, { accessFlags := 9, nameIndex := 117, descriptorIndex := 118, attributes := #[] }] 48 6 #[] #[{ accessFlags := 26, nameIndex := 61, descriptorIndex := 62, attributes := #[] }, { accessFlags := 26, nameIndex := 65, descriptorIndex := 62, attributes := #[] }, { accessFlags := 24, nameIndex := 430, descriptorIndex := 62, attributes := #[] }, { accessFlags := 4120, nameIndex := 46, descriptorIndex := 47, attributes := #[] }])
  fields := #[{ name := "HI_BYTE_SHIFT", type := .int, accessFlags := 26, slot := 0, constantValue := 0 }, { name := "LO_BYTE_SHIFT", type := .int, accessFlags := 26, slot := 1, constantValue := 0 }, { name := "MAX_LENGTH", type := .int, accessFlags := 24, slot := 2, constantValue := 0 }, { name := "$assertionsDisabled", type := .boolean, accessFlags := 4120, slot := 3, constantValue := 0 }]
  methods := #[k8m0, k8m1, k8m2, k8m3]
  instanceTypes := #[]
  staticTypes := #[.int, .int, .int, .boolean]
  resolved := Array.replicate 635 none
  statics := none }

def pool9 : Array CpInfo := pool [(4, .class_ 6), (1, u "java/lang/Object"), (0, u "<init>"), (0, u "()V"), (5, .class_ 16), (1, u "java/lang/StringLatin1"), (73, u "canEncode"), (14, u "(C)Z"), (15, u "$assertionsDisabled"), (0, u "Z"), (98, .class_ 223), (1, u "java/lang/StringLatin1$LinesSpliterator"), (156, u "toBytes"), (1, u "(C)[B"), (7, .class_ 391), (0, u "java/lang/StringLatin1$CharsSpliterator")] 3

def k9m0 : Method := { name := "<init>", desc := "()V", sig := { parameters := [], returnType := none }, accessFlags := 0, code := none }
def k9c1 : Code := { maxStack := 2, maxLocals := 1, code := jdk_43_method_3_code, exceptionTable := #[], attributes := #[] }
def k9m1 : Method := { name := "canEncode", desc := "(C)Z", sig := { parameters := [.char], returnType := some .boolean }, accessFlags := 9, code := some k9c1 }
def k9c2 : Code := { maxStack := 4, maxLocals := 1, code := jdk_43_method_46_code, exceptionTable := #[], attributes := #[] }
def k9m2 : Method := { name := "toBytes", desc := "(C)[B", sig := { parameters := [.char], returnType := some (.array .byte) }, accessFlags := 9, code := some k9c2 }
/-- java/lang/StringLatin1 -/
def k9 : Class := { plain "java/lang/StringLatin1" (some 0) with
  accessFlags := 48
  interfaces := #[]
  cf := some (fileOf pool9 14 #[.nestMembers #[390, 221]] #[{ accessFlags := 0, nameIndex := 7, descriptorIndex := 8, attributes := #[] }, { accessFlags := 9, nameIndex := 90, descriptorIndex := 105, attributes := #[] }, { accessFlags := 9, nameIndex := 380, descriptorIndex := 382, attributes := #[] }] 48 4 #[] #[{ accessFlags := 4120, nameIndex := 121, descriptorIndex := 122, attributes := #[] }])
  fields := #[{ name := "$assertionsDisabled", type := .boolean, accessFlags := 4120, slot := 0, constantValue := 0 }]
  methods := #[k9m0, k9m1, k9m2]
  instanceTypes := #[]
  staticTypes := #[.boolean]
  resolved := Array.replicate 395 none
  statics := none }

def pool10 : Array CpInfo := pool [(2, .class_ 4), (1, u "java/lang/Object"), (3, .class_ 10), (1, u "com/example/polyvane/polyvane/moead/DecompositionAlgorithm"), (0, u "problem"), (0, u "Lcom/example/polyvane/polyvane/problem/Problem;"), (2, u "weights"), (0, u "[[D"), (9, u "crossover"), (0, u "Lcom/example/polyvane/polyvane/operator/SimulatedBinaryCrossover;"), (7, u "mutation"), (0, u "Lcom/example/polyvane/polyvane/operator/PolynomialMutation;"), (33, .class_ 71), (0, u "com/example/polyvane/polyvane/moead/DecompositionAlgorithm$Run"), (46, .class_ 120), (1, u "com/example/polyvane/polyvane/moead/DecompositionAlgorithm$Visitor"), (2, .class_ 124), (0, u "com/example/polyvane/polyvane/moead/DecompositionAlgorithm$Result"), (54, u "DISTRIBUTION_INDEX"), (0, u "D"), (19, u "checkedProbability"), (0, u "(Ljava/lang/String;D)D")] 54

def k10c0 : Code := { maxStack := 5, maxLocals := 3, code := prog_29_method_11_code, exceptionTable := #[], attributes := #[] }
def k10m0 : Method := { name := "checkedProbability", desc := "(Ljava/lang/String;D)D", sig := { parameters := [(.object "java/lang/String"), .double], returnType := some .double }, accessFlags := 8, code := some k10c0 }
/-- com/example/polyvane/polyvane/moead/DecompositionAlgorithm -/
def k10 : Class := { plain "com/example/polyvane/polyvane/moead/DecompositionAlgorithm" (some 0) with
  accessFlags := 1057
  interfaces := #[]
  cf := some (fileOf pool10 8 #[.nestMembers #[70, 118, 123]] #[{ accessFlags := 8, nameIndex := 200, descriptorIndex := 201, attributes := #[] }] 1057 2 #[] #[{ accessFlags := 25, nameIndex := 179, descriptorIndex := 180, attributes := #[] }, { accessFlags := 16, nameIndex := 11, descriptorIndex := 12, attributes := #[] }, { accessFlags := 16, nameIndex := 15, descriptorIndex := 16, attributes := #[] }, { accessFlags := 18, nameIndex := 26, descriptorIndex := 27, attributes := #[] }, { accessFlags := 18, nameIndex := 35, descriptorIndex := 36, attributes := #[] }])
  fields := #[{ name := "DISTRIBUTION_INDEX", type := .double, accessFlags := 25, slot := 0, constantValue := 0 }, { name := "problem", type := (.object "com/example/polyvane/polyvane/problem/Problem"), accessFlags := 16, slot := 0, constantValue := 0 }, { name := "weights", type := (.array (.array .double)), accessFlags := 16, slot := 1, constantValue := 0 }, { name := "crossover", type := (.object "com/example/polyvane/polyvane/operator/SimulatedBinaryCrossover"), accessFlags := 18, slot := 2, constantValue := 0 }, { name := "mutation", type := (.object "com/example/polyvane/polyvane/operator/PolynomialMutation"), accessFlags := 18, slot := 3, constantValue := 0 }]
  methods := #[k10m0]
  instanceTypes := #[(.object "com/example/polyvane/polyvane/problem/Problem"), (.array (.array .double)), (.object "com/example/polyvane/polyvane/operator/SimulatedBinaryCrossover"), (.object "com/example/polyvane/polyvane/operator/PolynomialMutation")]
  staticTypes := #[.double]
  resolved := Array.replicate 256 none
  statics := none }

def pool11 : Array CpInfo := pool [(2, .class_ 4), (1, u "java/lang/Object"), (0, u "<init>"), (0, u "()V"), (17, .class_ 26), (1, u "jdk/internal/util/Preconditions"), (28, .class_ 56), (0, u "jdk/internal/util/Preconditions$4"), (57, .class_ 115), (0, u "jdk/internal/util/Preconditions$1"), (7, u "SIOOBE_FORMATTER"), (0, u "Ljava/util/function/BiFunction;"), (0, .class_ 126), (0, u "jdk/internal/util/Preconditions$2"), (3, u "AIOOBE_FORMATTER"), (0, .class_ 132), (0, u "jdk/internal/util/Preconditions$3"), (3, u "IOOBE_FORMATTER")] 57

def k11m0 : Method := { name := "<init>", desc := "()V", sig := { parameters := [], returnType := none }, accessFlags := 1, code := none }
/-- jdk/internal/util/Preconditions -/
def k11 : Class := { plain "jdk/internal/util/Preconditions" (some 0) with
  accessFlags := 33
  interfaces := #[]
  cf := some (fileOf pool11 24 #[.nestMembers #[55, 131, 125, 114]] #[{ accessFlags := 1, nameIndex := 5, descriptorIndex := 6, attributes := #[] }] 33 2 #[] #[{ accessFlags := 25, nameIndex := 123, descriptorIndex := 124, attributes := #[] }, { accessFlags := 25, nameIndex := 130, descriptorIndex := 124, attributes := #[] }, { accessFlags := 25, nameIndex := 136, descriptorIndex := 124, attributes := #[] }])
  fields := #[{ name := "SIOOBE_FORMATTER", type := (.object "java/util/function/BiFunction"), accessFlags := 25, slot := 0, constantValue := 0 }, { name := "AIOOBE_FORMATTER", type := (.object "java/util/function/BiFunction"), accessFlags := 25, slot := 1, constantValue := 0 }, { name := "IOOBE_FORMATTER", type := (.object "java/util/function/BiFunction"), accessFlags := 25, slot := 2, constantValue := 0 }]
  methods := #[k11m0]
  instanceTypes := #[]
  staticTypes := #[(.object "java/util/function/BiFunction"), (.object "java/util/function/BiFunction"), (.object "java/util/function/BiFunction")]
  resolved := Array.replicate 194 none
  statics := some 1 }

def pool12 : Array CpInfo := pool [(9, u "<init>"), (6, .class_ 18), (1, u "java/lang/Object"), (0, u "()V"), (1, .class_ 23), (1, u "jdk/internal/util/ArraysSupport"), (0, u "LOG2_ARRAY_LONG_INDEX_SCALE"), (0, u "I"), (2, u "U"), (0, u "Ljdk/internal/misc/Unsafe;"), (8, u "BIG_ENDIAN"), (0, u "Z"), (8, u "LOG2_BYTE_BIT_SIZE"), (4, u "LOG2_ARRAY_INT_INDEX_SCALE"), (54, u "JLA"), (0, u "Ljdk/internal/access/JavaLangAccess;"), (11, u "LOG2_ARRAY_BOOLEAN_INDEX_SCALE"), (9, u "LOG2_ARRAY_BYTE_INDEX_SCALE"), (5, u "LOG2_ARRAY_CHAR_INDEX_SCALE"), (5, u "LOG2_ARRAY_SHORT_INDEX_SCALE"), (18, u "LOG2_ARRAY_FLOAT_INDEX_SCALE"), (24, u "LOG2_ARRAY_DOUBLE_INDEX_SCALE"), (89, u "T_BOOLEAN"), (2, u "T_CHAR"), (1, u "T_FLOAT"), (1, u "T_DOUBLE"), (1, u "T_BYTE"), (1, u "T_SHORT"), (1, u "T_INT"), (1, u "T_LONG"), (1, u "SOFT_MAX_ARRAY_LENGTH")] 83

def k12m0 : Method := { name := "<init>", desc := "()V", sig := { parameters := [], returnType := none }, accessFlags := 2, code := none }
/-- jdk/internal/util/ArraysSupport -/
def k12 : Class := { plain "jdk/internal/util/ArraysSupport" (some 0) with
  accessFlags := 33
  interfaces := #[]
  cf := some (fileOf pool12 21 #[] #[{ accessFlags := 2, nameIndex := 9, descriptorIndex := 19, attributes := #[] }] 33 16 #[] #[{ accessFlags := 24, nameIndex := 28, descriptorIndex := 29, attributes := #[] }, { accessFlags := 26, nameIndex := 38, descriptorIndex := 39, attributes := #[] }, { accessFlags := 25, nameIndex := 121, descriptorIndex := 25, attributes := #[] }, { accessFlags := 25, nameIndex := 131, descriptorIndex := 25, attributes := #[] }, { accessFlags := 25, nameIndex := 137, descriptorIndex := 25, attributes := #[] }, { accessFlags := 25, nameIndex := 143, descriptorIndex := 25, attributes := #[] }, { accessFlags := 25, nameIndex := 53, descriptorIndex := 25, attributes := #[] }, { accessFlags := 25, nameIndex := 24, descriptorIndex := 25, attributes := #[] }, { accessFlags := 25, nameIndex := 162, descriptorIndex := 25, attributes := #[] }, { accessFlags := 25, nameIndex := 187, descriptorIndex := 25, attributes := #[] }, { accessFlags := 26, nameIndex := 48, descriptorIndex := 25, attributes := #[] }, { accessFlags := 25, nameIndex := 277, descriptorIndex := 25, attributes := #[] }, { accessFlags := 25, nameIndex := 280, descriptorIndex := 25, attributes := #[] }, { accessFlags := 25, nameIndex := 282, descriptorIndex := 25, attributes := #[] }, { accessFlags := 25, nameIndex := 284, descriptorIndex := 25, attributes := #[] }, { accessFlags := 25, nameIndex := 286, descriptorIndex := 25, attributes := #[] }, { accessFlags := 25, nameIndex := 288, descriptorIndex := 25, attributes := #[] }, { accessFlags := 25, nameIndex := 290, descriptorIndex := 25, attributes := #[] }, { accessFlags := 25, nameIndex := 292, descriptorIndex := 25, attributes := #[] }, { accessFlags := 26, nameIndex := 108, descriptorIndex := 109, attributes := #[] }, { accessFlags := 25, nameIndex := 294, descriptorIndex := 25, attributes := #[] }])
  fields := #[{ name := "U", type := (.object "jdk/internal/misc/Unsafe"), accessFlags := 24, slot := 0, constantValue := 0 }, { name := "BIG_ENDIAN", type := .boolean, accessFlags := 26, slot := 1, constantValue := 0 }, { name := "LOG2_ARRAY_BOOLEAN_INDEX_SCALE", type := .int, accessFlags := 25, slot := 2, constantValue := 0 }, { name := "LOG2_ARRAY_BYTE_INDEX_SCALE", type := .int, accessFlags := 25, slot := 3, constantValue := 0 }, { name := "LOG2_ARRAY_CHAR_INDEX_SCALE", type := .int, accessFlags := 25, slot := 4, constantValue := 0 }, { name := "LOG2_ARRAY_SHORT_INDEX_SCALE", type := .int, accessFlags := 25, slot := 5, constantValue := 0 }, { name := "LOG2_ARRAY_INT_INDEX_SCALE", type := .int, accessFlags := 25, slot := 6, constantValue := 0 }, { name := "LOG2_ARRAY_LONG_INDEX_SCALE", type := .int, accessFlags := 25, slot := 7, constantValue := 0 }, { name := "LOG2_ARRAY_FLOAT_INDEX_SCALE", type := .int, accessFlags := 25, slot := 8, constantValue := 0 }, { name := "LOG2_ARRAY_DOUBLE_INDEX_SCALE", type := .int, accessFlags := 25, slot := 9, constantValue := 0 }, { name := "LOG2_BYTE_BIT_SIZE", type := .int, accessFlags := 26, slot := 10, constantValue := 0 }, { name := "T_BOOLEAN", type := .int, accessFlags := 25, slot := 11, constantValue := 0 }, { name := "T_CHAR", type := .int, accessFlags := 25, slot := 12, constantValue := 0 }, { name := "T_FLOAT", type := .int, accessFlags := 25, slot := 13, constantValue := 0 }, { name := "T_DOUBLE", type := .int, accessFlags := 25, slot := 14, constantValue := 0 }, { name := "T_BYTE", type := .int, accessFlags := 25, slot := 15, constantValue := 0 }, { name := "T_SHORT", type := .int, accessFlags := 25, slot := 16, constantValue := 0 }, { name := "T_INT", type := .int, accessFlags := 25, slot := 17, constantValue := 0 }, { name := "T_LONG", type := .int, accessFlags := 25, slot := 18, constantValue := 0 }, { name := "JLA", type := (.object "jdk/internal/access/JavaLangAccess"), accessFlags := 26, slot := 19, constantValue := 0 }, { name := "SOFT_MAX_ARRAY_LENGTH", type := .int, accessFlags := 25, slot := 20, constantValue := 0 }]
  methods := #[k12m0]
  instanceTypes := #[]
  staticTypes := #[(.object "jdk/internal/misc/Unsafe"), .boolean, .int, .int, .int, .int, .int, .int, .int, .int, .int, .int, .int, .int, .int, .int, .int, .int, .int, (.object "jdk/internal/access/JavaLangAccess"), .int]
  resolved := Array.replicate 378 none
  statics := none }

def pool13 : Array CpInfo := pool [(1, u "java/lang/Cloneable"), (0, .class_ 1), (0, u "java/lang/Object"), (0, .class_ 3)] 3

/-- java/lang/Cloneable -/
def k13 : Class := { plain "java/lang/Cloneable" (some 0) with
  accessFlags := 1537
  interfaces := #[]
  cf := some (fileOf pool13 2 #[] #[] 1537 4 #[] #[])
  fields := #[]
  methods := #[]
  instanceTypes := #[]
  staticTypes := #[]
  resolved := Array.replicate 8 none
  statics := none }

/-- the primitive byte -/
def k14 : Class := { plain "byte" none with kind := .primitive 'B', accessFlags := 0x411 }
/-- [B -/
def k15 : Class := { plain "[B" (some 0) with kind := .array 14 .byte, interfaces := #[13, 2], accessFlags := 1041 }

/-- the primitive char -/
def k16 : Class := { plain "char" none with kind := .primitive 'C', accessFlags := 0x411 }
/-- [C -/
def k17 : Class := { plain "[C" (some 0) with kind := .array 16 .char, interfaces := #[13, 2], accessFlags := 1041 }

/-- the primitive int -/
def k18 : Class := { plain "int" none with kind := .primitive 'I', accessFlags := 0x411 }
/-- [I -/
def k19 : Class := { plain "[I" (some 0) with kind := .array 18 .int, interfaces := #[13, 2], accessFlags := 1041 }

def heap : Heap := #[{ cls := 7, slots := #[.long 0, .int 1, .null, .int 0, .null, .int 0, .int 0], vm := .statics 7 },
  { cls := 11, slots := #[.null, .null, .null], vm := .statics 11 }]
def classes : Array Class := #[k0, k1, k2, k3, k4, k5, k6, k7, k8, k9, k10, k11, k12, k13, k14, k15, k16, k17, k18, k19]
def interned : List (Array UInt16 × Addr) := []
def slotsUsed : Nat := 10
def theMethod : MethodId := ⟨1, 1⟩
def args0 : Array Value := #[.int 7, .int 65, .int 3, .int 2]
def aboutOver (below : List Frame) : State where
  vm := { classes := classes, interned := interned.toArray }
  heap := heap
  slotsUsed := slotsUsed
  threads := #[{ frames := .invoking theMethod args0 :: below }]
def below0 : List Frame := [.native { method := ⟨0, 0⟩, args := #[] }]
def about1 : State := aboutOver below0
def p0 : Program := .bare "" "" ""
def e0 : Env := launch0.env 0 0 0
theorem w_frames : about1.frames = Frame.invoking theMethod args0 :: below0 := rfl
set_option maxRecDepth 65536 in
theorem w_args : argsFit about1.vm theMethod args0 = true := by decide +kernel
set_option maxRecDepth 65536 in
theorem w_heap : heapFits about1 = true := by decide +kernel
set_option maxRecDepth 65536 in
theorem w_runnable : about1.curStatus? = some .runnable := by decide +kernel
set_option maxRecDepth 65536 in
theorem w_alone : about1.alone = true := by decide +kernel
set_option maxRecDepth 65536 in
theorem w_named : about1.methodNamed? x = some theMethod := by decide +kernel
set_option maxRecDepth 65536 in
theorem w_hears : about1.hears theMethod below0 = true := by decide +kernel
set_option maxRecDepth 65536 in
theorem w_ripe : about1.ripe theMethod args0 below0 = true := by decide +kernel
theorem w_running : about1.status = .running := rfl
set_option maxRecDepth 65536 in
theorem w_room : about1.hasRoom e0.platform room_1 = true :=
  launch0.hasRoom_least _ room_1 (by decide +kernel) (by decide +kernel) (by decide +kernel) (by decide +kernel) (by decide +kernel) (by decide +kernel)
theorem allAtoms_all (ts : List Jvm.Cond) (a : Array Jvm.Value) (st : Jvm.State) : (allAtoms ts).before a st = ts.all (fun c => c.before a st) := by
  induction ts with
  | nil => rfl
  | cons c t ih =>
    show (Jvm.Cond.and c (allAtoms t)).before a st = _
    rw [Jvm.Cond.before_and, ih, List.all_cons]
def words1 : List Jvm.Cond := Jvm.Cond.code x code maxLocals ret :: tables_1
/-- a 'code' word, met by the world's own term for the bytes: nothing is compared byte by byte -/
theorem code_word {y : MethodName} {bytes : ByteArray} {mx : Nat} {rt : Option FieldType} {a : Array Value} {s : State} {m : MethodId} {meth : Method} {c : Code} (h1 : s.methodNamed? y = some m) (h2 : s.vm.method? m = some meth) (h3 : meth.code = some c) (h4 : c.code = bytes)
    (h5 : (c.maxLocals == mx && c.exceptionTable.isEmpty && decide (c.maxStack ≤ mostOperands) && decide (meth.sig.returnType = rt) && !meth.locks && decide (parseMethodDescriptor y.desc = some meth.sig)) = true) : (Jvm.Cond.code y bytes mx rt).before a s = true := by
  simp only [Bool.and_eq_true, beq_iff_eq, Bool.not_eq_true', decide_eq_true_eq] at h5
  obtain ⟨⟨⟨⟨⟨g1, g2⟩, g3⟩, g4⟩, g5⟩, g6⟩ := h5
  simp [Cond.before, Cond.holds, Cond.value, h1, h2, h3, h4, g1, g2, g3, g4, g5, g6]
def isCode : Jvm.Cond → Bool
  | .code _ _ _ _ => true
  | _ => false
theorem all_split {L : List Jvm.Cond} {P : Jvm.Cond → Bool} (h1 : L.all (fun c => isCode c || P c) = true) (h2 : ∀ c ∈ L.filter isCode, P c = true) : L.all P = true := by
  refine List.all_eq_true.mpr fun c hc => ?_
  have h := List.all_eq_true.mp h1 c hc
  rcases Bool.eq_false_or_eq_true (isCode c) with hi | hi
  · exact h2 c (List.mem_filter.mpr ⟨hc, hi⟩)
  · simpa [hi] using h
set_option maxRecDepth 65536 in
theorem w_c0 : (Jvm.Cond.code x code maxLocals ret).before args0 about1 = true := code_word (m := ⟨1, 1⟩) (meth := k1m1) (c := k1c1) (by decide +kernel) rfl rfl rfl (by decide +kernel)
set_option maxRecDepth 65536 in
theorem w_c1 : (Jvm.Cond.code ({ cls := "java/lang/String", name := "<init>", desc := "([C)V" } : Jvm.MethodName) jdk_42_method_3_code (2 : Nat) (Option.none : Option Jvm.ClassFile.FieldType)).before args0 about1 = true := code_word (m := ⟨7, 1⟩) (meth := k7m1) (c := k7c1) (by decide +kernel) rfl rfl rfl (by decide +kernel)
set_option maxRecDepth 65536 in
theorem w_c2 : (Jvm.Cond.code ({ cls := "java/lang/String", name := "<init>", desc := "([CIILjava/lang/Void;)V" } : Jvm.MethodName) jdk_42_method_149_code (6 : Nat) (Option.none : Option Jvm.ClassFile.FieldType)).before args0 about1 = true := code_word (m := ⟨7, 3⟩) (meth := k7m3) (c := k7c3) (by decide +kernel) rfl rfl rfl (by decide +kernel)
set_option maxRecDepth 65536 in
theorem w_c3 : (Jvm.Cond.code ({ cls := "java/lang/Object", name := "<init>", desc := "()V" } : Jvm.MethodName) object_method_1_code (1 : Nat) (Option.none : Option Jvm.ClassFile.FieldType)).before args0 about1 = true := code_word (m := ⟨0, 0⟩) (meth := k0m0) (c := k0c0) (by decide +kernel) rfl rfl rfl (by decide +kernel)
set_option maxRecDepth 65536 in
theorem w_c4 : (Jvm.Cond.code ({ cls := "java/lang/StringUTF16", name := "compress", desc := "([CII)[B" } : Jvm.MethodName) jdk_52_method_16_code (6 : Nat) (Option.some (Jvm.ClassFile.FieldType.array Jvm.ClassFile.FieldType.byte))).before args0 about1 = true := code_word (m := ⟨8, 2⟩) (meth := k8m2) (c := k8c2) (by decide +kernel) rfl rfl rfl (by decide +kernel)
set_option maxRecDepth 65536 in
theorem w_c5 : (Jvm.Cond.code ({ cls := "java/lang/StringUTF16", name := "compress", desc := "([CI[BII)I" } : Jvm.MethodName) jdk_52_method_21_code (7 : Nat) (Option.some Jvm.ClassFile.FieldType.int)).before args0 about1 = true := code_word (m := ⟨8, 3⟩) (meth := k8m3) (c := k8c3) (by decide +kernel) rfl rfl rfl (by decide +kernel)
set_option maxRecDepth 65536 in
theorem w_c6 : (Jvm.Cond.code ({ cls := "java/lang/StringUTF16", name := "coderFromArrayLen", desc := "([BI)B" } : Jvm.MethodName) jdk_52_method_15_code (2 : Nat) (Option.some Jvm.ClassFile.FieldType.byte)).before args0 about1 = true := code_word (m := ⟨8, 1⟩) (meth := k8m1) (c := k8c1) (by decide +kernel) rfl rfl rfl (by decide +kernel)
set_option maxRecDepth 65536 in
theorem w_c7 : (Jvm.Cond.code ({ cls := "java/lang/String", name := "valueOf", desc := "(C)Ljava/lang/String;" } : Jvm.MethodName) jdk_42_method_139_code (1 : Nat) (Option.some (Jvm.ClassFile.FieldType.object "java/lang/String"))).before args0 about1 = true := code_word (m := ⟨7, 2⟩) (meth := k7m2) (c := k7c2) (by decide +kernel) rfl rfl rfl (by decide +kernel)
set_option maxRecDepth 65536 in
theorem w_c8 : (Jvm.Cond.code ({ cls := "java/lang/StringLatin1", name := "canEncode", desc := "(C)Z" } : Jvm.MethodName) jdk_43_method_3_code (1 : Nat) (Option.some Jvm.ClassFile.FieldType.boolean)).before args0 about1 = true := code_word (m := ⟨9, 1⟩) (meth := k9m1) (c := k9c1) (by decide +kernel) rfl rfl rfl (by decide +kernel)
set_option maxRecDepth 65536 in
theorem w_c9 : (Jvm.Cond.code ({ cls := "java/lang/StringLatin1", name := "toBytes", desc := "(C)[B" } : Jvm.MethodName) jdk_43_method_46_code (1 : Nat) (Option.some (Jvm.ClassFile.FieldType.array Jvm.ClassFile.FieldType.byte))).before args0 about1 = true := code_word (m := ⟨9, 2⟩) (meth := k9m2) (c := k9c2) (by decide +kernel) rfl rfl rfl (by decide +kernel)
set_option maxRecDepth 65536 in
theorem w_c10 : (Jvm.Cond.code ({ cls := "java/lang/String", name := "<init>", desc := "([BB)V" } : Jvm.MethodName) jdk_42_method_151_code (3 : Nat) (Option.none : Option Jvm.ClassFile.FieldType)).before args0 about1 = true := code_word (m := ⟨7, 4⟩) (meth := k7m4) (c := k7c4) (by decide +kernel) rfl rfl rfl (by decide +kernel)
set_option maxRecDepth 65536 in
theorem w_c11 : (Jvm.Cond.code ({ cls := "com/example/polyvane/polyvane/moead/DecompositionAlgorithm", name := "checkedProbability", desc := "(Ljava/lang/String;D)D" } : Jvm.MethodName) prog_29_method_11_code (3 : Nat) (Option.some Jvm.ClassFile.FieldType.double)).before args0 about1 = true := code_word (m := ⟨10, 0⟩) (meth := k10m0) (c := k10c0) (by decide +kernel) rfl rfl rfl (by decide +kernel)
def codes1 : List Jvm.Cond := [Jvm.Cond.code x code maxLocals ret, Jvm.Cond.code ({ cls := "java/lang/String", name := "<init>", desc := "([C)V" } : Jvm.MethodName) jdk_42_method_3_code (2 : Nat) (Option.none : Option Jvm.ClassFile.FieldType), Jvm.Cond.code ({ cls := "java/lang/String", name := "<init>", desc := "([CIILjava/lang/Void;)V" } : Jvm.MethodName) jdk_42_method_149_code (6 : Nat) (Option.none : Option Jvm.ClassFile.FieldType), Jvm.Cond.code ({ cls := "java/lang/Object", name := "<init>", desc := "()V" } : Jvm.MethodName) object_method_1_code (1 : Nat) (Option.none : Option Jvm.ClassFile.FieldType), Jvm.Cond.code ({ cls := "java/lang/StringUTF16", name := "compress", desc := "([CII)[B" } : Jvm.MethodName) jdk_52_method_16_code (6 : Nat) (Option.some (Jvm.ClassFile.FieldType.array Jvm.ClassFile.FieldType.byte)), Jvm.Cond.code ({ cls := "java/lang/StringUTF16", name := "compress", desc := "([CI[BII)I" } : Jvm.MethodName) jdk_52_method_21_code (7 : Nat) (Option.some Jvm.ClassFile.FieldType.int), Jvm.Cond.code ({ cls := "java/lang/StringUTF16", name := "coderFromArrayLen", desc := "([BI)B" } : Jvm.MethodName) jdk_52_method_15_code (2 : Nat) (Option.some Jvm.ClassFile.FieldType.byte), Jvm.Cond.code ({ cls := "java/lang/String", name := "valueOf", desc := "(C)Ljava/lang/String;" } : Jvm.MethodName) jdk_42_method_139_code (1 : Nat) (Option.some (Jvm.ClassFile.FieldType.object "java/lang/String")), Jvm.Cond.code ({ cls := "java/lang/StringLatin1", name := "canEncode", desc := "(C)Z" } : Jvm.MethodName) jdk_43_method_3_code (1 : Nat) (Option.some Jvm.ClassFile.FieldType.boolean), Jvm.Cond.code ({ cls := "java/lang/StringLatin1", name := "toBytes", desc := "(C)[B" } : Jvm.MethodName) jdk_43_method_46_code (1 : Nat) (Option.some (Jvm.ClassFile.FieldType.array Jvm.ClassFile.FieldType.byte)), Jvm.Cond.code ({ cls := "java/lang/String", name := "<init>", desc := "([BB)V" } : Jvm.MethodName) jdk_42_method_151_code (3 : Nat) (Option.none : Option Jvm.ClassFile.FieldType), Jvm.Cond.code ({ cls := "com/example/polyvane/polyvane/moead/DecompositionAlgorithm", name := "checkedProbability", desc := "(Ljava/lang/String;D)D" } : Jvm.MethodName) prog_29_method_11_code (3 : Nat) (Option.some Jvm.ClassFile.FieldType.double)]
set_option maxRecDepth 65536 in
theorem codes_eq : words1.filter isCode = codes1 := rfl
theorem w_codes : ∀ c ∈ words1.filter isCode, c.before args0 about1 = true := by
  rw [codes_eq]
  intro c hc
  simp only [codes1, List.mem_cons, List.not_mem_nil, or_false] at hc
  rcases hc with rfl | rfl | rfl | rfl | rfl | rfl | rfl | rfl | rfl | rfl | rfl | rfl
  · exact w_c0
  · exact w_c1
  · exact w_c2
  · exact w_c3
  · exact w_c4
  · exact w_c5
  · exact w_c6
  · exact w_c7
  · exact w_c8
  · exact w_c9
  · exact w_c10
  · exact w_c11
set_option maxRecDepth 65536 in
theorem w_t1 : (words1.take 24).all (fun c => isCode c || c.before args0 about1) = true := by decide +kernel
set_option maxRecDepth 65536 in
theorem w_t2 : ((words1.drop 24).take 24).all (fun c => isCode c || c.before args0 about1) = true := by decide +kernel
set_option maxRecDepth 65536 in
theorem w_t3 : ((words1.drop 24).drop 24).all (fun c => isCode c || c.before args0 about1) = true := by decide +kernel
theorem w_tables : (allAtoms (Jvm.Cond.code x code maxLocals ret :: tables_1)).before args0 about1 = true := by
  rw [allAtoms_all]
  show words1.all (fun c => c.before args0 about1) = true
  refine all_split ?_ w_codes
  rw [← List.take_append_drop 24 words1, List.all_append, w_t1, ← List.take_append_drop 24 (words1.drop 24), List.all_append, w_t2, w_t3]
  rfl
set_option maxRecDepth 65536 in
theorem w_rest : rest_1_c.before args0 about1 = true := by decide +kernel
set_option maxRecDepth 65536 in
theorem w_case : (Jvm.Cond.and given_1 narrow_1).before args0 about1 = true := by decide +kernel
theorem w_applies : (headSpec (Jvm.Cond.code x code maxLocals ret :: tables_1) room_1).applies x e0.platform about1 = true :=
  (Spec.applies_iff w_frames).mpr ⟨w_running, w_runnable, w_alone, w_named, w_hears, w_ripe, w_room, w_tables⟩
theorem atStart : AtStart classFile x code maxLocals ret World_1 tables_1 room_1 Calls_1 rest_1 Pre_1 launch0 p0 e0 about1 theMethod args0 below0 :=
  ⟨lists_1, trivial, launch0.admits_env _ _ _, launch0.least_env, fairChoices_fair.cas, fairChoices_fair.clock, w_frames, w_args, w_heap, w_applies, trivial, w_rest, w_case⟩
end start1
theorem witness_1 : WitnessClaimed_1 := ⟨start1.p0, start1.e0, start1.about1, start1.theMethod, start1.args0, start1.below0, start1.atStart⟩
end Jvm.Pilot.@@N@@
