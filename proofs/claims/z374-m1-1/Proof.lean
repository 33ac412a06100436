import JvmDerived
import JvmDerived.Pilot.@@N@@Statement
import JvmDerived.Pilot.@@N@@Code
set_option linter.unusedVariables false
set_option linter.unusedSimpArgs false
namespace Jvm.RoadKit
open Sem ClassFile Op Lib Jvm.Stand Jvm.Free Jvm.LawKit
section New
variable {p : Program} {l : Launch} {e : Env} {R : Room} {s : State} {m : MethodId} {args : Array Value} {below : List Frame} {meth : Method} {c : Code} {T : State} {locs : List Loc} {cells slots : Nat}
theorem retI (X : Stand p l e R s m args below meth c T locs cells slots) (hx : p.tables.exec = Jvm.exec) {pc : Nat} {Ls : Array Slot} {z : Int32} {rest : List Value} (hret : meth.sig.returnType = some .int) (hd : decode c.code pc = .ok (.ireturn, 1)) {fs : List Frame}
    (hl : ∀ (f : JFrame) (acts : List Action), f.method = m → f.locked = none → f.entered = [] → (doReturn e (T.setTop f) acts (some (.int z))).1 = T.setFrames fs) : Steps p.tables e below (T.setTop (mkF m pc Ls (.int z :: rest))) (T.setFrames fs) := by
  have hm' : T.vm.method? m = some meth := X.method'
  have hn : narrow .int (.int z) = .int z := rfl
  show Steps p.tables e below (T.setTop { method := m, pc := pc, locals := Ls, stack := _ :: rest, locked := none }) _
  jvm_step X.here [X.here.top, hx, hd, hm', hret, hn]
  first | (intro acts; rw [hl _ acts rfl rfl rfl]) | rw [hl _ _ rfl rfl rfl]
  exact Steps.refl _
end New
end Jvm.RoadKit
namespace Jvm.Pilot.@@N@@
open Jvm Jvm.ClassFile Sem Op Lib Jvm.Free Jvm.Stand Jvm.LawKit Jvm.RoadKit Bundle Jvm.Pilot.@@N@@.Jvm.D
theorem own_mask (x : Int32) : ∃ n : Nat, n < 64 ∧ (x &&& (63 : Int32)) = Int32.ofNat n := by
  refine ⟨(x &&& 63).toBitVec.toNat, ?_, ?_⟩
  · simp only [Int32.toBitVec_and, BitVec.toNat_and]
    exact Nat.lt_succ_of_le Nat.and_le_right
  · apply Int32.toBitVec_inj.mp
    show _ = BitVec.ofNat 32 _
    rw [BitVec.ofNat_toNat]; simp
def own_cn (p2 : Int32) : Int32 := ((p2 &&& (63 : Int32)) + (1 : Int32))
def own_rs (q1 : Int64) (p2 : Int32) : Int64 := ((q1 <<< (((64 : Int32) - (own_cn p2)) &&& 0x3f).toInt64) >>> (((64 : Int32) - (own_cn p2)) &&& 0x3f).toInt64)
def own_ru (q1 : Int64) (p2 : Int32) : Int64 := (((q1 <<< (((64 : Int32) - (own_cn p2)) &&& 0x3f).toInt64).toUInt64 >>> (((64 : Int32) - (own_cn p2)) &&& 0x3f).toInt64.toUInt64).toInt64)
def own_mk (p2 : Int32) : Int64 := (((1 : Int64) <<< ((own_cn p2) &&& 0x3f).toInt64) - (1 : Int64))
def own_ts (q1 : Int64) (p2 : Int32) : Int64 := ((own_rs q1 p2) >>> (((own_cn p2) - (1 : Int32)) &&& 0x3f).toInt64)
def own_tu (q1 : Int64) (p2 : Int32) : Int64 := (((own_ru q1 p2).toUInt64 >>> (((own_cn p2) - (1 : Int32)) &&& 0x3f).toInt64.toUInt64).toInt64)
theorem own_amt : ∀ k : Fin 64, ((Int32.ofNat k.val &&& 0x3f).toInt64.toBitVec.smod 64).toNat = k.val := by decide +kernel
theorem own_amtU : ∀ k : Fin 64, ((Int32.ofNat k.val &&& 0x3f).toInt64.toUInt64.toBitVec % 64).toNat = k.val := by decide +kernel
theorem own_rest : ∀ k : Fin 64, (64 : Int32) - (Int32.ofNat k.val + 1) = Int32.ofNat (63 - k.val) := by decide +kernel
theorem own_less : ∀ k : Fin 64, (Int32.ofNat k.val + 1) - 1 = Int32.ofNat k.val := by decide +kernel
theorem own_full : ∀ k : Fin 64, (Int32.ofNat k.val + 1 = 64) → k.val = 63 := by decide +kernel
theorem own_notfull : ∀ k : Fin 64, ¬ (Int32.ofNat k.val + 1 = 64) → k.val < 63 := by decide +kernel
theorem own_mkbit : ∀ (k : Fin 63) (i : Fin 64), (((1 : Int64) <<< ((Int32.ofNat k.val + 1) &&& 0x3f).toInt64) - (1 : Int64)).toBitVec.getLsbD i.val = decide (i.val ≤ k.val) := by decide +kernel
theorem own_shl (v : Int64) (k : Nat) (hk : k < 64) : (v <<< (Int32.ofNat k &&& 0x3f).toInt64).toBitVec = v.toBitVec <<< k := by
  show v.toBitVec <<< ((Int32.ofNat k &&& 0x3f).toInt64.toBitVec.smod 64) = _
  rw [BitVec.shiftLeft_eq', own_amt ⟨k, hk⟩]
theorem own_shr (v : Int64) (k : Nat) (hk : k < 64) : (v >>> (Int32.ofNat k &&& 0x3f).toInt64).toBitVec = v.toBitVec.sshiftRight k := by
  show v.toBitVec.sshiftRight ((Int32.ofNat k &&& 0x3f).toInt64.toBitVec.smod 64).toNat = _
  rw [own_amt ⟨k, hk⟩]
theorem own_ushr (v : Int64) (k : Nat) (hk : k < 64) : ((v.toUInt64 >>> (Int32.ofNat k &&& 0x3f).toInt64.toUInt64).toInt64).toBitVec = v.toBitVec >>> k := by
  rw [UInt64.toBitVec_toInt64, UInt64.toBitVec_shiftRight, Int64.toBitVec_toUInt64, BitVec.ushiftRight_eq', own_amtU ⟨k, hk⟩]
theorem own_bs (V : BitVec 64) (m j : Nat) (hm : m < 64) (hj : j < 64) : ((V <<< (63 - m)).sshiftRight (63 - m)).getLsbD j = V.getLsbD (if j ≤ m then j else m) := by
  rw [BitVec.getLsbD_sshiftRight]
  by_cases h : j ≤ m
  · rw [if_pos (by omega), if_pos h, BitVec.getLsbD_shiftLeft]
    have e : 63 - m + j - (63 - m) = j := by omega
    rw [e]
    simp [show ¬ 64 ≤ j by omega, show 63 - m + j < 64 by omega]
  · rw [if_neg (by omega), if_neg h, BitVec.msb_eq_getLsbD_last, BitVec.getLsbD_shiftLeft]
    have e : 64 - 1 - (63 - m) = m := by omega
    rw [e]
    simp [show ¬ 64 ≤ j by omega, show ¬ 63 < 63 - m by omega]
theorem own_bu (V : BitVec 64) (m j : Nat) (hm : m < 64) : ((V <<< (63 - m)) >>> (63 - m)).getLsbD j = (decide (j ≤ m) && V.getLsbD j) := by
  rw [BitVec.getLsbD_ushiftRight, BitVec.getLsbD_shiftLeft]
  have e : 63 - m + j - (63 - m) = j := by omega
  rw [e]
  by_cases h : j ≤ m
  · simp [h, show 63 - m + j < 64 by omega]
  · simp [h, show ¬ 63 - m + j < 64 by omega]
section OwnBits
variable (q1 : Int64) (p2 : Int32)
theorem own_rsB {m : Nat} (hm : m < 64) (e : p2 &&& 63 = Int32.ofNat m) : (own_rs q1 p2).toBitVec = (q1.toBitVec <<< (63 - m)).sshiftRight (63 - m) := by
  unfold own_rs own_cn
  rw [e, own_rest ⟨m, hm⟩, own_shr _ _ (by omega), own_shl _ _ (by omega)]
theorem own_ruB {m : Nat} (hm : m < 64) (e : p2 &&& 63 = Int32.ofNat m) : (own_ru q1 p2).toBitVec = (q1.toBitVec <<< (63 - m)) >>> (63 - m) := by
  unfold own_ru own_cn
  rw [e, own_rest ⟨m, hm⟩, own_ushr _ _ (by omega), own_shl _ _ (by omega)]
theorem own_low {r : Int64} {k : Int64} {m : Nat} (hm : m < 64) (hr : ∀ j, j ≤ m → r.toBitVec.getLsbD j = q1.toBitVec.getLsbD j) (hk : ∀ j, j < 64 → m < j → k.toBitVec.getLsbD j = false) : (r ^^^ q1) &&& k = 0 := by
  apply Int64.toBitVec_inj.mp
  apply BitVec.eq_of_getLsbD_eq
  intro i hi
  rw [Int64.toBitVec_and, Int64.toBitVec_xor, BitVec.getLsbD_and, BitVec.getLsbD_xor]
  show _ = (0#64).getLsbD i
  rw [BitVec.getLsbD_zero]
  by_cases h : i ≤ m
  · rw [hr i h]; simp
  · rw [hk i hi (by omega)]; simp
theorem own_mask_hi {m : Nat} (hm : m < 63) (e : p2 &&& 63 = Int32.ofNat m) : ∀ j, j < 64 → m < j → (own_mk p2).toBitVec.getLsbD j = false := by
  intro j hj h
  unfold own_mk own_cn
  rw [e, own_mkbit ⟨m, hm⟩ ⟨j, hj⟩]
  simp; omega
theorem own_low_s (h : ¬ own_cn p2 = 64) : (own_rs q1 p2 ^^^ q1) &&& own_mk p2 = 0 := by
  obtain ⟨m, hm, e⟩ := own_mask p2
  have hm' : m < 63 := own_notfull ⟨m, hm⟩ (by unfold own_cn at h; rw [e] at h; exact h)
  refine own_low q1 hm (fun j hj => ?_) (own_mask_hi p2 hm' e)
  rw [own_rsB q1 p2 hm e, own_bs _ _ _ hm (by omega), if_pos hj]
theorem own_low_u (h : ¬ own_cn p2 = 64) : (own_ru q1 p2 ^^^ q1) &&& own_mk p2 = 0 := by
  obtain ⟨m, hm, e⟩ := own_mask p2
  have hm' : m < 63 := own_notfull ⟨m, hm⟩ (by unfold own_cn at h; rw [e] at h; exact h)
  refine own_low q1 hm (fun j hj => ?_) (own_mask_hi p2 hm' e)
  rw [own_ruB q1 p2 hm e, own_bu _ _ _ hm, decide_eq_true hj, Bool.true_and]
theorem own_low_s64 (h : own_cn p2 = 64) : (own_rs q1 p2 ^^^ q1) &&& (-1 : Int64) = 0 := by
  obtain ⟨m, hm, e⟩ := own_mask p2
  have hm' : m = 63 := own_full ⟨m, hm⟩ (by unfold own_cn at h; rw [e] at h; exact h)
  refine own_low q1 hm (fun j hj => ?_) (fun j h1 h2 => by omega)
  rw [own_rsB q1 p2 hm e, own_bs _ _ _ hm (by omega), if_pos hj]
theorem own_low_u64 (h : own_cn p2 = 64) : (own_ru q1 p2 ^^^ q1) &&& (-1 : Int64) = 0 := by
  obtain ⟨m, hm, e⟩ := own_mask p2
  have hm' : m = 63 := own_full ⟨m, hm⟩ (by unfold own_cn at h; rw [e] at h; exact h)
  refine own_low q1 hm (fun j hj => ?_) (fun j h1 h2 => by omega)
  rw [own_ruB q1 p2 hm e, own_bu _ _ _ hm, decide_eq_true hj, Bool.true_and]
theorem own_top_s : own_ts q1 p2 = 0 ∨ own_ts q1 p2 = -1 := by
  obtain ⟨m, hm, e⟩ := own_mask p2
  have eB : (own_ts q1 p2).toBitVec = ((q1.toBitVec <<< (63 - m)).sshiftRight (63 - m)).sshiftRight m := by
    unfold own_ts own_cn
    rw [e, own_less ⟨m, hm⟩, own_shr _ _ hm, own_rsB q1 p2 hm e]
  have bit : ∀ i, i < 64 → (own_ts q1 p2).toBitVec.getLsbD i = q1.toBitVec.getLsbD m := by
    intro i hi
    rw [eB, BitVec.getLsbD_sshiftRight]
    by_cases h : m + i < 64
    · rw [if_pos h, own_bs _ _ _ hm h]
      by_cases h0 : i = 0
      · subst h0; simp
      · rw [if_neg (by omega)]; simp [show ¬ 64 ≤ i by omega]
    · rw [if_neg h, BitVec.msb_eq_getLsbD_last, own_bs _ _ _ hm (by omega)]
      by_cases h1 : m = 63
      · rw [if_pos (by omega), h1]; simp [show ¬ 64 ≤ i by omega]
      · rw [if_neg (by omega)]; simp [show ¬ 64 ≤ i by omega]
  cases hb : q1.toBitVec.getLsbD m with
  | false =>
    left
    apply Int64.toBitVec_inj.mp
    apply BitVec.eq_of_getLsbD_eq
    intro i hi
    rw [bit i hi, hb]
    show _ = (0#64).getLsbD i
    rw [BitVec.getLsbD_zero]
  | true =>
    right
    apply Int64.toBitVec_inj.mp
    apply BitVec.eq_of_getLsbD_eq
    intro i hi
    rw [bit i hi, hb]
    show _ = (BitVec.allOnes 64).getLsbD i
    rw [BitVec.getLsbD_allOnes, decide_eq_true hi]
theorem own_top_u : own_tu q1 p2 = 0 ∨ own_tu q1 p2 = 1 := by
  obtain ⟨m, hm, e⟩ := own_mask p2
  have eB : (own_tu q1 p2).toBitVec = ((q1.toBitVec <<< (63 - m)) >>> (63 - m)) >>> m := by
    unfold own_tu own_cn
    rw [e, own_less ⟨m, hm⟩, own_ushr _ _ hm, own_ruB q1 p2 hm e]
  have bit : ∀ i, i < 64 → (own_tu q1 p2).toBitVec.getLsbD i = (decide (i = 0) && q1.toBitVec.getLsbD m) := by
    intro i hi
    rw [eB, BitVec.getLsbD_ushiftRight, own_bu _ _ _ hm]
    by_cases h0 : i = 0
    · subst h0; simp
    · simp [h0, show ¬ m + i ≤ m by omega]
  cases hb : q1.toBitVec.getLsbD m with
  | false =>
    left
    apply Int64.toBitVec_inj.mp
    apply BitVec.eq_of_getLsbD_eq
    intro i hi
    rw [bit i hi, hb]
    show _ = (0#64).getLsbD i
    rw [BitVec.getLsbD_zero, Bool.and_false]
  | true =>
    right
    apply Int64.toBitVec_inj.mp
    apply BitVec.eq_of_getLsbD_eq
    intro i hi
    rw [bit i hi, hb]
    show _ = (1#64).getLsbD i
    rw [BitVec.getLsbD_one, Bool.and_true]
    simp
end OwnBits
theorem d1_0 : decode prog_14_method_3_code 0 = .ok (.bipush 64, 2) := by decide +kernel
theorem d1_2 : decode prog_14_method_3_code 2 = .ok (.iload_n 2, 1) := by decide +kernel
theorem d1_3 : decode prog_14_method_3_code 3 = .ok (.isub, 1) := by decide +kernel
theorem d1_4 : decode prog_14_method_3_code 4 = .ok (.istore 4, 2) := by decide +kernel
theorem d1_6 : decode prog_14_method_3_code 6 = .ok (.iload_n 3, 1) := by decide +kernel
theorem d1_7 : decode prog_14_method_3_code 7 = .ok (.ifCond .eq 13, 3) := by decide +kernel
theorem d1_10 : decode prog_14_method_3_code 10 = .ok (.lload_n 0, 1) := by decide +kernel
theorem d1_11 : decode prog_14_method_3_code 11 = .ok (.iload 4, 2) := by decide +kernel
theorem d1_13 : decode prog_14_method_3_code 13 = .ok (.lshl, 1) := by decide +kernel
theorem d1_14 : decode prog_14_method_3_code 14 = .ok (.iload 4, 2) := by decide +kernel
theorem d1_16 : decode prog_14_method_3_code 16 = .ok (.lshr, 1) := by decide +kernel
theorem d1_17 : decode prog_14_method_3_code 17 = .ok (.goto 10, 3) := by decide +kernel
theorem d1_27 : decode prog_14_method_3_code 27 = .ok (.lreturn, 1) := by decide +kernel
theorem pn_1 : plainName "com/example/narrowint/narrowint/codec/Bits" = true := by first | (simp [plainName, overriddenIn]; done) | decide +kernel
theorem ef_1 (m : MethodId) (x0 : Int64) (x1 : Int32) (x2 : Int32) : entryFrame m #[(.long x0), (.int x1), (.int x2)] 5 = mkF m 0 #[.val (.long x0), .second, .val (.int x1), .val (.int x2), .unset] [] := by first | (simp [entryFrame, mkF, argsToLocals, Value.category]; done) | rfl
def own_fs (q1 : Int64) (p2 : Int32) : Int64 := ((q1 <<< (((64 : Int32) - p2) &&& 0x3f).toInt64) >>> (((64 : Int32) - p2) &&& 0x3f).toInt64)
def Q1s (Z : State) (q1 : Int64) (p2 : Int32) (p3 : Int32) (h0 : Heap) (n0 : Nat) (v : Option Value) (h : Heap) (L : List Loc) : Prop := v = some (.long (own_fs q1 p2)) ∧ Fr n0 L ∧ h = h0
set_option maxRecDepth 65536 in
set_option maxHeartbeats 40000000 in
theorem rm1s (l : Launch) (Z : State) (a0 : Array Value) (hw : ∀ d ∈ tables_1, d.before a0 Z = true) (ws : List Jvm.Cond) (q1 : Int64) (p2 : Int32) (p3 : Int32) (h0 : Heap) (n0 : Nat) (Z0 : n0 ≤ h0.size) (hc7 : ¬ (p3 = (0 : Int32))) :
    MetFree l (⟨"com/example/narrowint/narrowint/codec/Bits", "fromLow", "(JIZ)J"⟩ : MethodName) (head1 (Jvm.Cond.code (⟨"com/example/narrowint/narrowint/codec/Bits", "fromLow", "(JIZ)J"⟩ : MethodName) prog_14_method_3_code 5 (some .long) :: ws) ({ frames := 0, cells := 0, slots := 0, locals := 0 } : Room)) (fun a U => a = #[(.long q1), (.int p2), (.int p3)] ∧ Z.Warmed39 U.vm ∧ U.heap = h0) (fun _ _ _ _ _ => True) (fun _ U o U' => ∃ v L, o = .returned v ∧ Q1s Z q1 p2 p3 h0 n0 v U'.heap L ∧ FrameEnd U o U' L ({ frames := 0, cells := 0, slots := 0, locals := 0 } : Room).cells ({ frames := 0, cells := 0, slots := 0, locals := 0 } : Room).slots) := by
  refine MetFree.of_bodySF (plainFor_of_name pn_1) hisR ?_
  intro p e s m args below meth c s₁ Bd hml0 hP hK
  obtain ⟨rfl, hZ, hh⟩ := hP
  have hx := Bd.exec
  have hby := Bd.bytes
  have hml : c.maxLocals = 5 := hml0
  have hown : s.vm.findClass "com/example/narrowint/narrowint/codec/Bits" = some m.cls := findClass_of_methodNamed Bd.named
  have hnm := (name_of_methodNamed Bd.named Bd.method).1
  have X0 : Stand p l e ({ frames := 0, cells := 0, slots := 0, locals := 0 } : Room) s m #[(.long q1), (.int p2), (.int p3)] below meth c s₁ [] 0 0 := Stand.of_body Bd
  have e0 : s₁.heap = h0 := by rw [← hh, Bd.state]; rfl
  have N0 := Fr.nil n0
  have pre0 : ∀ t, Steps p.tables e below (s₁.setTop (mkF m 0 #[.val (.long q1), .second, .val (.int p2), .val (.int p3), .unset] [])) t → Steps p.tables e below (s₁.setTop (entryFrame m #[(.long q1), (.int p2), (.int p3)] 5)) t := fun t k => castTop (ef_1 m q1 p2 p3) k
  obtain ⟨fs, hr, hrun, hended, hW, hsame⟩ := X0.leave (v := some (.long (own_fs q1 p2))) (fun h => by rw [Bd.returns] at h; cases h)
  refine ⟨_, _, pre0 _ ?_, hrun, hended, _, _, rfl, ?_, ⟨_, rfl⟩, hW, hsame.mono (by decide) (by decide)⟩
  · show Steps p.tables e below (s₁.setTop (mkF m 0 #[.val (.long q1), .second, .val (.int p2), .val (.int p3), .unset] [])) _
    refine XS.bipush X0.here hx rfl (hb hby d1_0) ?_
    show Steps p.tables e below (s₁.setTop (mkF m 2 #[.val (.long q1), .second, .val (.int p2), .val (.int p3), .unset] [(.int (64 : Int32))])) _
    refine XS.iloadN X0.here hx rfl (hb hby d1_2) rfl ?_
    show Steps p.tables e below (s₁.setTop (mkF m 3 #[.val (.long q1), .second, .val (.int p2), .val (.int p3), .unset] [(.int p2), (.int (64 : Int32))])) _
    refine XS.isub X0.here hx rfl (hb hby d1_3) rfl ?_
    show Steps p.tables e below (s₁.setTop (mkF m 4 #[.val (.long q1), .second, .val (.int p2), .val (.int p3), .unset] [(.int ((64 : Int32) - p2))])) _
    refine XS.istore X0.here hx rfl (hb hby d1_4) rfl (l' := #[.val (.long q1), .second, .val (.int p2), .val (.int p3), .val (.int ((64 : Int32) - p2))]) rfl ?_
    show Steps p.tables e below (s₁.setTop (mkF m 6 #[.val (.long q1), .second, .val (.int p2), .val (.int p3), .val (.int ((64 : Int32) - p2))] [])) _
    refine XS.iloadN X0.here hx rfl (hb hby d1_6) rfl ?_
    show Steps p.tables e below (s₁.setTop (mkF m 7 #[.val (.long q1), .second, .val (.int p2), .val (.int p3), .val (.int ((64 : Int32) - p2))] [(.int p3)])) _
    refine XS.ifNo X0.here hx rfl (hb hby d1_7) rfl ((if0 _ _).trans (feq hc7).1) ?_
    show Steps p.tables e below (s₁.setTop (mkF m 10 #[.val (.long q1), .second, .val (.int p2), .val (.int p3), .val (.int ((64 : Int32) - p2))] [])) _
    refine XS.lloadN X0.here hx rfl (hb hby d1_10) rfl ?_
    show Steps p.tables e below (s₁.setTop (mkF m 11 #[.val (.long q1), .second, .val (.int p2), .val (.int p3), .val (.int ((64 : Int32) - p2))] [(.long q1)])) _
    refine XS.iload X0.here hx rfl (hb hby d1_11) rfl ?_
    show Steps p.tables e below (s₁.setTop (mkF m 13 #[.val (.long q1), .second, .val (.int p2), .val (.int p3), .val (.int ((64 : Int32) - p2))] [(.int ((64 : Int32) - p2)), (.long q1)])) _
    refine XS.lshl X0.here hx rfl (hb hby d1_13) rfl ?_
    show Steps p.tables e below (s₁.setTop (mkF m 14 #[.val (.long q1), .second, .val (.int p2), .val (.int p3), .val (.int ((64 : Int32) - p2))] [(.long (q1 <<< (((64 : Int32) - p2) &&& 0x3f).toInt64))])) _
    refine XS.iload X0.here hx rfl (hb hby d1_14) rfl ?_
    show Steps p.tables e below (s₁.setTop (mkF m 16 #[.val (.long q1), .second, .val (.int p2), .val (.int p3), .val (.int ((64 : Int32) - p2))] [(.int ((64 : Int32) - p2)), (.long (q1 <<< (((64 : Int32) - p2) &&& 0x3f).toInt64))])) _
    refine XS.lshr X0.here hx rfl (hb hby d1_16) rfl ?_
    show Steps p.tables e below (s₁.setTop (mkF m 17 #[.val (.long q1), .second, .val (.int p2), .val (.int p3), .val (.int ((64 : Int32) - p2))] [(.long (own_fs q1 p2))])) _
    refine XS.goto X0.here hx rfl (pc0 := 17) (pc' := 27) rfl (hb hby d1_17) (by decide) (by decide) ?_
    show Steps p.tables e below (s₁.setTop (mkF m 27 #[.val (.long q1), .second, .val (.int p2), .val (.int p3), .val (.int ((64 : Int32) - p2))] [(.long (own_fs q1 p2))])) _
    jvm_step X0.here [X0.here.top, hx, (hb hby d1_27), X0.method', Bd.returns, narrow]
    first | (intro acts; rw [hr _ acts rfl rfl rfl]) | rw [hr _ _ rfl rfl rfl]
    exact Steps.refl _
  · show Q1s Z q1 p2 p3 h0 n0 _ s₁.heap _
    rw [e0]
    exact ⟨rfl, N0, rfl⟩
theorem d1_20 : decode prog_14_method_3_code 20 = .ok (.lload_n 0, 1) := by decide +kernel
theorem d1_21 : decode prog_14_method_3_code 21 = .ok (.iload 4, 2) := by decide +kernel
theorem d1_23 : decode prog_14_method_3_code 23 = .ok (.lshl, 1) := by decide +kernel
theorem d1_24 : decode prog_14_method_3_code 24 = .ok (.iload 4, 2) := by decide +kernel
theorem d1_26 : decode prog_14_method_3_code 26 = .ok (.lushr, 1) := by decide +kernel
def own_fu (q1 : Int64) (p2 : Int32) : Int64 := (((q1 <<< (((64 : Int32) - p2) &&& 0x3f).toInt64).toUInt64 >>> (((64 : Int32) - p2) &&& 0x3f).toInt64.toUInt64).toInt64)
def Q1u (Z : State) (q1 : Int64) (p2 : Int32) (p3 : Int32) (h0 : Heap) (n0 : Nat) (v : Option Value) (h : Heap) (L : List Loc) : Prop := v = some (.long (own_fu q1 p2)) ∧ Fr n0 L ∧ h = h0
set_option maxRecDepth 65536 in
set_option maxHeartbeats 40000000 in
theorem rm1u (l : Launch) (Z : State) (a0 : Array Value) (hw : ∀ d ∈ tables_1, d.before a0 Z = true) (ws : List Jvm.Cond) (q1 : Int64) (p2 : Int32) (p3 : Int32) (h0 : Heap) (n0 : Nat) (Z0 : n0 ≤ h0.size) (hc7 : p3 = (0 : Int32)) :
    MetFree l (⟨"com/example/narrowint/narrowint/codec/Bits", "fromLow", "(JIZ)J"⟩ : MethodName) (head1 (Jvm.Cond.code (⟨"com/example/narrowint/narrowint/codec/Bits", "fromLow", "(JIZ)J"⟩ : MethodName) prog_14_method_3_code 5 (some .long) :: ws) ({ frames := 0, cells := 0, slots := 0, locals := 0 } : Room)) (fun a U => a = #[(.long q1), (.int p2), (.int p3)] ∧ Z.Warmed39 U.vm ∧ U.heap = h0) (fun _ _ _ _ _ => True) (fun _ U o U' => ∃ v L, o = .returned v ∧ Q1u Z q1 p2 p3 h0 n0 v U'.heap L ∧ FrameEnd U o U' L ({ frames := 0, cells := 0, slots := 0, locals := 0 } : Room).cells ({ frames := 0, cells := 0, slots := 0, locals := 0 } : Room).slots) := by
  refine MetFree.of_bodySF (plainFor_of_name pn_1) hisR ?_
  intro p e s m args below meth c s₁ Bd hml0 hP hK
  obtain ⟨rfl, hZ, hh⟩ := hP
  have hx := Bd.exec
  have hby := Bd.bytes
  have hml : c.maxLocals = 5 := hml0
  have hown : s.vm.findClass "com/example/narrowint/narrowint/codec/Bits" = some m.cls := findClass_of_methodNamed Bd.named
  have hnm := (name_of_methodNamed Bd.named Bd.method).1
  have X0 : Stand p l e ({ frames := 0, cells := 0, slots := 0, locals := 0 } : Room) s m #[(.long q1), (.int p2), (.int p3)] below meth c s₁ [] 0 0 := Stand.of_body Bd
  have e0 : s₁.heap = h0 := by rw [← hh, Bd.state]; rfl
  have N0 := Fr.nil n0
  have pre0 : ∀ t, Steps p.tables e below (s₁.setTop (mkF m 0 #[.val (.long q1), .second, .val (.int p2), .val (.int p3), .unset] [])) t → Steps p.tables e below (s₁.setTop (entryFrame m #[(.long q1), (.int p2), (.int p3)] 5)) t := fun t k => castTop (ef_1 m q1 p2 p3) k
  obtain ⟨fs, hr, hrun, hended, hW, hsame⟩ := X0.leave (v := some (.long (own_fu q1 p2))) (fun h => by rw [Bd.returns] at h; cases h)
  refine ⟨_, _, pre0 _ ?_, hrun, hended, _, _, rfl, ?_, ⟨_, rfl⟩, hW, hsame.mono (by decide) (by decide)⟩
  · show Steps p.tables e below (s₁.setTop (mkF m 0 #[.val (.long q1), .second, .val (.int p2), .val (.int p3), .unset] [])) _
    refine XS.bipush X0.here hx rfl (hb hby d1_0) ?_
    show Steps p.tables e below (s₁.setTop (mkF m 2 #[.val (.long q1), .second, .val (.int p2), .val (.int p3), .unset] [(.int (64 : Int32))])) _
    refine XS.iloadN X0.here hx rfl (hb hby d1_2) rfl ?_
    show Steps p.tables e below (s₁.setTop (mkF m 3 #[.val (.long q1), .second, .val (.int p2), .val (.int p3), .unset] [(.int p2), (.int (64 : Int32))])) _
    refine XS.isub X0.here hx rfl (hb hby d1_3) rfl ?_
    show Steps p.tables e below (s₁.setTop (mkF m 4 #[.val (.long q1), .second, .val (.int p2), .val (.int p3), .unset] [(.int ((64 : Int32) - p2))])) _
    refine XS.istore X0.here hx rfl (hb hby d1_4) rfl (l' := #[.val (.long q1), .second, .val (.int p2), .val (.int p3), .val (.int ((64 : Int32) - p2))]) rfl ?_
    show Steps p.tables e below (s₁.setTop (mkF m 6 #[.val (.long q1), .second, .val (.int p2), .val (.int p3), .val (.int ((64 : Int32) - p2))] [])) _
    refine XS.iloadN X0.here hx rfl (hb hby d1_6) rfl ?_
    show Steps p.tables e below (s₁.setTop (mkF m 7 #[.val (.long q1), .second, .val (.int p2), .val (.int p3), .val (.int ((64 : Int32) - p2))] [(.int p3)])) _
    refine XS.ifYes X0.here hx rfl (pc0 := 7) (pc' := 20) rfl (hb hby d1_7) rfl ((if0 _ _).trans (teq hc7).1) (by decide) (by decide) ?_
    show Steps p.tables e below (s₁.setTop (mkF m 20 #[.val (.long q1), .second, .val (.int p2), .val (.int p3), .val (.int ((64 : Int32) - p2))] [])) _
    refine XS.lloadN X0.here hx rfl (hb hby d1_20) rfl ?_
    show Steps p.tables e below (s₁.setTop (mkF m 21 #[.val (.long q1), .second, .val (.int p2), .val (.int p3), .val (.int ((64 : Int32) - p2))] [(.long q1)])) _
    refine XS.iload X0.here hx rfl (hb hby d1_21) rfl ?_
    show Steps p.tables e below (s₁.setTop (mkF m 23 #[.val (.long q1), .second, .val (.int p2), .val (.int p3), .val (.int ((64 : Int32) - p2))] [(.int ((64 : Int32) - p2)), (.long q1)])) _
    refine XS.lshl X0.here hx rfl (hb hby d1_23) rfl ?_
    show Steps p.tables e below (s₁.setTop (mkF m 24 #[.val (.long q1), .second, .val (.int p2), .val (.int p3), .val (.int ((64 : Int32) - p2))] [(.long (q1 <<< (((64 : Int32) - p2) &&& 0x3f).toInt64))])) _
    refine XS.iload X0.here hx rfl (hb hby d1_24) rfl ?_
    show Steps p.tables e below (s₁.setTop (mkF m 26 #[.val (.long q1), .second, .val (.int p2), .val (.int p3), .val (.int ((64 : Int32) - p2))] [(.int ((64 : Int32) - p2)), (.long (q1 <<< (((64 : Int32) - p2) &&& 0x3f).toInt64))])) _
    refine XS.lushr X0.here hx rfl (hb hby d1_26) rfl ?_
    show Steps p.tables e below (s₁.setTop (mkF m 27 #[.val (.long q1), .second, .val (.int p2), .val (.int p3), .val (.int ((64 : Int32) - p2))] [(.long (own_fu q1 p2))])) _
    jvm_step X0.here [X0.here.top, hx, (hb hby d1_27), X0.method', Bd.returns, narrow]
    first | (intro acts; rw [hr _ acts rfl rfl rfl]) | rw [hr _ _ rfl rfl rfl]
    exact Steps.refl _
  · show Q1u Z q1 p2 p3 h0 n0 _ s₁.heap _
    rw [e0]
    exact ⟨rfl, N0, rfl⟩
theorem pn_0 : plainName "com/example/narrowint/narrowint/codec/BitsFromLowPinLaw" = true := by first | (simp [plainName, overriddenIn]; done) | decide +kernel
theorem pd_0_0 : parseMethodDescriptor "(JIZ)J" = some ⟨[.long, .int, .boolean], some .long⟩ := by decide +kernel
theorem ef_0 (m : MethodId) (x0 : Int64) (x1 : Int32) (x2 : Int32) : entryFrame m #[(.long x0), (.int x1), (.int x2)] maxLocals = mkF m 0 #[.val (.long x0), .second, .val (.int x1), .val (.int x2), .unset, .unset, .unset, .unset, .unset, .unset, .unset, .unset, .unset, .unset] [] := by first | (simp [entryFrame, mkF, argsToLocals, Value.category, maxLocals]; done) | rfl
def Q0 (Z : State) (q1 : Int64) (p2 : Int32) (p3 : Int32) (h0 : Heap) (n0 : Nat) (v : Option Value) (h : Heap) (L : List Loc) : Prop := v = some (.int (1 : Int32)) ∧ Fr n0 L
set_option maxRecDepth 65536 in
set_option maxHeartbeats 40000000 in
theorem rm0_1 (l : Launch) (Z : State) (a0 : Array Value) (hw : ∀ d ∈ tables_1, d.before a0 Z = true) (ws : List Jvm.Cond) (q1 : Int64) (p2 : Int32) (p3 : Int32) (h0 : Heap) (n0 : Nat) (Z0 : n0 ≤ h0.size) (hc11 : ¬ ((p3 &&& (1 : Int32)) = (0 : Int32))) (hc35 : (own_cn p2) = (64 : Int32)) (hc73 : ¬ ((1 : Int32) = (0 : Int32))) (hc97 : ¬ ((1 : Int32) = (0 : Int32))) (hc147 : ¬ ((1 : Int32) = (0 : Int32))) (hc152 : ¬ ((1 : Int32) = (0 : Int32))) (hlow : ((own_rs q1 p2) ^^^ q1) &&& (-1 : Int64) = 0) (htop : (own_ts q1 p2) = 0) :
    MetFree l x (head1 (Jvm.Cond.code x code maxLocals ret :: ws) room_1) (fun a U => a = #[(.long q1), (.int p2), (.int p3)] ∧ Z.Warmed39 U.vm ∧ U.heap = h0) (fun _ _ _ _ _ => True) (fun _ U o U' => ∃ v L, o = .returned v ∧ Q0 Z q1 p2 p3 h0 n0 v U'.heap L ∧ FrameEnd U o U' L room_1.cells room_1.slots) := by
  refine MetFree.of_bodySF (plainFor_of_name pn_0) hisR ?_
  intro p e s m args below meth c s₁ Bd hml0 hP hK
  obtain ⟨rfl, hZ, hh⟩ := hP
  have hx := Bd.exec
  have hby := Bd.bytes
  have hml : c.maxLocals = 14 := hml0
  have hown : s.vm.findClass "com/example/narrowint/narrowint/codec/BitsFromLowPinLaw" = some m.cls := findClass_of_methodNamed Bd.named
  have hnm := (name_of_methodNamed Bd.named Bd.method).1
  have X0 : Stand p l e room_1 s m #[(.long q1), (.int p2), (.int p3)] below meth c s₁ [] 0 0 := Stand.of_body Bd
  have e0 : s₁.heap = h0 := by rw [← hh, Bd.state]; rfl
  have N0 := Fr.nil n0
  have pre0 : ∀ t, Steps p.tables e below (s₁.setTop (mkF m 0 #[.val (.long q1), .second, .val (.int p2), .val (.int p3), .unset, .unset, .unset, .unset, .unset, .unset, .unset, .unset, .unset, .unset] [])) t → Steps p.tables e below (s₁.setTop (entryFrame m #[(.long q1), (.int p2), (.int p3)] maxLocals)) t := fun t k => castTop (ef_0 m q1 p2 p3) k
  obtain ⟨_, _, ⟨T4, L4, k4, n4⟩, -, X4, ⟨Lc4, hQ4, l4, y4, z4⟩, st4⟩ := Jvm.LawKit.callS X0 hx (y := (⟨"com/example/narrowint/narrowint/codec/Bits", "fromLow", "(JIZ)J"⟩ : MethodName)) hown (mvT hZ (hw _ (List.mem_of_getElem? (i := 0) rfl))) (mvT hZ (hw _ (List.mem_of_getElem? (i := 1) rfl))) (mvT hZ (hw _ (List.mem_of_getElem? (i := 2) rfl))) (mvT hZ (hw _ (List.mem_of_getElem? (i := 3) rfl))) (by decide) (backOf (W := 0) (rm1s l Z a0 hw [] q1 (own_cn p2) (1 : Int32) h0 n0 Z0 (by decide)) hZ (hw _ (List.mem_of_getElem? (i := 3) rfl)) (hw _ (List.mem_of_getElem? (i := 2) rfl)) (by decide) (by decide)) (g := (mkF m 26 #[.val (.long q1), .second, .val (.int p2), .val (.int p3), .val (.int (own_cn p2)), .val (.int (1 : Int32)), .unset, .unset, .unset, .unset, .unset, .unset, .unset, .unset] [(.int (1 : Int32)), (.int (own_cn p2)), (.long q1)])) rfl (by rw [hml]; rfl) (argsL := [(.long q1), (.int (own_cn p2)), (.int (1 : Int32))]) (rest := []) (lenOf pd_0_0 rfl) rfl (by show 2 * 0 + _ ≤ _; exact Nat.le_of_eq rfl) (hb hby at_26) (fun _ _ => ⟨rfl, e0, (by decide : 0 + 0 ≤ _), (by decide : 0 + 0 ≤ _)⟩)
  dsimp only [Pt.U, Pt.locs, Pt.cells, Pt.slots] at X4 l4 y4 z4 st4 hQ4
  subst l4 y4 z4
  obtain ⟨rfl, N4q, e4⟩ := hQ4
  have N4 := Fr.app N0 N4q
  obtain ⟨fs, hr, hrun, hended, hW, hsame⟩ := X4.leave (v := some (.int (1 : Int32))) (fun h => by rw [Bd.returns] at h; cases h) (hlocks := by first | exact BodyLoose.notSynchronized Bd | exact Body.notSynchronized Bd)
  refine ⟨_, _, pre0 _ ?_, hrun, hended, _, _, rfl, ?_, ⟨_, rfl⟩, hW, hsame.mono (by decide) (by decide)⟩
  · show Steps p.tables e below (s₁.setTop (mkF m 0 #[.val (.long q1), .second, .val (.int p2), .val (.int p3), .unset, .unset, .unset, .unset, .unset, .unset, .unset, .unset, .unset, .unset] [])) _
    refine XS.iloadN X0.here hx rfl (hb hby at_0) rfl ?_
    show Steps p.tables e below (s₁.setTop (mkF m 1 #[.val (.long q1), .second, .val (.int p2), .val (.int p3), .unset, .unset, .unset, .unset, .unset, .unset, .unset, .unset, .unset, .unset] [(.int p2)])) _
    refine XS.bipush X0.here hx rfl (hb hby at_1) ?_
    show Steps p.tables e below (s₁.setTop (mkF m 3 #[.val (.long q1), .second, .val (.int p2), .val (.int p3), .unset, .unset, .unset, .unset, .unset, .unset, .unset, .unset, .unset, .unset] [(.int (63 : Int32)), (.int p2)])) _
    refine XS.iand X0.here hx rfl (hb hby at_3) rfl ?_
    show Steps p.tables e below (s₁.setTop (mkF m 4 #[.val (.long q1), .second, .val (.int p2), .val (.int p3), .unset, .unset, .unset, .unset, .unset, .unset, .unset, .unset, .unset, .unset] [(.int (p2 &&& (63 : Int32)))])) _
    refine XS.iconst X0.here hx rfl (hb hby at_4) ?_
    show Steps p.tables e below (s₁.setTop (mkF m 5 #[.val (.long q1), .second, .val (.int p2), .val (.int p3), .unset, .unset, .unset, .unset, .unset, .unset, .unset, .unset, .unset, .unset] [(.int (1 : Int32)), (.int (p2 &&& (63 : Int32)))])) _
    refine XS.iadd X0.here hx rfl (hb hby at_5) rfl ?_
    show Steps p.tables e below (s₁.setTop (mkF m 6 #[.val (.long q1), .second, .val (.int p2), .val (.int p3), .unset, .unset, .unset, .unset, .unset, .unset, .unset, .unset, .unset, .unset] [(.int (own_cn p2))])) _
    refine XS.istore X0.here hx rfl (hb hby at_6) rfl (l' := #[.val (.long q1), .second, .val (.int p2), .val (.int p3), .val (.int (own_cn p2)), .unset, .unset, .unset, .unset, .unset, .unset, .unset, .unset, .unset]) rfl ?_
    show Steps p.tables e below (s₁.setTop (mkF m 8 #[.val (.long q1), .second, .val (.int p2), .val (.int p3), .val (.int (own_cn p2)), .unset, .unset, .unset, .unset, .unset, .unset, .unset, .unset, .unset] [])) _
    refine XS.iloadN X0.here hx rfl (hb hby at_8) rfl ?_
    show Steps p.tables e below (s₁.setTop (mkF m 9 #[.val (.long q1), .second, .val (.int p2), .val (.int p3), .val (.int (own_cn p2)), .unset, .unset, .unset, .unset, .unset, .unset, .unset, .unset, .unset] [(.int p3)])) _
    refine XS.iconst X0.here hx rfl (hb hby at_9) ?_
    show Steps p.tables e below (s₁.setTop (mkF m 10 #[.val (.long q1), .second, .val (.int p2), .val (.int p3), .val (.int (own_cn p2)), .unset, .unset, .unset, .unset, .unset, .unset, .unset, .unset, .unset] [(.int (1 : Int32)), (.int p3)])) _
    refine XS.iand X0.here hx rfl (hb hby at_10) rfl ?_
    show Steps p.tables e below (s₁.setTop (mkF m 11 #[.val (.long q1), .second, .val (.int p2), .val (.int p3), .val (.int (own_cn p2)), .unset, .unset, .unset, .unset, .unset, .unset, .unset, .unset, .unset] [(.int (p3 &&& (1 : Int32)))])) _
    refine XS.ifNo X0.here hx rfl (hb hby at_11) rfl ((if0 _ _).trans (feq hc11).1) ?_
    show Steps p.tables e below (s₁.setTop (mkF m 14 #[.val (.long q1), .second, .val (.int p2), .val (.int p3), .val (.int (own_cn p2)), .unset, .unset, .unset, .unset, .unset, .unset, .unset, .unset, .unset] [])) _
    refine XS.iconst X0.here hx rfl (hb hby at_14) ?_
    show Steps p.tables e below (s₁.setTop (mkF m 15 #[.val (.long q1), .second, .val (.int p2), .val (.int p3), .val (.int (own_cn p2)), .unset, .unset, .unset, .unset, .unset, .unset, .unset, .unset, .unset] [(.int (1 : Int32))])) _
    refine XS.goto X0.here hx rfl (pc0 := 15) (pc' := 19) rfl (hb hby at_15) (by decide) (by decide) ?_
    show Steps p.tables e below (s₁.setTop (mkF m 19 #[.val (.long q1), .second, .val (.int p2), .val (.int p3), .val (.int (own_cn p2)), .unset, .unset, .unset, .unset, .unset, .unset, .unset, .unset, .unset] [(.int (1 : Int32))])) _
    refine XS.istore X0.here hx rfl (hb hby at_19) rfl (l' := #[.val (.long q1), .second, .val (.int p2), .val (.int p3), .val (.int (own_cn p2)), .val (.int (1 : Int32)), .unset, .unset, .unset, .unset, .unset, .unset, .unset, .unset]) rfl ?_
    show Steps p.tables e below (s₁.setTop (mkF m 21 #[.val (.long q1), .second, .val (.int p2), .val (.int p3), .val (.int (own_cn p2)), .val (.int (1 : Int32)), .unset, .unset, .unset, .unset, .unset, .unset, .unset, .unset] [])) _
    refine XS.lloadN X0.here hx rfl (hb hby at_21) rfl ?_
    show Steps p.tables e below (s₁.setTop (mkF m 22 #[.val (.long q1), .second, .val (.int p2), .val (.int p3), .val (.int (own_cn p2)), .val (.int (1 : Int32)), .unset, .unset, .unset, .unset, .unset, .unset, .unset, .unset] [(.long q1)])) _
    refine XS.iload X0.here hx rfl (hb hby at_22) rfl ?_
    show Steps p.tables e below (s₁.setTop (mkF m 24 #[.val (.long q1), .second, .val (.int p2), .val (.int p3), .val (.int (own_cn p2)), .val (.int (1 : Int32)), .unset, .unset, .unset, .unset, .unset, .unset, .unset, .unset] [(.int (own_cn p2)), (.long q1)])) _
    refine XS.iload X0.here hx rfl (hb hby at_24) rfl ?_
    show Steps p.tables e below (s₁.setTop (mkF m 26 #[.val (.long q1), .second, .val (.int p2), .val (.int p3), .val (.int (own_cn p2)), .val (.int (1 : Int32)), .unset, .unset, .unset, .unset, .unset, .unset, .unset, .unset] [(.int (1 : Int32)), (.int (own_cn p2)), (.long q1)])) _
    refine st4 _ ?_
    show Steps p.tables e below (T4.setTop (mkF m 29 #[.val (.long q1), .second, .val (.int p2), .val (.int p3), .val (.int (own_cn p2)), .val (.int (1 : Int32)), .unset, .unset, .unset, .unset, .unset, .unset, .unset, .unset] [(.long (own_rs q1 p2))])) _
    refine XS.lstore X4.here hx rfl (hb hby at_29) rfl (l' := #[.val (.long q1), .second, .val (.int p2), .val (.int p3), .val (.int (own_cn p2)), .val (.int (1 : Int32)), .val (.long (own_rs q1 p2)), .second, .unset, .unset, .unset, .unset, .unset, .unset]) rfl ?_
    show Steps p.tables e below (T4.setTop (mkF m 31 #[.val (.long q1), .second, .val (.int p2), .val (.int p3), .val (.int (own_cn p2)), .val (.int (1 : Int32)), .val (.long (own_rs q1 p2)), .second, .unset, .unset, .unset, .unset, .unset, .unset] [])) _
    refine XS.iload X4.here hx rfl (hb hby at_31) rfl ?_
    show Steps p.tables e below (T4.setTop (mkF m 33 #[.val (.long q1), .second, .val (.int p2), .val (.int p3), .val (.int (own_cn p2)), .val (.int (1 : Int32)), .val (.long (own_rs q1 p2)), .second, .unset, .unset, .unset, .unset, .unset, .unset] [(.int (own_cn p2))])) _
    refine XS.bipush X4.here hx rfl (hb hby at_33) ?_
    show Steps p.tables e below (T4.setTop (mkF m 35 #[.val (.long q1), .second, .val (.int p2), .val (.int p3), .val (.int (own_cn p2)), .val (.int (1 : Int32)), .val (.long (own_rs q1 p2)), .second, .unset, .unset, .unset, .unset, .unset, .unset] [(.int (64 : Int32)), (.int (own_cn p2))])) _
    refine XS.icmpNo X4.here hx rfl (hb hby at_35) rfl (teq hc35).2 ?_
    show Steps p.tables e below (T4.setTop (mkF m 38 #[.val (.long q1), .second, .val (.int p2), .val (.int p3), .val (.int (own_cn p2)), .val (.int (1 : Int32)), .val (.long (own_rs q1 p2)), .second, .unset, .unset, .unset, .unset, .unset, .unset] [])) _
    refine X4.ldc2Long hx hown (mvT hZ (hw _ (List.mem_of_getElem? (i := 4) rfl))) (g := (mkF m 38 #[.val (.long q1), .second, .val (.int p2), .val (.int p3), .val (.int (own_cn p2)), .val (.int (1 : Int32)), .val (.long (own_rs q1 p2)), .second, .unset, .unset, .unset, .unset, .unset, .unset] [])) rfl (hb hby at_38) _ ?_
    show Steps p.tables e below (T4.setTop (mkF m 41 #[.val (.long q1), .second, .val (.int p2), .val (.int p3), .val (.int (own_cn p2)), .val (.int (1 : Int32)), .val (.long (own_rs q1 p2)), .second, .unset, .unset, .unset, .unset, .unset, .unset] [(.long (-1 : Int64))])) _
    refine XS.goto X4.here hx rfl (pc0 := 41) (pc' := 50) rfl (hb hby at_41) (by decide) (by decide) ?_
    show Steps p.tables e below (T4.setTop (mkF m 50 #[.val (.long q1), .second, .val (.int p2), .val (.int p3), .val (.int (own_cn p2)), .val (.int (1 : Int32)), .val (.long (own_rs q1 p2)), .second, .unset, .unset, .unset, .unset, .unset, .unset] [(.long (-1 : Int64))])) _
    refine XS.lstore X4.here hx rfl (hb hby at_50) rfl (l' := #[.val (.long q1), .second, .val (.int p2), .val (.int p3), .val (.int (own_cn p2)), .val (.int (1 : Int32)), .val (.long (own_rs q1 p2)), .second, .val (.long (-1 : Int64)), .second, .unset, .unset, .unset, .unset]) rfl ?_
    show Steps p.tables e below (T4.setTop (mkF m 52 #[.val (.long q1), .second, .val (.int p2), .val (.int p3), .val (.int (own_cn p2)), .val (.int (1 : Int32)), .val (.long (own_rs q1 p2)), .second, .val (.long (-1 : Int64)), .second, .unset, .unset, .unset, .unset] [])) _
    refine XS.lload X4.here hx rfl (hb hby at_52) rfl ?_
    show Steps p.tables e below (T4.setTop (mkF m 54 #[.val (.long q1), .second, .val (.int p2), .val (.int p3), .val (.int (own_cn p2)), .val (.int (1 : Int32)), .val (.long (own_rs q1 p2)), .second, .val (.long (-1 : Int64)), .second, .unset, .unset, .unset, .unset] [(.long (own_rs q1 p2))])) _
    refine XS.lloadN X4.here hx rfl (hb hby at_54) rfl ?_
    show Steps p.tables e below (T4.setTop (mkF m 55 #[.val (.long q1), .second, .val (.int p2), .val (.int p3), .val (.int (own_cn p2)), .val (.int (1 : Int32)), .val (.long (own_rs q1 p2)), .second, .val (.long (-1 : Int64)), .second, .unset, .unset, .unset, .unset] [(.long q1), (.long (own_rs q1 p2))])) _
    refine XS.lxor X4.here hx rfl (hb hby at_55) rfl ?_
    show Steps p.tables e below (T4.setTop (mkF m 56 #[.val (.long q1), .second, .val (.int p2), .val (.int p3), .val (.int (own_cn p2)), .val (.int (1 : Int32)), .val (.long (own_rs q1 p2)), .second, .val (.long (-1 : Int64)), .second, .unset, .unset, .unset, .unset] [(.long ((own_rs q1 p2) ^^^ q1))])) _
    refine XS.lload X4.here hx rfl (hb hby at_56) rfl ?_
    show Steps p.tables e below (T4.setTop (mkF m 58 #[.val (.long q1), .second, .val (.int p2), .val (.int p3), .val (.int (own_cn p2)), .val (.int (1 : Int32)), .val (.long (own_rs q1 p2)), .second, .val (.long (-1 : Int64)), .second, .unset, .unset, .unset, .unset] [(.long (-1 : Int64)), (.long ((own_rs q1 p2) ^^^ q1))])) _
    refine XS.land X4.here hx rfl (hb hby at_58) rfl ?_
    show Steps p.tables e below (T4.setTop (mkF m 59 #[.val (.long q1), .second, .val (.int p2), .val (.int p3), .val (.int (own_cn p2)), .val (.int (1 : Int32)), .val (.long (own_rs q1 p2)), .second, .val (.long (-1 : Int64)), .second, .unset, .unset, .unset, .unset] [(.long (((own_rs q1 p2) ^^^ q1) &&& (-1 : Int64)))])) _
    refine XS.lconst X4.here hx rfl (hb hby at_59) ?_
    show Steps p.tables e below (T4.setTop (mkF m 60 #[.val (.long q1), .second, .val (.int p2), .val (.int p3), .val (.int (own_cn p2)), .val (.int (1 : Int32)), .val (.long (own_rs q1 p2)), .second, .val (.long (-1 : Int64)), .second, .unset, .unset, .unset, .unset] [(.long (0 : Int64)), (.long (((own_rs q1 p2) ^^^ q1) &&& (-1 : Int64)))])) _
    refine XS.lcmp X4.here hx rfl (hb hby at_60) rfl ?_
    show Steps p.tables e below (T4.setTop (mkF m 61 #[.val (.long q1), .second, .val (.int p2), .val (.int p3), .val (.int (own_cn p2)), .val (.int (1 : Int32)), .val (.long (own_rs q1 p2)), .second, .val (.long (-1 : Int64)), .second, .unset, .unset, .unset, .unset] [(.int (lcmpW (((own_rs q1 p2) ^^^ q1) &&& (-1 : Int64)) (0 : Int64)))])) _
    refine XS.ifNo X4.here hx rfl (hb hby at_61) rfl ((if0 _ _).trans (teq ((lw_eq _ _).mpr hlow : (lcmpW (((own_rs q1 p2) ^^^ q1) &&& (-1 : Int64)) (0 : Int64)) = (0 : Int32))).2) ?_
    show Steps p.tables e below (T4.setTop (mkF m 64 #[.val (.long q1), .second, .val (.int p2), .val (.int p3), .val (.int (own_cn p2)), .val (.int (1 : Int32)), .val (.long (own_rs q1 p2)), .second, .val (.long (-1 : Int64)), .second, .unset, .unset, .unset, .unset] [])) _
    refine XS.iconst X4.here hx rfl (hb hby at_64) ?_
    show Steps p.tables e below (T4.setTop (mkF m 65 #[.val (.long q1), .second, .val (.int p2), .val (.int p3), .val (.int (own_cn p2)), .val (.int (1 : Int32)), .val (.long (own_rs q1 p2)), .second, .val (.long (-1 : Int64)), .second, .unset, .unset, .unset, .unset] [(.int (1 : Int32))])) _
    refine XS.goto X4.here hx rfl (pc0 := 65) (pc' := 69) rfl (hb hby at_65) (by decide) (by decide) ?_
    show Steps p.tables e below (T4.setTop (mkF m 69 #[.val (.long q1), .second, .val (.int p2), .val (.int p3), .val (.int (own_cn p2)), .val (.int (1 : Int32)), .val (.long (own_rs q1 p2)), .second, .val (.long (-1 : Int64)), .second, .unset, .unset, .unset, .unset] [(.int (1 : Int32))])) _
    refine XS.istore X4.here hx rfl (hb hby at_69) rfl (l' := #[.val (.long q1), .second, .val (.int p2), .val (.int p3), .val (.int (own_cn p2)), .val (.int (1 : Int32)), .val (.long (own_rs q1 p2)), .second, .val (.long (-1 : Int64)), .second, .val (.int (1 : Int32)), .unset, .unset, .unset]) rfl ?_
    show Steps p.tables e below (T4.setTop (mkF m 71 #[.val (.long q1), .second, .val (.int p2), .val (.int p3), .val (.int (own_cn p2)), .val (.int (1 : Int32)), .val (.long (own_rs q1 p2)), .second, .val (.long (-1 : Int64)), .second, .val (.int (1 : Int32)), .unset, .unset, .unset] [])) _
    refine XS.iload X4.here hx rfl (hb hby at_71) rfl ?_
    show Steps p.tables e below (T4.setTop (mkF m 73 #[.val (.long q1), .second, .val (.int p2), .val (.int p3), .val (.int (own_cn p2)), .val (.int (1 : Int32)), .val (.long (own_rs q1 p2)), .second, .val (.long (-1 : Int64)), .second, .val (.int (1 : Int32)), .unset, .unset, .unset] [(.int (1 : Int32))])) _
    refine XS.ifNo X4.here hx rfl (hb hby at_73) rfl ((if0 _ _).trans (feq hc73).1) ?_
    show Steps p.tables e below (T4.setTop (mkF m 76 #[.val (.long q1), .second, .val (.int p2), .val (.int p3), .val (.int (own_cn p2)), .val (.int (1 : Int32)), .val (.long (own_rs q1 p2)), .second, .val (.long (-1 : Int64)), .second, .val (.int (1 : Int32)), .unset, .unset, .unset] [])) _
    refine XS.lload X4.here hx rfl (hb hby at_76) rfl ?_
    show Steps p.tables e below (T4.setTop (mkF m 78 #[.val (.long q1), .second, .val (.int p2), .val (.int p3), .val (.int (own_cn p2)), .val (.int (1 : Int32)), .val (.long (own_rs q1 p2)), .second, .val (.long (-1 : Int64)), .second, .val (.int (1 : Int32)), .unset, .unset, .unset] [(.long (own_rs q1 p2))])) _
    refine XS.iload X4.here hx rfl (hb hby at_78) rfl ?_
    show Steps p.tables e below (T4.setTop (mkF m 80 #[.val (.long q1), .second, .val (.int p2), .val (.int p3), .val (.int (own_cn p2)), .val (.int (1 : Int32)), .val (.long (own_rs q1 p2)), .second, .val (.long (-1 : Int64)), .second, .val (.int (1 : Int32)), .unset, .unset, .unset] [(.int (own_cn p2)), (.long (own_rs q1 p2))])) _
    refine XS.iconst X4.here hx rfl (hb hby at_80) ?_
    show Steps p.tables e below (T4.setTop (mkF m 81 #[.val (.long q1), .second, .val (.int p2), .val (.int p3), .val (.int (own_cn p2)), .val (.int (1 : Int32)), .val (.long (own_rs q1 p2)), .second, .val (.long (-1 : Int64)), .second, .val (.int (1 : Int32)), .unset, .unset, .unset] [(.int (1 : Int32)), (.int (own_cn p2)), (.long (own_rs q1 p2))])) _
    refine XS.isub X4.here hx rfl (hb hby at_81) rfl ?_
    show Steps p.tables e below (T4.setTop (mkF m 82 #[.val (.long q1), .second, .val (.int p2), .val (.int p3), .val (.int (own_cn p2)), .val (.int (1 : Int32)), .val (.long (own_rs q1 p2)), .second, .val (.long (-1 : Int64)), .second, .val (.int (1 : Int32)), .unset, .unset, .unset] [(.int ((own_cn p2) - (1 : Int32))), (.long (own_rs q1 p2))])) _
    refine XS.lshr X4.here hx rfl (hb hby at_82) rfl ?_
    show Steps p.tables e below (T4.setTop (mkF m 83 #[.val (.long q1), .second, .val (.int p2), .val (.int p3), .val (.int (own_cn p2)), .val (.int (1 : Int32)), .val (.long (own_rs q1 p2)), .second, .val (.long (-1 : Int64)), .second, .val (.int (1 : Int32)), .unset, .unset, .unset] [(.long (own_ts q1 p2))])) _
    refine XS.goto X4.here hx rfl (pc0 := 83) (pc' := 93) rfl (hb hby at_83) (by decide) (by decide) ?_
    show Steps p.tables e below (T4.setTop (mkF m 93 #[.val (.long q1), .second, .val (.int p2), .val (.int p3), .val (.int (own_cn p2)), .val (.int (1 : Int32)), .val (.long (own_rs q1 p2)), .second, .val (.long (-1 : Int64)), .second, .val (.int (1 : Int32)), .unset, .unset, .unset] [(.long (own_ts q1 p2))])) _
    refine XS.lstore X4.here hx rfl (hb hby at_93) rfl (l' := #[.val (.long q1), .second, .val (.int p2), .val (.int p3), .val (.int (own_cn p2)), .val (.int (1 : Int32)), .val (.long (own_rs q1 p2)), .second, .val (.long (-1 : Int64)), .second, .val (.int (1 : Int32)), .val (.long (own_ts q1 p2)), .second, .unset]) rfl ?_
    show Steps p.tables e below (T4.setTop (mkF m 95 #[.val (.long q1), .second, .val (.int p2), .val (.int p3), .val (.int (own_cn p2)), .val (.int (1 : Int32)), .val (.long (own_rs q1 p2)), .second, .val (.long (-1 : Int64)), .second, .val (.int (1 : Int32)), .val (.long (own_ts q1 p2)), .second, .unset] [])) _
    refine XS.iload X4.here hx rfl (hb hby at_95) rfl ?_
    show Steps p.tables e below (T4.setTop (mkF m 97 #[.val (.long q1), .second, .val (.int p2), .val (.int p3), .val (.int (own_cn p2)), .val (.int (1 : Int32)), .val (.long (own_rs q1 p2)), .second, .val (.long (-1 : Int64)), .second, .val (.int (1 : Int32)), .val (.long (own_ts q1 p2)), .second, .unset] [(.int (1 : Int32))])) _
    refine XS.ifNo X4.here hx rfl (hb hby at_97) rfl ((if0 _ _).trans (feq hc97).1) ?_
    show Steps p.tables e below (T4.setTop (mkF m 100 #[.val (.long q1), .second, .val (.int p2), .val (.int p3), .val (.int (own_cn p2)), .val (.int (1 : Int32)), .val (.long (own_rs q1 p2)), .second, .val (.long (-1 : Int64)), .second, .val (.int (1 : Int32)), .val (.long (own_ts q1 p2)), .second, .unset] [])) _
    refine XS.lload X4.here hx rfl (hb hby at_100) rfl ?_
    show Steps p.tables e below (T4.setTop (mkF m 102 #[.val (.long q1), .second, .val (.int p2), .val (.int p3), .val (.int (own_cn p2)), .val (.int (1 : Int32)), .val (.long (own_rs q1 p2)), .second, .val (.long (-1 : Int64)), .second, .val (.int (1 : Int32)), .val (.long (own_ts q1 p2)), .second, .unset] [(.long (own_ts q1 p2))])) _
    refine XS.lconst X4.here hx rfl (hb hby at_102) ?_
    show Steps p.tables e below (T4.setTop (mkF m 103 #[.val (.long q1), .second, .val (.int p2), .val (.int p3), .val (.int (own_cn p2)), .val (.int (1 : Int32)), .val (.long (own_rs q1 p2)), .second, .val (.long (-1 : Int64)), .second, .val (.int (1 : Int32)), .val (.long (own_ts q1 p2)), .second, .unset] [(.long (0 : Int64)), (.long (own_ts q1 p2))])) _
    refine XS.lcmp X4.here hx rfl (hb hby at_103) rfl ?_
    show Steps p.tables e below (T4.setTop (mkF m 104 #[.val (.long q1), .second, .val (.int p2), .val (.int p3), .val (.int (own_cn p2)), .val (.int (1 : Int32)), .val (.long (own_rs q1 p2)), .second, .val (.long (-1 : Int64)), .second, .val (.int (1 : Int32)), .val (.long (own_ts q1 p2)), .second, .unset] [(.int (lcmpW (own_ts q1 p2) (0 : Int64)))])) _
    refine XS.ifYes X4.here hx rfl (pc0 := 104) (pc' := 116) rfl (hb hby at_104) rfl ((if0 _ _).trans (teq ((lw_eq _ _).mpr htop : (lcmpW (own_ts q1 p2) (0 : Int64)) = (0 : Int32))).1) (by decide) (by decide) ?_
    show Steps p.tables e below (T4.setTop (mkF m 116 #[.val (.long q1), .second, .val (.int p2), .val (.int p3), .val (.int (own_cn p2)), .val (.int (1 : Int32)), .val (.long (own_rs q1 p2)), .second, .val (.long (-1 : Int64)), .second, .val (.int (1 : Int32)), .val (.long (own_ts q1 p2)), .second, .unset] [])) _
    refine XS.iconst X4.here hx rfl (hb hby at_116) ?_
    show Steps p.tables e below (T4.setTop (mkF m 117 #[.val (.long q1), .second, .val (.int p2), .val (.int p3), .val (.int (own_cn p2)), .val (.int (1 : Int32)), .val (.long (own_rs q1 p2)), .second, .val (.long (-1 : Int64)), .second, .val (.int (1 : Int32)), .val (.long (own_ts q1 p2)), .second, .unset] [(.int (1 : Int32))])) _
    refine XS.goto X4.here hx rfl (pc0 := 117) (pc' := 143) rfl (hb hby at_117) (by decide) (by decide) ?_
    show Steps p.tables e below (T4.setTop (mkF m 143 #[.val (.long q1), .second, .val (.int p2), .val (.int p3), .val (.int (own_cn p2)), .val (.int (1 : Int32)), .val (.long (own_rs q1 p2)), .second, .val (.long (-1 : Int64)), .second, .val (.int (1 : Int32)), .val (.long (own_ts q1 p2)), .second, .unset] [(.int (1 : Int32))])) _
    refine XS.istore X4.here hx rfl (hb hby at_143) rfl (l' := #[.val (.long q1), .second, .val (.int p2), .val (.int p3), .val (.int (own_cn p2)), .val (.int (1 : Int32)), .val (.long (own_rs q1 p2)), .second, .val (.long (-1 : Int64)), .second, .val (.int (1 : Int32)), .val (.long (own_ts q1 p2)), .second, .val (.int (1 : Int32))]) rfl ?_
    show Steps p.tables e below (T4.setTop (mkF m 145 #[.val (.long q1), .second, .val (.int p2), .val (.int p3), .val (.int (own_cn p2)), .val (.int (1 : Int32)), .val (.long (own_rs q1 p2)), .second, .val (.long (-1 : Int64)), .second, .val (.int (1 : Int32)), .val (.long (own_ts q1 p2)), .second, .val (.int (1 : Int32))] [])) _
    refine XS.iload X4.here hx rfl (hb hby at_145) rfl ?_
    show Steps p.tables e below (T4.setTop (mkF m 147 #[.val (.long q1), .second, .val (.int p2), .val (.int p3), .val (.int (own_cn p2)), .val (.int (1 : Int32)), .val (.long (own_rs q1 p2)), .second, .val (.long (-1 : Int64)), .second, .val (.int (1 : Int32)), .val (.long (own_ts q1 p2)), .second, .val (.int (1 : Int32))] [(.int (1 : Int32))])) _
    refine XS.ifNo X4.here hx rfl (hb hby at_147) rfl ((if0 _ _).trans (feq hc147).1) ?_
    show Steps p.tables e below (T4.setTop (mkF m 150 #[.val (.long q1), .second, .val (.int p2), .val (.int p3), .val (.int (own_cn p2)), .val (.int (1 : Int32)), .val (.long (own_rs q1 p2)), .second, .val (.long (-1 : Int64)), .second, .val (.int (1 : Int32)), .val (.long (own_ts q1 p2)), .second, .val (.int (1 : Int32))] [])) _
    refine XS.iload X4.here hx rfl (hb hby at_150) rfl ?_
    show Steps p.tables e below (T4.setTop (mkF m 152 #[.val (.long q1), .second, .val (.int p2), .val (.int p3), .val (.int (own_cn p2)), .val (.int (1 : Int32)), .val (.long (own_rs q1 p2)), .second, .val (.long (-1 : Int64)), .second, .val (.int (1 : Int32)), .val (.long (own_ts q1 p2)), .second, .val (.int (1 : Int32))] [(.int (1 : Int32))])) _
    refine XS.ifNo X4.here hx rfl (hb hby at_152) rfl ((if0 _ _).trans (feq hc152).1) ?_
    show Steps p.tables e below (T4.setTop (mkF m 155 #[.val (.long q1), .second, .val (.int p2), .val (.int p3), .val (.int (own_cn p2)), .val (.int (1 : Int32)), .val (.long (own_rs q1 p2)), .second, .val (.long (-1 : Int64)), .second, .val (.int (1 : Int32)), .val (.long (own_ts q1 p2)), .second, .val (.int (1 : Int32))] [])) _
    refine XS.iconst X4.here hx rfl (hb hby at_155) ?_
    show Steps p.tables e below (T4.setTop (mkF m 156 #[.val (.long q1), .second, .val (.int p2), .val (.int p3), .val (.int (own_cn p2)), .val (.int (1 : Int32)), .val (.long (own_rs q1 p2)), .second, .val (.long (-1 : Int64)), .second, .val (.int (1 : Int32)), .val (.long (own_ts q1 p2)), .second, .val (.int (1 : Int32))] [(.int (1 : Int32))])) _
    refine XS.goto X4.here hx rfl (pc0 := 156) (pc' := 160) rfl (hb hby at_156) (by decide) (by decide) ?_
    show Steps p.tables e below (T4.setTop (mkF m 160 #[.val (.long q1), .second, .val (.int p2), .val (.int p3), .val (.int (own_cn p2)), .val (.int (1 : Int32)), .val (.long (own_rs q1 p2)), .second, .val (.long (-1 : Int64)), .second, .val (.int (1 : Int32)), .val (.long (own_ts q1 p2)), .second, .val (.int (1 : Int32))] [(.int (1 : Int32))])) _
    exact retN X4 hx (t := .boolean) Bd.returns (by simp) (hb hby at_160) hr
  · show Q0 Z q1 p2 p3 h0 n0 _ T4.heap _
    exact ⟨rfl, N4⟩
set_option maxRecDepth 65536 in
set_option maxHeartbeats 40000000 in
theorem rm0_2 (l : Launch) (Z : State) (a0 : Array Value) (hw : ∀ d ∈ tables_1, d.before a0 Z = true) (ws : List Jvm.Cond) (q1 : Int64) (p2 : Int32) (p3 : Int32) (h0 : Heap) (n0 : Nat) (Z0 : n0 ≤ h0.size) (hc11 : ¬ ((p3 &&& (1 : Int32)) = (0 : Int32))) (hc35 : (own_cn p2) = (64 : Int32)) (hc73 : ¬ ((1 : Int32) = (0 : Int32))) (hc97 : ¬ ((1 : Int32) = (0 : Int32))) (hc147 : ¬ ((1 : Int32) = (0 : Int32))) (hc152 : ¬ ((1 : Int32) = (0 : Int32))) (hlow : ((own_rs q1 p2) ^^^ q1) &&& (-1 : Int64) = 0) (hn0 : ¬ (own_ts q1 p2) = 0) (htop : (own_ts q1 p2) = -1) :
    MetFree l x (head1 (Jvm.Cond.code x code maxLocals ret :: ws) room_1) (fun a U => a = #[(.long q1), (.int p2), (.int p3)] ∧ Z.Warmed39 U.vm ∧ U.heap = h0) (fun _ _ _ _ _ => True) (fun _ U o U' => ∃ v L, o = .returned v ∧ Q0 Z q1 p2 p3 h0 n0 v U'.heap L ∧ FrameEnd U o U' L room_1.cells room_1.slots) := by
  refine MetFree.of_bodySF (plainFor_of_name pn_0) hisR ?_
  intro p e s m args below meth c s₁ Bd hml0 hP hK
  obtain ⟨rfl, hZ, hh⟩ := hP
  have hx := Bd.exec
  have hby := Bd.bytes
  have hml : c.maxLocals = 14 := hml0
  have hown : s.vm.findClass "com/example/narrowint/narrowint/codec/BitsFromLowPinLaw" = some m.cls := findClass_of_methodNamed Bd.named
  have hnm := (name_of_methodNamed Bd.named Bd.method).1
  have X0 : Stand p l e room_1 s m #[(.long q1), (.int p2), (.int p3)] below meth c s₁ [] 0 0 := Stand.of_body Bd
  have e0 : s₁.heap = h0 := by rw [← hh, Bd.state]; rfl
  have N0 := Fr.nil n0
  have pre0 : ∀ t, Steps p.tables e below (s₁.setTop (mkF m 0 #[.val (.long q1), .second, .val (.int p2), .val (.int p3), .unset, .unset, .unset, .unset, .unset, .unset, .unset, .unset, .unset, .unset] [])) t → Steps p.tables e below (s₁.setTop (entryFrame m #[(.long q1), (.int p2), (.int p3)] maxLocals)) t := fun t k => castTop (ef_0 m q1 p2 p3) k
  obtain ⟨_, _, ⟨T4, L4, k4, n4⟩, -, X4, ⟨Lc4, hQ4, l4, y4, z4⟩, st4⟩ := Jvm.LawKit.callS X0 hx (y := (⟨"com/example/narrowint/narrowint/codec/Bits", "fromLow", "(JIZ)J"⟩ : MethodName)) hown (mvT hZ (hw _ (List.mem_of_getElem? (i := 0) rfl))) (mvT hZ (hw _ (List.mem_of_getElem? (i := 1) rfl))) (mvT hZ (hw _ (List.mem_of_getElem? (i := 2) rfl))) (mvT hZ (hw _ (List.mem_of_getElem? (i := 3) rfl))) (by decide) (backOf (W := 0) (rm1s l Z a0 hw [] q1 (own_cn p2) (1 : Int32) h0 n0 Z0 (by decide)) hZ (hw _ (List.mem_of_getElem? (i := 3) rfl)) (hw _ (List.mem_of_getElem? (i := 2) rfl)) (by decide) (by decide)) (g := (mkF m 26 #[.val (.long q1), .second, .val (.int p2), .val (.int p3), .val (.int (own_cn p2)), .val (.int (1 : Int32)), .unset, .unset, .unset, .unset, .unset, .unset, .unset, .unset] [(.int (1 : Int32)), (.int (own_cn p2)), (.long q1)])) rfl (by rw [hml]; rfl) (argsL := [(.long q1), (.int (own_cn p2)), (.int (1 : Int32))]) (rest := []) (lenOf pd_0_0 rfl) rfl (by show 2 * 0 + _ ≤ _; exact Nat.le_of_eq rfl) (hb hby at_26) (fun _ _ => ⟨rfl, e0, (by decide : 0 + 0 ≤ _), (by decide : 0 + 0 ≤ _)⟩)
  dsimp only [Pt.U, Pt.locs, Pt.cells, Pt.slots] at X4 l4 y4 z4 st4 hQ4
  subst l4 y4 z4
  obtain ⟨rfl, N4q, e4⟩ := hQ4
  have N4 := Fr.app N0 N4q
  obtain ⟨fs, hr, hrun, hended, hW, hsame⟩ := X4.leave (v := some (.int (1 : Int32))) (fun h => by rw [Bd.returns] at h; cases h) (hlocks := by first | exact BodyLoose.notSynchronized Bd | exact Body.notSynchronized Bd)
  refine ⟨_, _, pre0 _ ?_, hrun, hended, _, _, rfl, ?_, ⟨_, rfl⟩, hW, hsame.mono (by decide) (by decide)⟩
  · show Steps p.tables e below (s₁.setTop (mkF m 0 #[.val (.long q1), .second, .val (.int p2), .val (.int p3), .unset, .unset, .unset, .unset, .unset, .unset, .unset, .unset, .unset, .unset] [])) _
    refine XS.iloadN X0.here hx rfl (hb hby at_0) rfl ?_
    show Steps p.tables e below (s₁.setTop (mkF m 1 #[.val (.long q1), .second, .val (.int p2), .val (.int p3), .unset, .unset, .unset, .unset, .unset, .unset, .unset, .unset, .unset, .unset] [(.int p2)])) _
    refine XS.bipush X0.here hx rfl (hb hby at_1) ?_
    show Steps p.tables e below (s₁.setTop (mkF m 3 #[.val (.long q1), .second, .val (.int p2), .val (.int p3), .unset, .unset, .unset, .unset, .unset, .unset, .unset, .unset, .unset, .unset] [(.int (63 : Int32)), (.int p2)])) _
    refine XS.iand X0.here hx rfl (hb hby at_3) rfl ?_
    show Steps p.tables e below (s₁.setTop (mkF m 4 #[.val (.long q1), .second, .val (.int p2), .val (.int p3), .unset, .unset, .unset, .unset, .unset, .unset, .unset, .unset, .unset, .unset] [(.int (p2 &&& (63 : Int32)))])) _
    refine XS.iconst X0.here hx rfl (hb hby at_4) ?_
    show Steps p.tables e below (s₁.setTop (mkF m 5 #[.val (.long q1), .second, .val (.int p2), .val (.int p3), .unset, .unset, .unset, .unset, .unset, .unset, .unset, .unset, .unset, .unset] [(.int (1 : Int32)), (.int (p2 &&& (63 : Int32)))])) _
    refine XS.iadd X0.here hx rfl (hb hby at_5) rfl ?_
    show Steps p.tables e below (s₁.setTop (mkF m 6 #[.val (.long q1), .second, .val (.int p2), .val (.int p3), .unset, .unset, .unset, .unset, .unset, .unset, .unset, .unset, .unset, .unset] [(.int (own_cn p2))])) _
    refine XS.istore X0.here hx rfl (hb hby at_6) rfl (l' := #[.val (.long q1), .second, .val (.int p2), .val (.int p3), .val (.int (own_cn p2)), .unset, .unset, .unset, .unset, .unset, .unset, .unset, .unset, .unset]) rfl ?_
    show Steps p.tables e below (s₁.setTop (mkF m 8 #[.val (.long q1), .second, .val (.int p2), .val (.int p3), .val (.int (own_cn p2)), .unset, .unset, .unset, .unset, .unset, .unset, .unset, .unset, .unset] [])) _
    refine XS.iloadN X0.here hx rfl (hb hby at_8) rfl ?_
    show Steps p.tables e below (s₁.setTop (mkF m 9 #[.val (.long q1), .second, .val (.int p2), .val (.int p3), .val (.int (own_cn p2)), .unset, .unset, .unset, .unset, .unset, .unset, .unset, .unset, .unset] [(.int p3)])) _
    refine XS.iconst X0.here hx rfl (hb hby at_9) ?_
    show Steps p.tables e below (s₁.setTop (mkF m 10 #[.val (.long q1), .second, .val (.int p2), .val (.int p3), .val (.int (own_cn p2)), .unset, .unset, .unset, .unset, .unset, .unset, .unset, .unset, .unset] [(.int (1 : Int32)), (.int p3)])) _
    refine XS.iand X0.here hx rfl (hb hby at_10) rfl ?_
    show Steps p.tables e below (s₁.setTop (mkF m 11 #[.val (.long q1), .second, .val (.int p2), .val (.int p3), .val (.int (own_cn p2)), .unset, .unset, .unset, .unset, .unset, .unset, .unset, .unset, .unset] [(.int (p3 &&& (1 : Int32)))])) _
    refine XS.ifNo X0.here hx rfl (hb hby at_11) rfl ((if0 _ _).trans (feq hc11).1) ?_
    show Steps p.tables e below (s₁.setTop (mkF m 14 #[.val (.long q1), .second, .val (.int p2), .val (.int p3), .val (.int (own_cn p2)), .unset, .unset, .unset, .unset, .unset, .unset, .unset, .unset, .unset] [])) _
    refine XS.iconst X0.here hx rfl (hb hby at_14) ?_
    show Steps p.tables e below (s₁.setTop (mkF m 15 #[.val (.long q1), .second, .val (.int p2), .val (.int p3), .val (.int (own_cn p2)), .unset, .unset, .unset, .unset, .unset, .unset, .unset, .unset, .unset] [(.int (1 : Int32))])) _
    refine XS.goto X0.here hx rfl (pc0 := 15) (pc' := 19) rfl (hb hby at_15) (by decide) (by decide) ?_
    show Steps p.tables e below (s₁.setTop (mkF m 19 #[.val (.long q1), .second, .val (.int p2), .val (.int p3), .val (.int (own_cn p2)), .unset, .unset, .unset, .unset, .unset, .unset, .unset, .unset, .unset] [(.int (1 : Int32))])) _
    refine XS.istore X0.here hx rfl (hb hby at_19) rfl (l' := #[.val (.long q1), .second, .val (.int p2), .val (.int p3), .val (.int (own_cn p2)), .val (.int (1 : Int32)), .unset, .unset, .unset, .unset, .unset, .unset, .unset, .unset]) rfl ?_
    show Steps p.tables e below (s₁.setTop (mkF m 21 #[.val (.long q1), .second, .val (.int p2), .val (.int p3), .val (.int (own_cn p2)), .val (.int (1 : Int32)), .unset, .unset, .unset, .unset, .unset, .unset, .unset, .unset] [])) _
    refine XS.lloadN X0.here hx rfl (hb hby at_21) rfl ?_
    show Steps p.tables e below (s₁.setTop (mkF m 22 #[.val (.long q1), .second, .val (.int p2), .val (.int p3), .val (.int (own_cn p2)), .val (.int (1 : Int32)), .unset, .unset, .unset, .unset, .unset, .unset, .unset, .unset] [(.long q1)])) _
    refine XS.iload X0.here hx rfl (hb hby at_22) rfl ?_
    show Steps p.tables e below (s₁.setTop (mkF m 24 #[.val (.long q1), .second, .val (.int p2), .val (.int p3), .val (.int (own_cn p2)), .val (.int (1 : Int32)), .unset, .unset, .unset, .unset, .unset, .unset, .unset, .unset] [(.int (own_cn p2)), (.long q1)])) _
    refine XS.iload X0.here hx rfl (hb hby at_24) rfl ?_
    show Steps p.tables e below (s₁.setTop (mkF m 26 #[.val (.long q1), .second, .val (.int p2), .val (.int p3), .val (.int (own_cn p2)), .val (.int (1 : Int32)), .unset, .unset, .unset, .unset, .unset, .unset, .unset, .unset] [(.int (1 : Int32)), (.int (own_cn p2)), (.long q1)])) _
    refine st4 _ ?_
    show Steps p.tables e below (T4.setTop (mkF m 29 #[.val (.long q1), .second, .val (.int p2), .val (.int p3), .val (.int (own_cn p2)), .val (.int (1 : Int32)), .unset, .unset, .unset, .unset, .unset, .unset, .unset, .unset] [(.long (own_rs q1 p2))])) _
    refine XS.lstore X4.here hx rfl (hb hby at_29) rfl (l' := #[.val (.long q1), .second, .val (.int p2), .val (.int p3), .val (.int (own_cn p2)), .val (.int (1 : Int32)), .val (.long (own_rs q1 p2)), .second, .unset, .unset, .unset, .unset, .unset, .unset]) rfl ?_
    show Steps p.tables e below (T4.setTop (mkF m 31 #[.val (.long q1), .second, .val (.int p2), .val (.int p3), .val (.int (own_cn p2)), .val (.int (1 : Int32)), .val (.long (own_rs q1 p2)), .second, .unset, .unset, .unset, .unset, .unset, .unset] [])) _
    refine XS.iload X4.here hx rfl (hb hby at_31) rfl ?_
    show Steps p.tables e below (T4.setTop (mkF m 33 #[.val (.long q1), .second, .val (.int p2), .val (.int p3), .val (.int (own_cn p2)), .val (.int (1 : Int32)), .val (.long (own_rs q1 p2)), .second, .unset, .unset, .unset, .unset, .unset, .unset] [(.int (own_cn p2))])) _
    refine XS.bipush X4.here hx rfl (hb hby at_33) ?_
    show Steps p.tables e below (T4.setTop (mkF m 35 #[.val (.long q1), .second, .val (.int p2), .val (.int p3), .val (.int (own_cn p2)), .val (.int (1 : Int32)), .val (.long (own_rs q1 p2)), .second, .unset, .unset, .unset, .unset, .unset, .unset] [(.int (64 : Int32)), (.int (own_cn p2))])) _
    refine XS.icmpNo X4.here hx rfl (hb hby at_35) rfl (teq hc35).2 ?_
    show Steps p.tables e below (T4.setTop (mkF m 38 #[.val (.long q1), .second, .val (.int p2), .val (.int p3), .val (.int (own_cn p2)), .val (.int (1 : Int32)), .val (.long (own_rs q1 p2)), .second, .unset, .unset, .unset, .unset, .unset, .unset] [])) _
    refine X4.ldc2Long hx hown (mvT hZ (hw _ (List.mem_of_getElem? (i := 4) rfl))) (g := (mkF m 38 #[.val (.long q1), .second, .val (.int p2), .val (.int p3), .val (.int (own_cn p2)), .val (.int (1 : Int32)), .val (.long (own_rs q1 p2)), .second, .unset, .unset, .unset, .unset, .unset, .unset] [])) rfl (hb hby at_38) _ ?_
    show Steps p.tables e below (T4.setTop (mkF m 41 #[.val (.long q1), .second, .val (.int p2), .val (.int p3), .val (.int (own_cn p2)), .val (.int (1 : Int32)), .val (.long (own_rs q1 p2)), .second, .unset, .unset, .unset, .unset, .unset, .unset] [(.long (-1 : Int64))])) _
    refine XS.goto X4.here hx rfl (pc0 := 41) (pc' := 50) rfl (hb hby at_41) (by decide) (by decide) ?_
    show Steps p.tables e below (T4.setTop (mkF m 50 #[.val (.long q1), .second, .val (.int p2), .val (.int p3), .val (.int (own_cn p2)), .val (.int (1 : Int32)), .val (.long (own_rs q1 p2)), .second, .unset, .unset, .unset, .unset, .unset, .unset] [(.long (-1 : Int64))])) _
    refine XS.lstore X4.here hx rfl (hb hby at_50) rfl (l' := #[.val (.long q1), .second, .val (.int p2), .val (.int p3), .val (.int (own_cn p2)), .val (.int (1 : Int32)), .val (.long (own_rs q1 p2)), .second, .val (.long (-1 : Int64)), .second, .unset, .unset, .unset, .unset]) rfl ?_
    show Steps p.tables e below (T4.setTop (mkF m 52 #[.val (.long q1), .second, .val (.int p2), .val (.int p3), .val (.int (own_cn p2)), .val (.int (1 : Int32)), .val (.long (own_rs q1 p2)), .second, .val (.long (-1 : Int64)), .second, .unset, .unset, .unset, .unset] [])) _
    refine XS.lload X4.here hx rfl (hb hby at_52) rfl ?_
    show Steps p.tables e below (T4.setTop (mkF m 54 #[.val (.long q1), .second, .val (.int p2), .val (.int p3), .val (.int (own_cn p2)), .val (.int (1 : Int32)), .val (.long (own_rs q1 p2)), .second, .val (.long (-1 : Int64)), .second, .unset, .unset, .unset, .unset] [(.long (own_rs q1 p2))])) _
    refine XS.lloadN X4.here hx rfl (hb hby at_54) rfl ?_
    show Steps p.tables e below (T4.setTop (mkF m 55 #[.val (.long q1), .second, .val (.int p2), .val (.int p3), .val (.int (own_cn p2)), .val (.int (1 : Int32)), .val (.long (own_rs q1 p2)), .second, .val (.long (-1 : Int64)), .second, .unset, .unset, .unset, .unset] [(.long q1), (.long (own_rs q1 p2))])) _
    refine XS.lxor X4.here hx rfl (hb hby at_55) rfl ?_
    show Steps p.tables e below (T4.setTop (mkF m 56 #[.val (.long q1), .second, .val (.int p2), .val (.int p3), .val (.int (own_cn p2)), .val (.int (1 : Int32)), .val (.long (own_rs q1 p2)), .second, .val (.long (-1 : Int64)), .second, .unset, .unset, .unset, .unset] [(.long ((own_rs q1 p2) ^^^ q1))])) _
    refine XS.lload X4.here hx rfl (hb hby at_56) rfl ?_
    show Steps p.tables e below (T4.setTop (mkF m 58 #[.val (.long q1), .second, .val (.int p2), .val (.int p3), .val (.int (own_cn p2)), .val (.int (1 : Int32)), .val (.long (own_rs q1 p2)), .second, .val (.long (-1 : Int64)), .second, .unset, .unset, .unset, .unset] [(.long (-1 : Int64)), (.long ((own_rs q1 p2) ^^^ q1))])) _
    refine XS.land X4.here hx rfl (hb hby at_58) rfl ?_
    show Steps p.tables e below (T4.setTop (mkF m 59 #[.val (.long q1), .second, .val (.int p2), .val (.int p3), .val (.int (own_cn p2)), .val (.int (1 : Int32)), .val (.long (own_rs q1 p2)), .second, .val (.long (-1 : Int64)), .second, .unset, .unset, .unset, .unset] [(.long (((own_rs q1 p2) ^^^ q1) &&& (-1 : Int64)))])) _
    refine XS.lconst X4.here hx rfl (hb hby at_59) ?_
    show Steps p.tables e below (T4.setTop (mkF m 60 #[.val (.long q1), .second, .val (.int p2), .val (.int p3), .val (.int (own_cn p2)), .val (.int (1 : Int32)), .val (.long (own_rs q1 p2)), .second, .val (.long (-1 : Int64)), .second, .unset, .unset, .unset, .unset] [(.long (0 : Int64)), (.long (((own_rs q1 p2) ^^^ q1) &&& (-1 : Int64)))])) _
    refine XS.lcmp X4.here hx rfl (hb hby at_60) rfl ?_
    show Steps p.tables e below (T4.setTop (mkF m 61 #[.val (.long q1), .second, .val (.int p2), .val (.int p3), .val (.int (own_cn p2)), .val (.int (1 : Int32)), .val (.long (own_rs q1 p2)), .second, .val (.long (-1 : Int64)), .second, .unset, .unset, .unset, .unset] [(.int (lcmpW (((own_rs q1 p2) ^^^ q1) &&& (-1 : Int64)) (0 : Int64)))])) _
    refine XS.ifNo X4.here hx rfl (hb hby at_61) rfl ((if0 _ _).trans (teq ((lw_eq _ _).mpr hlow : (lcmpW (((own_rs q1 p2) ^^^ q1) &&& (-1 : Int64)) (0 : Int64)) = (0 : Int32))).2) ?_
    show Steps p.tables e below (T4.setTop (mkF m 64 #[.val (.long q1), .second, .val (.int p2), .val (.int p3), .val (.int (own_cn p2)), .val (.int (1 : Int32)), .val (.long (own_rs q1 p2)), .second, .val (.long (-1 : Int64)), .second, .unset, .unset, .unset, .unset] [])) _
    refine XS.iconst X4.here hx rfl (hb hby at_64) ?_
    show Steps p.tables e below (T4.setTop (mkF m 65 #[.val (.long q1), .second, .val (.int p2), .val (.int p3), .val (.int (own_cn p2)), .val (.int (1 : Int32)), .val (.long (own_rs q1 p2)), .second, .val (.long (-1 : Int64)), .second, .unset, .unset, .unset, .unset] [(.int (1 : Int32))])) _
    refine XS.goto X4.here hx rfl (pc0 := 65) (pc' := 69) rfl (hb hby at_65) (by decide) (by decide) ?_
    show Steps p.tables e below (T4.setTop (mkF m 69 #[.val (.long q1), .second, .val (.int p2), .val (.int p3), .val (.int (own_cn p2)), .val (.int (1 : Int32)), .val (.long (own_rs q1 p2)), .second, .val (.long (-1 : Int64)), .second, .unset, .unset, .unset, .unset] [(.int (1 : Int32))])) _
    refine XS.istore X4.here hx rfl (hb hby at_69) rfl (l' := #[.val (.long q1), .second, .val (.int p2), .val (.int p3), .val (.int (own_cn p2)), .val (.int (1 : Int32)), .val (.long (own_rs q1 p2)), .second, .val (.long (-1 : Int64)), .second, .val (.int (1 : Int32)), .unset, .unset, .unset]) rfl ?_
    show Steps p.tables e below (T4.setTop (mkF m 71 #[.val (.long q1), .second, .val (.int p2), .val (.int p3), .val (.int (own_cn p2)), .val (.int (1 : Int32)), .val (.long (own_rs q1 p2)), .second, .val (.long (-1 : Int64)), .second, .val (.int (1 : Int32)), .unset, .unset, .unset] [])) _
    refine XS.iload X4.here hx rfl (hb hby at_71) rfl ?_
    show Steps p.tables e below (T4.setTop (mkF m 73 #[.val (.long q1), .second, .val (.int p2), .val (.int p3), .val (.int (own_cn p2)), .val (.int (1 : Int32)), .val (.long (own_rs q1 p2)), .second, .val (.long (-1 : Int64)), .second, .val (.int (1 : Int32)), .unset, .unset, .unset] [(.int (1 : Int32))])) _
    refine XS.ifNo X4.here hx rfl (hb hby at_73) rfl ((if0 _ _).trans (feq hc73).1) ?_
    show Steps p.tables e below (T4.setTop (mkF m 76 #[.val (.long q1), .second, .val (.int p2), .val (.int p3), .val (.int (own_cn p2)), .val (.int (1 : Int32)), .val (.long (own_rs q1 p2)), .second, .val (.long (-1 : Int64)), .second, .val (.int (1 : Int32)), .unset, .unset, .unset] [])) _
    refine XS.lload X4.here hx rfl (hb hby at_76) rfl ?_
    show Steps p.tables e below (T4.setTop (mkF m 78 #[.val (.long q1), .second, .val (.int p2), .val (.int p3), .val (.int (own_cn p2)), .val (.int (1 : Int32)), .val (.long (own_rs q1 p2)), .second, .val (.long (-1 : Int64)), .second, .val (.int (1 : Int32)), .unset, .unset, .unset] [(.long (own_rs q1 p2))])) _
    refine XS.iload X4.here hx rfl (hb hby at_78) rfl ?_
    show Steps p.tables e below (T4.setTop (mkF m 80 #[.val (.long q1), .second, .val (.int p2), .val (.int p3), .val (.int (own_cn p2)), .val (.int (1 : Int32)), .val (.long (own_rs q1 p2)), .second, .val (.long (-1 : Int64)), .second, .val (.int (1 : Int32)), .unset, .unset, .unset] [(.int (own_cn p2)), (.long (own_rs q1 p2))])) _
    refine XS.iconst X4.here hx rfl (hb hby at_80) ?_
    show Steps p.tables e below (T4.setTop (mkF m 81 #[.val (.long q1), .second, .val (.int p2), .val (.int p3), .val (.int (own_cn p2)), .val (.int (1 : Int32)), .val (.long (own_rs q1 p2)), .second, .val (.long (-1 : Int64)), .second, .val (.int (1 : Int32)), .unset, .unset, .unset] [(.int (1 : Int32)), (.int (own_cn p2)), (.long (own_rs q1 p2))])) _
    refine XS.isub X4.here hx rfl (hb hby at_81) rfl ?_
    show Steps p.tables e below (T4.setTop (mkF m 82 #[.val (.long q1), .second, .val (.int p2), .val (.int p3), .val (.int (own_cn p2)), .val (.int (1 : Int32)), .val (.long (own_rs q1 p2)), .second, .val (.long (-1 : Int64)), .second, .val (.int (1 : Int32)), .unset, .unset, .unset] [(.int ((own_cn p2) - (1 : Int32))), (.long (own_rs q1 p2))])) _
    refine XS.lshr X4.here hx rfl (hb hby at_82) rfl ?_
    show Steps p.tables e below (T4.setTop (mkF m 83 #[.val (.long q1), .second, .val (.int p2), .val (.int p3), .val (.int (own_cn p2)), .val (.int (1 : Int32)), .val (.long (own_rs q1 p2)), .second, .val (.long (-1 : Int64)), .second, .val (.int (1 : Int32)), .unset, .unset, .unset] [(.long (own_ts q1 p2))])) _
    refine XS.goto X4.here hx rfl (pc0 := 83) (pc' := 93) rfl (hb hby at_83) (by decide) (by decide) ?_
    show Steps p.tables e below (T4.setTop (mkF m 93 #[.val (.long q1), .second, .val (.int p2), .val (.int p3), .val (.int (own_cn p2)), .val (.int (1 : Int32)), .val (.long (own_rs q1 p2)), .second, .val (.long (-1 : Int64)), .second, .val (.int (1 : Int32)), .unset, .unset, .unset] [(.long (own_ts q1 p2))])) _
    refine XS.lstore X4.here hx rfl (hb hby at_93) rfl (l' := #[.val (.long q1), .second, .val (.int p2), .val (.int p3), .val (.int (own_cn p2)), .val (.int (1 : Int32)), .val (.long (own_rs q1 p2)), .second, .val (.long (-1 : Int64)), .second, .val (.int (1 : Int32)), .val (.long (own_ts q1 p2)), .second, .unset]) rfl ?_
    show Steps p.tables e below (T4.setTop (mkF m 95 #[.val (.long q1), .second, .val (.int p2), .val (.int p3), .val (.int (own_cn p2)), .val (.int (1 : Int32)), .val (.long (own_rs q1 p2)), .second, .val (.long (-1 : Int64)), .second, .val (.int (1 : Int32)), .val (.long (own_ts q1 p2)), .second, .unset] [])) _
    refine XS.iload X4.here hx rfl (hb hby at_95) rfl ?_
    show Steps p.tables e below (T4.setTop (mkF m 97 #[.val (.long q1), .second, .val (.int p2), .val (.int p3), .val (.int (own_cn p2)), .val (.int (1 : Int32)), .val (.long (own_rs q1 p2)), .second, .val (.long (-1 : Int64)), .second, .val (.int (1 : Int32)), .val (.long (own_ts q1 p2)), .second, .unset] [(.int (1 : Int32))])) _
    refine XS.ifNo X4.here hx rfl (hb hby at_97) rfl ((if0 _ _).trans (feq hc97).1) ?_
    show Steps p.tables e below (T4.setTop (mkF m 100 #[.val (.long q1), .second, .val (.int p2), .val (.int p3), .val (.int (own_cn p2)), .val (.int (1 : Int32)), .val (.long (own_rs q1 p2)), .second, .val (.long (-1 : Int64)), .second, .val (.int (1 : Int32)), .val (.long (own_ts q1 p2)), .second, .unset] [])) _
    refine XS.lload X4.here hx rfl (hb hby at_100) rfl ?_
    show Steps p.tables e below (T4.setTop (mkF m 102 #[.val (.long q1), .second, .val (.int p2), .val (.int p3), .val (.int (own_cn p2)), .val (.int (1 : Int32)), .val (.long (own_rs q1 p2)), .second, .val (.long (-1 : Int64)), .second, .val (.int (1 : Int32)), .val (.long (own_ts q1 p2)), .second, .unset] [(.long (own_ts q1 p2))])) _
    refine XS.lconst X4.here hx rfl (hb hby at_102) ?_
    show Steps p.tables e below (T4.setTop (mkF m 103 #[.val (.long q1), .second, .val (.int p2), .val (.int p3), .val (.int (own_cn p2)), .val (.int (1 : Int32)), .val (.long (own_rs q1 p2)), .second, .val (.long (-1 : Int64)), .second, .val (.int (1 : Int32)), .val (.long (own_ts q1 p2)), .second, .unset] [(.long (0 : Int64)), (.long (own_ts q1 p2))])) _
    refine XS.lcmp X4.here hx rfl (hb hby at_103) rfl ?_
    show Steps p.tables e below (T4.setTop (mkF m 104 #[.val (.long q1), .second, .val (.int p2), .val (.int p3), .val (.int (own_cn p2)), .val (.int (1 : Int32)), .val (.long (own_rs q1 p2)), .second, .val (.long (-1 : Int64)), .second, .val (.int (1 : Int32)), .val (.long (own_ts q1 p2)), .second, .unset] [(.int (lcmpW (own_ts q1 p2) (0 : Int64)))])) _
    refine XS.ifNo X4.here hx rfl (hb hby at_104) rfl ((if0 _ _).trans (feq ((fun h => hn0 ((lw_eq _ _).mp h)) : ¬ ((lcmpW (own_ts q1 p2) (0 : Int64)) = (0 : Int32)))).1) ?_
    show Steps p.tables e below (T4.setTop (mkF m 107 #[.val (.long q1), .second, .val (.int p2), .val (.int p3), .val (.int (own_cn p2)), .val (.int (1 : Int32)), .val (.long (own_rs q1 p2)), .second, .val (.long (-1 : Int64)), .second, .val (.int (1 : Int32)), .val (.long (own_ts q1 p2)), .second, .unset] [])) _
    refine XS.lload X4.here hx rfl (hb hby at_107) rfl ?_
    show Steps p.tables e below (T4.setTop (mkF m 109 #[.val (.long q1), .second, .val (.int p2), .val (.int p3), .val (.int (own_cn p2)), .val (.int (1 : Int32)), .val (.long (own_rs q1 p2)), .second, .val (.long (-1 : Int64)), .second, .val (.int (1 : Int32)), .val (.long (own_ts q1 p2)), .second, .unset] [(.long (own_ts q1 p2))])) _
    refine X4.ldc2Long hx hown (mvT hZ (hw _ (List.mem_of_getElem? (i := 4) rfl))) (g := (mkF m 109 #[.val (.long q1), .second, .val (.int p2), .val (.int p3), .val (.int (own_cn p2)), .val (.int (1 : Int32)), .val (.long (own_rs q1 p2)), .second, .val (.long (-1 : Int64)), .second, .val (.int (1 : Int32)), .val (.long (own_ts q1 p2)), .second, .unset] [(.long (own_ts q1 p2))])) rfl (hb hby at_109) _ ?_
    show Steps p.tables e below (T4.setTop (mkF m 112 #[.val (.long q1), .second, .val (.int p2), .val (.int p3), .val (.int (own_cn p2)), .val (.int (1 : Int32)), .val (.long (own_rs q1 p2)), .second, .val (.long (-1 : Int64)), .second, .val (.int (1 : Int32)), .val (.long (own_ts q1 p2)), .second, .unset] [(.long (-1 : Int64)), (.long (own_ts q1 p2))])) _
    refine XS.lcmp X4.here hx rfl (hb hby at_112) rfl ?_
    show Steps p.tables e below (T4.setTop (mkF m 113 #[.val (.long q1), .second, .val (.int p2), .val (.int p3), .val (.int (own_cn p2)), .val (.int (1 : Int32)), .val (.long (own_rs q1 p2)), .second, .val (.long (-1 : Int64)), .second, .val (.int (1 : Int32)), .val (.long (own_ts q1 p2)), .second, .unset] [(.int (lcmpW (own_ts q1 p2) (-1 : Int64)))])) _
    refine XS.ifNo X4.here hx rfl (hb hby at_113) rfl ((if0 _ _).trans (teq ((lw_eq _ _).mpr htop : (lcmpW (own_ts q1 p2) (-1 : Int64)) = (0 : Int32))).2) ?_
    show Steps p.tables e below (T4.setTop (mkF m 116 #[.val (.long q1), .second, .val (.int p2), .val (.int p3), .val (.int (own_cn p2)), .val (.int (1 : Int32)), .val (.long (own_rs q1 p2)), .second, .val (.long (-1 : Int64)), .second, .val (.int (1 : Int32)), .val (.long (own_ts q1 p2)), .second, .unset] [])) _
    refine XS.iconst X4.here hx rfl (hb hby at_116) ?_
    show Steps p.tables e below (T4.setTop (mkF m 117 #[.val (.long q1), .second, .val (.int p2), .val (.int p3), .val (.int (own_cn p2)), .val (.int (1 : Int32)), .val (.long (own_rs q1 p2)), .second, .val (.long (-1 : Int64)), .second, .val (.int (1 : Int32)), .val (.long (own_ts q1 p2)), .second, .unset] [(.int (1 : Int32))])) _
    refine XS.goto X4.here hx rfl (pc0 := 117) (pc' := 143) rfl (hb hby at_117) (by decide) (by decide) ?_
    show Steps p.tables e below (T4.setTop (mkF m 143 #[.val (.long q1), .second, .val (.int p2), .val (.int p3), .val (.int (own_cn p2)), .val (.int (1 : Int32)), .val (.long (own_rs q1 p2)), .second, .val (.long (-1 : Int64)), .second, .val (.int (1 : Int32)), .val (.long (own_ts q1 p2)), .second, .unset] [(.int (1 : Int32))])) _
    refine XS.istore X4.here hx rfl (hb hby at_143) rfl (l' := #[.val (.long q1), .second, .val (.int p2), .val (.int p3), .val (.int (own_cn p2)), .val (.int (1 : Int32)), .val (.long (own_rs q1 p2)), .second, .val (.long (-1 : Int64)), .second, .val (.int (1 : Int32)), .val (.long (own_ts q1 p2)), .second, .val (.int (1 : Int32))]) rfl ?_
    show Steps p.tables e below (T4.setTop (mkF m 145 #[.val (.long q1), .second, .val (.int p2), .val (.int p3), .val (.int (own_cn p2)), .val (.int (1 : Int32)), .val (.long (own_rs q1 p2)), .second, .val (.long (-1 : Int64)), .second, .val (.int (1 : Int32)), .val (.long (own_ts q1 p2)), .second, .val (.int (1 : Int32))] [])) _
    refine XS.iload X4.here hx rfl (hb hby at_145) rfl ?_
    show Steps p.tables e below (T4.setTop (mkF m 147 #[.val (.long q1), .second, .val (.int p2), .val (.int p3), .val (.int (own_cn p2)), .val (.int (1 : Int32)), .val (.long (own_rs q1 p2)), .second, .val (.long (-1 : Int64)), .second, .val (.int (1 : Int32)), .val (.long (own_ts q1 p2)), .second, .val (.int (1 : Int32))] [(.int (1 : Int32))])) _
    refine XS.ifNo X4.here hx rfl (hb hby at_147) rfl ((if0 _ _).trans (feq hc147).1) ?_
    show Steps p.tables e below (T4.setTop (mkF m 150 #[.val (.long q1), .second, .val (.int p2), .val (.int p3), .val (.int (own_cn p2)), .val (.int (1 : Int32)), .val (.long (own_rs q1 p2)), .second, .val (.long (-1 : Int64)), .second, .val (.int (1 : Int32)), .val (.long (own_ts q1 p2)), .second, .val (.int (1 : Int32))] [])) _
    refine XS.iload X4.here hx rfl (hb hby at_150) rfl ?_
    show Steps p.tables e below (T4.setTop (mkF m 152 #[.val (.long q1), .second, .val (.int p2), .val (.int p3), .val (.int (own_cn p2)), .val (.int (1 : Int32)), .val (.long (own_rs q1 p2)), .second, .val (.long (-1 : Int64)), .second, .val (.int (1 : Int32)), .val (.long (own_ts q1 p2)), .second, .val (.int (1 : Int32))] [(.int (1 : Int32))])) _
    refine XS.ifNo X4.here hx rfl (hb hby at_152) rfl ((if0 _ _).trans (feq hc152).1) ?_
    show Steps p.tables e below (T4.setTop (mkF m 155 #[.val (.long q1), .second, .val (.int p2), .val (.int p3), .val (.int (own_cn p2)), .val (.int (1 : Int32)), .val (.long (own_rs q1 p2)), .second, .val (.long (-1 : Int64)), .second, .val (.int (1 : Int32)), .val (.long (own_ts q1 p2)), .second, .val (.int (1 : Int32))] [])) _
    refine XS.iconst X4.here hx rfl (hb hby at_155) ?_
    show Steps p.tables e below (T4.setTop (mkF m 156 #[.val (.long q1), .second, .val (.int p2), .val (.int p3), .val (.int (own_cn p2)), .val (.int (1 : Int32)), .val (.long (own_rs q1 p2)), .second, .val (.long (-1 : Int64)), .second, .val (.int (1 : Int32)), .val (.long (own_ts q1 p2)), .second, .val (.int (1 : Int32))] [(.int (1 : Int32))])) _
    refine XS.goto X4.here hx rfl (pc0 := 156) (pc' := 160) rfl (hb hby at_156) (by decide) (by decide) ?_
    show Steps p.tables e below (T4.setTop (mkF m 160 #[.val (.long q1), .second, .val (.int p2), .val (.int p3), .val (.int (own_cn p2)), .val (.int (1 : Int32)), .val (.long (own_rs q1 p2)), .second, .val (.long (-1 : Int64)), .second, .val (.int (1 : Int32)), .val (.long (own_ts q1 p2)), .second, .val (.int (1 : Int32))] [(.int (1 : Int32))])) _
    exact retN X4 hx (t := .boolean) Bd.returns (by simp) (hb hby at_160) hr
  · show Q0 Z q1 p2 p3 h0 n0 _ T4.heap _
    exact ⟨rfl, N4⟩
set_option maxRecDepth 65536 in
set_option maxHeartbeats 40000000 in
theorem rm0_3 (l : Launch) (Z : State) (a0 : Array Value) (hw : ∀ d ∈ tables_1, d.before a0 Z = true) (ws : List Jvm.Cond) (q1 : Int64) (p2 : Int32) (p3 : Int32) (h0 : Heap) (n0 : Nat) (Z0 : n0 ≤ h0.size) (hc11 : ¬ ((p3 &&& (1 : Int32)) = (0 : Int32))) (hc35 : ¬ ((own_cn p2) = (64 : Int32))) (hc73 : ¬ ((1 : Int32) = (0 : Int32))) (hc97 : ¬ ((1 : Int32) = (0 : Int32))) (hc147 : ¬ ((1 : Int32) = (0 : Int32))) (hc152 : ¬ ((1 : Int32) = (0 : Int32))) (hlow : ((own_rs q1 p2) ^^^ q1) &&& (own_mk p2) = 0) (htop : (own_ts q1 p2) = 0) :
    MetFree l x (head1 (Jvm.Cond.code x code maxLocals ret :: ws) room_1) (fun a U => a = #[(.long q1), (.int p2), (.int p3)] ∧ Z.Warmed39 U.vm ∧ U.heap = h0) (fun _ _ _ _ _ => True) (fun _ U o U' => ∃ v L, o = .returned v ∧ Q0 Z q1 p2 p3 h0 n0 v U'.heap L ∧ FrameEnd U o U' L room_1.cells room_1.slots) := by
  refine MetFree.of_bodySF (plainFor_of_name pn_0) hisR ?_
  intro p e s m args below meth c s₁ Bd hml0 hP hK
  obtain ⟨rfl, hZ, hh⟩ := hP
  have hx := Bd.exec
  have hby := Bd.bytes
  have hml : c.maxLocals = 14 := hml0
  have hown : s.vm.findClass "com/example/narrowint/narrowint/codec/BitsFromLowPinLaw" = some m.cls := findClass_of_methodNamed Bd.named
  have hnm := (name_of_methodNamed Bd.named Bd.method).1
  have X0 : Stand p l e room_1 s m #[(.long q1), (.int p2), (.int p3)] below meth c s₁ [] 0 0 := Stand.of_body Bd
  have e0 : s₁.heap = h0 := by rw [← hh, Bd.state]; rfl
  have N0 := Fr.nil n0
  have pre0 : ∀ t, Steps p.tables e below (s₁.setTop (mkF m 0 #[.val (.long q1), .second, .val (.int p2), .val (.int p3), .unset, .unset, .unset, .unset, .unset, .unset, .unset, .unset, .unset, .unset] [])) t → Steps p.tables e below (s₁.setTop (entryFrame m #[(.long q1), (.int p2), (.int p3)] maxLocals)) t := fun t k => castTop (ef_0 m q1 p2 p3) k
  obtain ⟨_, _, ⟨T4, L4, k4, n4⟩, -, X4, ⟨Lc4, hQ4, l4, y4, z4⟩, st4⟩ := Jvm.LawKit.callS X0 hx (y := (⟨"com/example/narrowint/narrowint/codec/Bits", "fromLow", "(JIZ)J"⟩ : MethodName)) hown (mvT hZ (hw _ (List.mem_of_getElem? (i := 0) rfl))) (mvT hZ (hw _ (List.mem_of_getElem? (i := 1) rfl))) (mvT hZ (hw _ (List.mem_of_getElem? (i := 2) rfl))) (mvT hZ (hw _ (List.mem_of_getElem? (i := 3) rfl))) (by decide) (backOf (W := 0) (rm1s l Z a0 hw [] q1 (own_cn p2) (1 : Int32) h0 n0 Z0 (by decide)) hZ (hw _ (List.mem_of_getElem? (i := 3) rfl)) (hw _ (List.mem_of_getElem? (i := 2) rfl)) (by decide) (by decide)) (g := (mkF m 26 #[.val (.long q1), .second, .val (.int p2), .val (.int p3), .val (.int (own_cn p2)), .val (.int (1 : Int32)), .unset, .unset, .unset, .unset, .unset, .unset, .unset, .unset] [(.int (1 : Int32)), (.int (own_cn p2)), (.long q1)])) rfl (by rw [hml]; rfl) (argsL := [(.long q1), (.int (own_cn p2)), (.int (1 : Int32))]) (rest := []) (lenOf pd_0_0 rfl) rfl (by show 2 * 0 + _ ≤ _; exact Nat.le_of_eq rfl) (hb hby at_26) (fun _ _ => ⟨rfl, e0, (by decide : 0 + 0 ≤ _), (by decide : 0 + 0 ≤ _)⟩)
  dsimp only [Pt.U, Pt.locs, Pt.cells, Pt.slots] at X4 l4 y4 z4 st4 hQ4
  subst l4 y4 z4
  obtain ⟨rfl, N4q, e4⟩ := hQ4
  have N4 := Fr.app N0 N4q
  obtain ⟨fs, hr, hrun, hended, hW, hsame⟩ := X4.leave (v := some (.int (1 : Int32))) (fun h => by rw [Bd.returns] at h; cases h) (hlocks := by first | exact BodyLoose.notSynchronized Bd | exact Body.notSynchronized Bd)
  refine ⟨_, _, pre0 _ ?_, hrun, hended, _, _, rfl, ?_, ⟨_, rfl⟩, hW, hsame.mono (by decide) (by decide)⟩
  · show Steps p.tables e below (s₁.setTop (mkF m 0 #[.val (.long q1), .second, .val (.int p2), .val (.int p3), .unset, .unset, .unset, .unset, .unset, .unset, .unset, .unset, .unset, .unset] [])) _
    refine XS.iloadN X0.here hx rfl (hb hby at_0) rfl ?_
    show Steps p.tables e below (s₁.setTop (mkF m 1 #[.val (.long q1), .second, .val (.int p2), .val (.int p3), .unset, .unset, .unset, .unset, .unset, .unset, .unset, .unset, .unset, .unset] [(.int p2)])) _
    refine XS.bipush X0.here hx rfl (hb hby at_1) ?_
    show Steps p.tables e below (s₁.setTop (mkF m 3 #[.val (.long q1), .second, .val (.int p2), .val (.int p3), .unset, .unset, .unset, .unset, .unset, .unset, .unset, .unset, .unset, .unset] [(.int (63 : Int32)), (.int p2)])) _
    refine XS.iand X0.here hx rfl (hb hby at_3) rfl ?_
    show Steps p.tables e below (s₁.setTop (mkF m 4 #[.val (.long q1), .second, .val (.int p2), .val (.int p3), .unset, .unset, .unset, .unset, .unset, .unset, .unset, .unset, .unset, .unset] [(.int (p2 &&& (63 : Int32)))])) _
    refine XS.iconst X0.here hx rfl (hb hby at_4) ?_
    show Steps p.tables e below (s₁.setTop (mkF m 5 #[.val (.long q1), .second, .val (.int p2), .val (.int p3), .unset, .unset, .unset, .unset, .unset, .unset, .unset, .unset, .unset, .unset] [(.int (1 : Int32)), (.int (p2 &&& (63 : Int32)))])) _
    refine XS.iadd X0.here hx rfl (hb hby at_5) rfl ?_
    show Steps p.tables e below (s₁.setTop (mkF m 6 #[.val (.long q1), .second, .val (.int p2), .val (.int p3), .unset, .unset, .unset, .unset, .unset, .unset, .unset, .unset, .unset, .unset] [(.int (own_cn p2))])) _
    refine XS.istore X0.here hx rfl (hb hby at_6) rfl (l' := #[.val (.long q1), .second, .val (.int p2), .val (.int p3), .val (.int (own_cn p2)), .unset, .unset, .unset, .unset, .unset, .unset, .unset, .unset, .unset]) rfl ?_
    show Steps p.tables e below (s₁.setTop (mkF m 8 #[.val (.long q1), .second, .val (.int p2), .val (.int p3), .val (.int (own_cn p2)), .unset, .unset, .unset, .unset, .unset, .unset, .unset, .unset, .unset] [])) _
    refine XS.iloadN X0.here hx rfl (hb hby at_8) rfl ?_
    show Steps p.tables e below (s₁.setTop (mkF m 9 #[.val (.long q1), .second, .val (.int p2), .val (.int p3), .val (.int (own_cn p2)), .unset, .unset, .unset, .unset, .unset, .unset, .unset, .unset, .unset] [(.int p3)])) _
    refine XS.iconst X0.here hx rfl (hb hby at_9) ?_
    show Steps p.tables e below (s₁.setTop (mkF m 10 #[.val (.long q1), .second, .val (.int p2), .val (.int p3), .val (.int (own_cn p2)), .unset, .unset, .unset, .unset, .unset, .unset, .unset, .unset, .unset] [(.int (1 : Int32)), (.int p3)])) _
    refine XS.iand X0.here hx rfl (hb hby at_10) rfl ?_
    show Steps p.tables e below (s₁.setTop (mkF m 11 #[.val (.long q1), .second, .val (.int p2), .val (.int p3), .val (.int (own_cn p2)), .unset, .unset, .unset, .unset, .unset, .unset, .unset, .unset, .unset] [(.int (p3 &&& (1 : Int32)))])) _
    refine XS.ifNo X0.here hx rfl (hb hby at_11) rfl ((if0 _ _).trans (feq hc11).1) ?_
    show Steps p.tables e below (s₁.setTop (mkF m 14 #[.val (.long q1), .second, .val (.int p2), .val (.int p3), .val (.int (own_cn p2)), .unset, .unset, .unset, .unset, .unset, .unset, .unset, .unset, .unset] [])) _
    refine XS.iconst X0.here hx rfl (hb hby at_14) ?_
    show Steps p.tables e below (s₁.setTop (mkF m 15 #[.val (.long q1), .second, .val (.int p2), .val (.int p3), .val (.int (own_cn p2)), .unset, .unset, .unset, .unset, .unset, .unset, .unset, .unset, .unset] [(.int (1 : Int32))])) _
    refine XS.goto X0.here hx rfl (pc0 := 15) (pc' := 19) rfl (hb hby at_15) (by decide) (by decide) ?_
    show Steps p.tables e below (s₁.setTop (mkF m 19 #[.val (.long q1), .second, .val (.int p2), .val (.int p3), .val (.int (own_cn p2)), .unset, .unset, .unset, .unset, .unset, .unset, .unset, .unset, .unset] [(.int (1 : Int32))])) _
    refine XS.istore X0.here hx rfl (hb hby at_19) rfl (l' := #[.val (.long q1), .second, .val (.int p2), .val (.int p3), .val (.int (own_cn p2)), .val (.int (1 : Int32)), .unset, .unset, .unset, .unset, .unset, .unset, .unset, .unset]) rfl ?_
    show Steps p.tables e below (s₁.setTop (mkF m 21 #[.val (.long q1), .second, .val (.int p2), .val (.int p3), .val (.int (own_cn p2)), .val (.int (1 : Int32)), .unset, .unset, .unset, .unset, .unset, .unset, .unset, .unset] [])) _
    refine XS.lloadN X0.here hx rfl (hb hby at_21) rfl ?_
    show Steps p.tables e below (s₁.setTop (mkF m 22 #[.val (.long q1), .second, .val (.int p2), .val (.int p3), .val (.int (own_cn p2)), .val (.int (1 : Int32)), .unset, .unset, .unset, .unset, .unset, .unset, .unset, .unset] [(.long q1)])) _
    refine XS.iload X0.here hx rfl (hb hby at_22) rfl ?_
    show Steps p.tables e below (s₁.setTop (mkF m 24 #[.val (.long q1), .second, .val (.int p2), .val (.int p3), .val (.int (own_cn p2)), .val (.int (1 : Int32)), .unset, .unset, .unset, .unset, .unset, .unset, .unset, .unset] [(.int (own_cn p2)), (.long q1)])) _
    refine XS.iload X0.here hx rfl (hb hby at_24) rfl ?_
    show Steps p.tables e below (s₁.setTop (mkF m 26 #[.val (.long q1), .second, .val (.int p2), .val (.int p3), .val (.int (own_cn p2)), .val (.int (1 : Int32)), .unset, .unset, .unset, .unset, .unset, .unset, .unset, .unset] [(.int (1 : Int32)), (.int (own_cn p2)), (.long q1)])) _
    refine st4 _ ?_
    show Steps p.tables e below (T4.setTop (mkF m 29 #[.val (.long q1), .second, .val (.int p2), .val (.int p3), .val (.int (own_cn p2)), .val (.int (1 : Int32)), .unset, .unset, .unset, .unset, .unset, .unset, .unset, .unset] [(.long (own_rs q1 p2))])) _
    refine XS.lstore X4.here hx rfl (hb hby at_29) rfl (l' := #[.val (.long q1), .second, .val (.int p2), .val (.int p3), .val (.int (own_cn p2)), .val (.int (1 : Int32)), .val (.long (own_rs q1 p2)), .second, .unset, .unset, .unset, .unset, .unset, .unset]) rfl ?_
    show Steps p.tables e below (T4.setTop (mkF m 31 #[.val (.long q1), .second, .val (.int p2), .val (.int p3), .val (.int (own_cn p2)), .val (.int (1 : Int32)), .val (.long (own_rs q1 p2)), .second, .unset, .unset, .unset, .unset, .unset, .unset] [])) _
    refine XS.iload X4.here hx rfl (hb hby at_31) rfl ?_
    show Steps p.tables e below (T4.setTop (mkF m 33 #[.val (.long q1), .second, .val (.int p2), .val (.int p3), .val (.int (own_cn p2)), .val (.int (1 : Int32)), .val (.long (own_rs q1 p2)), .second, .unset, .unset, .unset, .unset, .unset, .unset] [(.int (own_cn p2))])) _
    refine XS.bipush X4.here hx rfl (hb hby at_33) ?_
    show Steps p.tables e below (T4.setTop (mkF m 35 #[.val (.long q1), .second, .val (.int p2), .val (.int p3), .val (.int (own_cn p2)), .val (.int (1 : Int32)), .val (.long (own_rs q1 p2)), .second, .unset, .unset, .unset, .unset, .unset, .unset] [(.int (64 : Int32)), (.int (own_cn p2))])) _
    refine XS.icmpYes X4.here hx rfl (pc0 := 35) (pc' := 44) rfl (hb hby at_35) rfl (feq hc35).2 (by decide) (by decide) ?_
    show Steps p.tables e below (T4.setTop (mkF m 44 #[.val (.long q1), .second, .val (.int p2), .val (.int p3), .val (.int (own_cn p2)), .val (.int (1 : Int32)), .val (.long (own_rs q1 p2)), .second, .unset, .unset, .unset, .unset, .unset, .unset] [])) _
    refine XS.lconst X4.here hx rfl (hb hby at_44) ?_
    show Steps p.tables e below (T4.setTop (mkF m 45 #[.val (.long q1), .second, .val (.int p2), .val (.int p3), .val (.int (own_cn p2)), .val (.int (1 : Int32)), .val (.long (own_rs q1 p2)), .second, .unset, .unset, .unset, .unset, .unset, .unset] [(.long (1 : Int64))])) _
    refine XS.iload X4.here hx rfl (hb hby at_45) rfl ?_
    show Steps p.tables e below (T4.setTop (mkF m 47 #[.val (.long q1), .second, .val (.int p2), .val (.int p3), .val (.int (own_cn p2)), .val (.int (1 : Int32)), .val (.long (own_rs q1 p2)), .second, .unset, .unset, .unset, .unset, .unset, .unset] [(.int (own_cn p2)), (.long (1 : Int64))])) _
    refine XS.lshl X4.here hx rfl (hb hby at_47) rfl ?_
    show Steps p.tables e below (T4.setTop (mkF m 48 #[.val (.long q1), .second, .val (.int p2), .val (.int p3), .val (.int (own_cn p2)), .val (.int (1 : Int32)), .val (.long (own_rs q1 p2)), .second, .unset, .unset, .unset, .unset, .unset, .unset] [(.long ((1 : Int64) <<< ((own_cn p2) &&& 0x3f).toInt64))])) _
    refine XS.lconst X4.here hx rfl (hb hby at_48) ?_
    show Steps p.tables e below (T4.setTop (mkF m 49 #[.val (.long q1), .second, .val (.int p2), .val (.int p3), .val (.int (own_cn p2)), .val (.int (1 : Int32)), .val (.long (own_rs q1 p2)), .second, .unset, .unset, .unset, .unset, .unset, .unset] [(.long (1 : Int64)), (.long ((1 : Int64) <<< ((own_cn p2) &&& 0x3f).toInt64))])) _
    refine XS.lsub X4.here hx rfl (hb hby at_49) rfl ?_
    show Steps p.tables e below (T4.setTop (mkF m 50 #[.val (.long q1), .second, .val (.int p2), .val (.int p3), .val (.int (own_cn p2)), .val (.int (1 : Int32)), .val (.long (own_rs q1 p2)), .second, .unset, .unset, .unset, .unset, .unset, .unset] [(.long (own_mk p2))])) _
    refine XS.lstore X4.here hx rfl (hb hby at_50) rfl (l' := #[.val (.long q1), .second, .val (.int p2), .val (.int p3), .val (.int (own_cn p2)), .val (.int (1 : Int32)), .val (.long (own_rs q1 p2)), .second, .val (.long (own_mk p2)), .second, .unset, .unset, .unset, .unset]) rfl ?_
    show Steps p.tables e below (T4.setTop (mkF m 52 #[.val (.long q1), .second, .val (.int p2), .val (.int p3), .val (.int (own_cn p2)), .val (.int (1 : Int32)), .val (.long (own_rs q1 p2)), .second, .val (.long (own_mk p2)), .second, .unset, .unset, .unset, .unset] [])) _
    refine XS.lload X4.here hx rfl (hb hby at_52) rfl ?_
    show Steps p.tables e below (T4.setTop (mkF m 54 #[.val (.long q1), .second, .val (.int p2), .val (.int p3), .val (.int (own_cn p2)), .val (.int (1 : Int32)), .val (.long (own_rs q1 p2)), .second, .val (.long (own_mk p2)), .second, .unset, .unset, .unset, .unset] [(.long (own_rs q1 p2))])) _
    refine XS.lloadN X4.here hx rfl (hb hby at_54) rfl ?_
    show Steps p.tables e below (T4.setTop (mkF m 55 #[.val (.long q1), .second, .val (.int p2), .val (.int p3), .val (.int (own_cn p2)), .val (.int (1 : Int32)), .val (.long (own_rs q1 p2)), .second, .val (.long (own_mk p2)), .second, .unset, .unset, .unset, .unset] [(.long q1), (.long (own_rs q1 p2))])) _
    refine XS.lxor X4.here hx rfl (hb hby at_55) rfl ?_
    show Steps p.tables e below (T4.setTop (mkF m 56 #[.val (.long q1), .second, .val (.int p2), .val (.int p3), .val (.int (own_cn p2)), .val (.int (1 : Int32)), .val (.long (own_rs q1 p2)), .second, .val (.long (own_mk p2)), .second, .unset, .unset, .unset, .unset] [(.long ((own_rs q1 p2) ^^^ q1))])) _
    refine XS.lload X4.here hx rfl (hb hby at_56) rfl ?_
    show Steps p.tables e below (T4.setTop (mkF m 58 #[.val (.long q1), .second, .val (.int p2), .val (.int p3), .val (.int (own_cn p2)), .val (.int (1 : Int32)), .val (.long (own_rs q1 p2)), .second, .val (.long (own_mk p2)), .second, .unset, .unset, .unset, .unset] [(.long (own_mk p2)), (.long ((own_rs q1 p2) ^^^ q1))])) _
    refine XS.land X4.here hx rfl (hb hby at_58) rfl ?_
    show Steps p.tables e below (T4.setTop (mkF m 59 #[.val (.long q1), .second, .val (.int p2), .val (.int p3), .val (.int (own_cn p2)), .val (.int (1 : Int32)), .val (.long (own_rs q1 p2)), .second, .val (.long (own_mk p2)), .second, .unset, .unset, .unset, .unset] [(.long (((own_rs q1 p2) ^^^ q1) &&& (own_mk p2)))])) _
    refine XS.lconst X4.here hx rfl (hb hby at_59) ?_
    show Steps p.tables e below (T4.setTop (mkF m 60 #[.val (.long q1), .second, .val (.int p2), .val (.int p3), .val (.int (own_cn p2)), .val (.int (1 : Int32)), .val (.long (own_rs q1 p2)), .second, .val (.long (own_mk p2)), .second, .unset, .unset, .unset, .unset] [(.long (0 : Int64)), (.long (((own_rs q1 p2) ^^^ q1) &&& (own_mk p2)))])) _
    refine XS.lcmp X4.here hx rfl (hb hby at_60) rfl ?_
    show Steps p.tables e below (T4.setTop (mkF m 61 #[.val (.long q1), .second, .val (.int p2), .val (.int p3), .val (.int (own_cn p2)), .val (.int (1 : Int32)), .val (.long (own_rs q1 p2)), .second, .val (.long (own_mk p2)), .second, .unset, .unset, .unset, .unset] [(.int (lcmpW (((own_rs q1 p2) ^^^ q1) &&& (own_mk p2)) (0 : Int64)))])) _
    refine XS.ifNo X4.here hx rfl (hb hby at_61) rfl ((if0 _ _).trans (teq ((lw_eq _ _).mpr hlow : (lcmpW (((own_rs q1 p2) ^^^ q1) &&& (own_mk p2)) (0 : Int64)) = (0 : Int32))).2) ?_
    show Steps p.tables e below (T4.setTop (mkF m 64 #[.val (.long q1), .second, .val (.int p2), .val (.int p3), .val (.int (own_cn p2)), .val (.int (1 : Int32)), .val (.long (own_rs q1 p2)), .second, .val (.long (own_mk p2)), .second, .unset, .unset, .unset, .unset] [])) _
    refine XS.iconst X4.here hx rfl (hb hby at_64) ?_
    show Steps p.tables e below (T4.setTop (mkF m 65 #[.val (.long q1), .second, .val (.int p2), .val (.int p3), .val (.int (own_cn p2)), .val (.int (1 : Int32)), .val (.long (own_rs q1 p2)), .second, .val (.long (own_mk p2)), .second, .unset, .unset, .unset, .unset] [(.int (1 : Int32))])) _
    refine XS.goto X4.here hx rfl (pc0 := 65) (pc' := 69) rfl (hb hby at_65) (by decide) (by decide) ?_
    show Steps p.tables e below (T4.setTop (mkF m 69 #[.val (.long q1), .second, .val (.int p2), .val (.int p3), .val (.int (own_cn p2)), .val (.int (1 : Int32)), .val (.long (own_rs q1 p2)), .second, .val (.long (own_mk p2)), .second, .unset, .unset, .unset, .unset] [(.int (1 : Int32))])) _
    refine XS.istore X4.here hx rfl (hb hby at_69) rfl (l' := #[.val (.long q1), .second, .val (.int p2), .val (.int p3), .val (.int (own_cn p2)), .val (.int (1 : Int32)), .val (.long (own_rs q1 p2)), .second, .val (.long (own_mk p2)), .second, .val (.int (1 : Int32)), .unset, .unset, .unset]) rfl ?_
    show Steps p.tables e below (T4.setTop (mkF m 71 #[.val (.long q1), .second, .val (.int p2), .val (.int p3), .val (.int (own_cn p2)), .val (.int (1 : Int32)), .val (.long (own_rs q1 p2)), .second, .val (.long (own_mk p2)), .second, .val (.int (1 : Int32)), .unset, .unset, .unset] [])) _
    refine XS.iload X4.here hx rfl (hb hby at_71) rfl ?_
    show Steps p.tables e below (T4.setTop (mkF m 73 #[.val (.long q1), .second, .val (.int p2), .val (.int p3), .val (.int (own_cn p2)), .val (.int (1 : Int32)), .val (.long (own_rs q1 p2)), .second, .val (.long (own_mk p2)), .second, .val (.int (1 : Int32)), .unset, .unset, .unset] [(.int (1 : Int32))])) _
    refine XS.ifNo X4.here hx rfl (hb hby at_73) rfl ((if0 _ _).trans (feq hc73).1) ?_
    show Steps p.tables e below (T4.setTop (mkF m 76 #[.val (.long q1), .second, .val (.int p2), .val (.int p3), .val (.int (own_cn p2)), .val (.int (1 : Int32)), .val (.long (own_rs q1 p2)), .second, .val (.long (own_mk p2)), .second, .val (.int (1 : Int32)), .unset, .unset, .unset] [])) _
    refine XS.lload X4.here hx rfl (hb hby at_76) rfl ?_
    show Steps p.tables e below (T4.setTop (mkF m 78 #[.val (.long q1), .second, .val (.int p2), .val (.int p3), .val (.int (own_cn p2)), .val (.int (1 : Int32)), .val (.long (own_rs q1 p2)), .second, .val (.long (own_mk p2)), .second, .val (.int (1 : Int32)), .unset, .unset, .unset] [(.long (own_rs q1 p2))])) _
    refine XS.iload X4.here hx rfl (hb hby at_78) rfl ?_
    show Steps p.tables e below (T4.setTop (mkF m 80 #[.val (.long q1), .second, .val (.int p2), .val (.int p3), .val (.int (own_cn p2)), .val (.int (1 : Int32)), .val (.long (own_rs q1 p2)), .second, .val (.long (own_mk p2)), .second, .val (.int (1 : Int32)), .unset, .unset, .unset] [(.int (own_cn p2)), (.long (own_rs q1 p2))])) _
    refine XS.iconst X4.here hx rfl (hb hby at_80) ?_
    show Steps p.tables e below (T4.setTop (mkF m 81 #[.val (.long q1), .second, .val (.int p2), .val (.int p3), .val (.int (own_cn p2)), .val (.int (1 : Int32)), .val (.long (own_rs q1 p2)), .second, .val (.long (own_mk p2)), .second, .val (.int (1 : Int32)), .unset, .unset, .unset] [(.int (1 : Int32)), (.int (own_cn p2)), (.long (own_rs q1 p2))])) _
    refine XS.isub X4.here hx rfl (hb hby at_81) rfl ?_
    show Steps p.tables e below (T4.setTop (mkF m 82 #[.val (.long q1), .second, .val (.int p2), .val (.int p3), .val (.int (own_cn p2)), .val (.int (1 : Int32)), .val (.long (own_rs q1 p2)), .second, .val (.long (own_mk p2)), .second, .val (.int (1 : Int32)), .unset, .unset, .unset] [(.int ((own_cn p2) - (1 : Int32))), (.long (own_rs q1 p2))])) _
    refine XS.lshr X4.here hx rfl (hb hby at_82) rfl ?_
    show Steps p.tables e below (T4.setTop (mkF m 83 #[.val (.long q1), .second, .val (.int p2), .val (.int p3), .val (.int (own_cn p2)), .val (.int (1 : Int32)), .val (.long (own_rs q1 p2)), .second, .val (.long (own_mk p2)), .second, .val (.int (1 : Int32)), .unset, .unset, .unset] [(.long (own_ts q1 p2))])) _
    refine XS.goto X4.here hx rfl (pc0 := 83) (pc' := 93) rfl (hb hby at_83) (by decide) (by decide) ?_
    show Steps p.tables e below (T4.setTop (mkF m 93 #[.val (.long q1), .second, .val (.int p2), .val (.int p3), .val (.int (own_cn p2)), .val (.int (1 : Int32)), .val (.long (own_rs q1 p2)), .second, .val (.long (own_mk p2)), .second, .val (.int (1 : Int32)), .unset, .unset, .unset] [(.long (own_ts q1 p2))])) _
    refine XS.lstore X4.here hx rfl (hb hby at_93) rfl (l' := #[.val (.long q1), .second, .val (.int p2), .val (.int p3), .val (.int (own_cn p2)), .val (.int (1 : Int32)), .val (.long (own_rs q1 p2)), .second, .val (.long (own_mk p2)), .second, .val (.int (1 : Int32)), .val (.long (own_ts q1 p2)), .second, .unset]) rfl ?_
    show Steps p.tables e below (T4.setTop (mkF m 95 #[.val (.long q1), .second, .val (.int p2), .val (.int p3), .val (.int (own_cn p2)), .val (.int (1 : Int32)), .val (.long (own_rs q1 p2)), .second, .val (.long (own_mk p2)), .second, .val (.int (1 : Int32)), .val (.long (own_ts q1 p2)), .second, .unset] [])) _
    refine XS.iload X4.here hx rfl (hb hby at_95) rfl ?_
    show Steps p.tables e below (T4.setTop (mkF m 97 #[.val (.long q1), .second, .val (.int p2), .val (.int p3), .val (.int (own_cn p2)), .val (.int (1 : Int32)), .val (.long (own_rs q1 p2)), .second, .val (.long (own_mk p2)), .second, .val (.int (1 : Int32)), .val (.long (own_ts q1 p2)), .second, .unset] [(.int (1 : Int32))])) _
    refine XS.ifNo X4.here hx rfl (hb hby at_97) rfl ((if0 _ _).trans (feq hc97).1) ?_
    show Steps p.tables e below (T4.setTop (mkF m 100 #[.val (.long q1), .second, .val (.int p2), .val (.int p3), .val (.int (own_cn p2)), .val (.int (1 : Int32)), .val (.long (own_rs q1 p2)), .second, .val (.long (own_mk p2)), .second, .val (.int (1 : Int32)), .val (.long (own_ts q1 p2)), .second, .unset] [])) _
    refine XS.lload X4.here hx rfl (hb hby at_100) rfl ?_
    show Steps p.tables e below (T4.setTop (mkF m 102 #[.val (.long q1), .second, .val (.int p2), .val (.int p3), .val (.int (own_cn p2)), .val (.int (1 : Int32)), .val (.long (own_rs q1 p2)), .second, .val (.long (own_mk p2)), .second, .val (.int (1 : Int32)), .val (.long (own_ts q1 p2)), .second, .unset] [(.long (own_ts q1 p2))])) _
    refine XS.lconst X4.here hx rfl (hb hby at_102) ?_
    show Steps p.tables e below (T4.setTop (mkF m 103 #[.val (.long q1), .second, .val (.int p2), .val (.int p3), .val (.int (own_cn p2)), .val (.int (1 : Int32)), .val (.long (own_rs q1 p2)), .second, .val (.long (own_mk p2)), .second, .val (.int (1 : Int32)), .val (.long (own_ts q1 p2)), .second, .unset] [(.long (0 : Int64)), (.long (own_ts q1 p2))])) _
    refine XS.lcmp X4.here hx rfl (hb hby at_103) rfl ?_
    show Steps p.tables e below (T4.setTop (mkF m 104 #[.val (.long q1), .second, .val (.int p2), .val (.int p3), .val (.int (own_cn p2)), .val (.int (1 : Int32)), .val (.long (own_rs q1 p2)), .second, .val (.long (own_mk p2)), .second, .val (.int (1 : Int32)), .val (.long (own_ts q1 p2)), .second, .unset] [(.int (lcmpW (own_ts q1 p2) (0 : Int64)))])) _
    refine XS.ifYes X4.here hx rfl (pc0 := 104) (pc' := 116) rfl (hb hby at_104) rfl ((if0 _ _).trans (teq ((lw_eq _ _).mpr htop : (lcmpW (own_ts q1 p2) (0 : Int64)) = (0 : Int32))).1) (by decide) (by decide) ?_
    show Steps p.tables e below (T4.setTop (mkF m 116 #[.val (.long q1), .second, .val (.int p2), .val (.int p3), .val (.int (own_cn p2)), .val (.int (1 : Int32)), .val (.long (own_rs q1 p2)), .second, .val (.long (own_mk p2)), .second, .val (.int (1 : Int32)), .val (.long (own_ts q1 p2)), .second, .unset] [])) _
    refine XS.iconst X4.here hx rfl (hb hby at_116) ?_
    show Steps p.tables e below (T4.setTop (mkF m 117 #[.val (.long q1), .second, .val (.int p2), .val (.int p3), .val (.int (own_cn p2)), .val (.int (1 : Int32)), .val (.long (own_rs q1 p2)), .second, .val (.long (own_mk p2)), .second, .val (.int (1 : Int32)), .val (.long (own_ts q1 p2)), .second, .unset] [(.int (1 : Int32))])) _
    refine XS.goto X4.here hx rfl (pc0 := 117) (pc' := 143) rfl (hb hby at_117) (by decide) (by decide) ?_
    show Steps p.tables e below (T4.setTop (mkF m 143 #[.val (.long q1), .second, .val (.int p2), .val (.int p3), .val (.int (own_cn p2)), .val (.int (1 : Int32)), .val (.long (own_rs q1 p2)), .second, .val (.long (own_mk p2)), .second, .val (.int (1 : Int32)), .val (.long (own_ts q1 p2)), .second, .unset] [(.int (1 : Int32))])) _
    refine XS.istore X4.here hx rfl (hb hby at_143) rfl (l' := #[.val (.long q1), .second, .val (.int p2), .val (.int p3), .val (.int (own_cn p2)), .val (.int (1 : Int32)), .val (.long (own_rs q1 p2)), .second, .val (.long (own_mk p2)), .second, .val (.int (1 : Int32)), .val (.long (own_ts q1 p2)), .second, .val (.int (1 : Int32))]) rfl ?_
    show Steps p.tables e below (T4.setTop (mkF m 145 #[.val (.long q1), .second, .val (.int p2), .val (.int p3), .val (.int (own_cn p2)), .val (.int (1 : Int32)), .val (.long (own_rs q1 p2)), .second, .val (.long (own_mk p2)), .second, .val (.int (1 : Int32)), .val (.long (own_ts q1 p2)), .second, .val (.int (1 : Int32))] [])) _
    refine XS.iload X4.here hx rfl (hb hby at_145) rfl ?_
    show Steps p.tables e below (T4.setTop (mkF m 147 #[.val (.long q1), .second, .val (.int p2), .val (.int p3), .val (.int (own_cn p2)), .val (.int (1 : Int32)), .val (.long (own_rs q1 p2)), .second, .val (.long (own_mk p2)), .second, .val (.int (1 : Int32)), .val (.long (own_ts q1 p2)), .second, .val (.int (1 : Int32))] [(.int (1 : Int32))])) _
    refine XS.ifNo X4.here hx rfl (hb hby at_147) rfl ((if0 _ _).trans (feq hc147).1) ?_
    show Steps p.tables e below (T4.setTop (mkF m 150 #[.val (.long q1), .second, .val (.int p2), .val (.int p3), .val (.int (own_cn p2)), .val (.int (1 : Int32)), .val (.long (own_rs q1 p2)), .second, .val (.long (own_mk p2)), .second, .val (.int (1 : Int32)), .val (.long (own_ts q1 p2)), .second, .val (.int (1 : Int32))] [])) _
    refine XS.iload X4.here hx rfl (hb hby at_150) rfl ?_
    show Steps p.tables e below (T4.setTop (mkF m 152 #[.val (.long q1), .second, .val (.int p2), .val (.int p3), .val (.int (own_cn p2)), .val (.int (1 : Int32)), .val (.long (own_rs q1 p2)), .second, .val (.long (own_mk p2)), .second, .val (.int (1 : Int32)), .val (.long (own_ts q1 p2)), .second, .val (.int (1 : Int32))] [(.int (1 : Int32))])) _
    refine XS.ifNo X4.here hx rfl (hb hby at_152) rfl ((if0 _ _).trans (feq hc152).1) ?_
    show Steps p.tables e below (T4.setTop (mkF m 155 #[.val (.long q1), .second, .val (.int p2), .val (.int p3), .val (.int (own_cn p2)), .val (.int (1 : Int32)), .val (.long (own_rs q1 p2)), .second, .val (.long (own_mk p2)), .second, .val (.int (1 : Int32)), .val (.long (own_ts q1 p2)), .second, .val (.int (1 : Int32))] [])) _
    refine XS.iconst X4.here hx rfl (hb hby at_155) ?_
    show Steps p.tables e below (T4.setTop (mkF m 156 #[.val (.long q1), .second, .val (.int p2), .val (.int p3), .val (.int (own_cn p2)), .val (.int (1 : Int32)), .val (.long (own_rs q1 p2)), .second, .val (.long (own_mk p2)), .second, .val (.int (1 : Int32)), .val (.long (own_ts q1 p2)), .second, .val (.int (1 : Int32))] [(.int (1 : Int32))])) _
    refine XS.goto X4.here hx rfl (pc0 := 156) (pc' := 160) rfl (hb hby at_156) (by decide) (by decide) ?_
    show Steps p.tables e below (T4.setTop (mkF m 160 #[.val (.long q1), .second, .val (.int p2), .val (.int p3), .val (.int (own_cn p2)), .val (.int (1 : Int32)), .val (.long (own_rs q1 p2)), .second, .val (.long (own_mk p2)), .second, .val (.int (1 : Int32)), .val (.long (own_ts q1 p2)), .second, .val (.int (1 : Int32))] [(.int (1 : Int32))])) _
    exact retN X4 hx (t := .boolean) Bd.returns (by simp) (hb hby at_160) hr
  · show Q0 Z q1 p2 p3 h0 n0 _ T4.heap _
    exact ⟨rfl, N4⟩
set_option maxRecDepth 65536 in
set_option maxHeartbeats 40000000 in
theorem rm0_4 (l : Launch) (Z : State) (a0 : Array Value) (hw : ∀ d ∈ tables_1, d.before a0 Z = true) (ws : List Jvm.Cond) (q1 : Int64) (p2 : Int32) (p3 : Int32) (h0 : Heap) (n0 : Nat) (Z0 : n0 ≤ h0.size) (hc11 : ¬ ((p3 &&& (1 : Int32)) = (0 : Int32))) (hc35 : ¬ ((own_cn p2) = (64 : Int32))) (hc73 : ¬ ((1 : Int32) = (0 : Int32))) (hc97 : ¬ ((1 : Int32) = (0 : Int32))) (hc147 : ¬ ((1 : Int32) = (0 : Int32))) (hc152 : ¬ ((1 : Int32) = (0 : Int32))) (hlow : ((own_rs q1 p2) ^^^ q1) &&& (own_mk p2) = 0) (hn0 : ¬ (own_ts q1 p2) = 0) (htop : (own_ts q1 p2) = -1) :
    MetFree l x (head1 (Jvm.Cond.code x code maxLocals ret :: ws) room_1) (fun a U => a = #[(.long q1), (.int p2), (.int p3)] ∧ Z.Warmed39 U.vm ∧ U.heap = h0) (fun _ _ _ _ _ => True) (fun _ U o U' => ∃ v L, o = .returned v ∧ Q0 Z q1 p2 p3 h0 n0 v U'.heap L ∧ FrameEnd U o U' L room_1.cells room_1.slots) := by
  refine MetFree.of_bodySF (plainFor_of_name pn_0) hisR ?_
  intro p e s m args below meth c s₁ Bd hml0 hP hK
  obtain ⟨rfl, hZ, hh⟩ := hP
  have hx := Bd.exec
  have hby := Bd.bytes
  have hml : c.maxLocals = 14 := hml0
  have hown : s.vm.findClass "com/example/narrowint/narrowint/codec/BitsFromLowPinLaw" = some m.cls := findClass_of_methodNamed Bd.named
  have hnm := (name_of_methodNamed Bd.named Bd.method).1
  have X0 : Stand p l e room_1 s m #[(.long q1), (.int p2), (.int p3)] below meth c s₁ [] 0 0 := Stand.of_body Bd
  have e0 : s₁.heap = h0 := by rw [← hh, Bd.state]; rfl
  have N0 := Fr.nil n0
  have pre0 : ∀ t, Steps p.tables e below (s₁.setTop (mkF m 0 #[.val (.long q1), .second, .val (.int p2), .val (.int p3), .unset, .unset, .unset, .unset, .unset, .unset, .unset, .unset, .unset, .unset] [])) t → Steps p.tables e below (s₁.setTop (entryFrame m #[(.long q1), (.int p2), (.int p3)] maxLocals)) t := fun t k => castTop (ef_0 m q1 p2 p3) k
  obtain ⟨_, _, ⟨T4, L4, k4, n4⟩, -, X4, ⟨Lc4, hQ4, l4, y4, z4⟩, st4⟩ := Jvm.LawKit.callS X0 hx (y := (⟨"com/example/narrowint/narrowint/codec/Bits", "fromLow", "(JIZ)J"⟩ : MethodName)) hown (mvT hZ (hw _ (List.mem_of_getElem? (i := 0) rfl))) (mvT hZ (hw _ (List.mem_of_getElem? (i := 1) rfl))) (mvT hZ (hw _ (List.mem_of_getElem? (i := 2) rfl))) (mvT hZ (hw _ (List.mem_of_getElem? (i := 3) rfl))) (by decide) (backOf (W := 0) (rm1s l Z a0 hw [] q1 (own_cn p2) (1 : Int32) h0 n0 Z0 (by decide)) hZ (hw _ (List.mem_of_getElem? (i := 3) rfl)) (hw _ (List.mem_of_getElem? (i := 2) rfl)) (by decide) (by decide)) (g := (mkF m 26 #[.val (.long q1), .second, .val (.int p2), .val (.int p3), .val (.int (own_cn p2)), .val (.int (1 : Int32)), .unset, .unset, .unset, .unset, .unset, .unset, .unset, .unset] [(.int (1 : Int32)), (.int (own_cn p2)), (.long q1)])) rfl (by rw [hml]; rfl) (argsL := [(.long q1), (.int (own_cn p2)), (.int (1 : Int32))]) (rest := []) (lenOf pd_0_0 rfl) rfl (by show 2 * 0 + _ ≤ _; exact Nat.le_of_eq rfl) (hb hby at_26) (fun _ _ => ⟨rfl, e0, (by decide : 0 + 0 ≤ _), (by decide : 0 + 0 ≤ _)⟩)
  dsimp only [Pt.U, Pt.locs, Pt.cells, Pt.slots] at X4 l4 y4 z4 st4 hQ4
  subst l4 y4 z4
  obtain ⟨rfl, N4q, e4⟩ := hQ4
  have N4 := Fr.app N0 N4q
  obtain ⟨fs, hr, hrun, hended, hW, hsame⟩ := X4.leave (v := some (.int (1 : Int32))) (fun h => by rw [Bd.returns] at h; cases h) (hlocks := by first | exact BodyLoose.notSynchronized Bd | exact Body.notSynchronized Bd)
  refine ⟨_, _, pre0 _ ?_, hrun, hended, _, _, rfl, ?_, ⟨_, rfl⟩, hW, hsame.mono (by decide) (by decide)⟩
  · show Steps p.tables e below (s₁.setTop (mkF m 0 #[.val (.long q1), .second, .val (.int p2), .val (.int p3), .unset, .unset, .unset, .unset, .unset, .unset, .unset, .unset, .unset, .unset] [])) _
    refine XS.iloadN X0.here hx rfl (hb hby at_0) rfl ?_
    show Steps p.tables e below (s₁.setTop (mkF m 1 #[.val (.long q1), .second, .val (.int p2), .val (.int p3), .unset, .unset, .unset, .unset, .unset, .unset, .unset, .unset, .unset, .unset] [(.int p2)])) _
    refine XS.bipush X0.here hx rfl (hb hby at_1) ?_
    show Steps p.tables e below (s₁.setTop (mkF m 3 #[.val (.long q1), .second, .val (.int p2), .val (.int p3), .unset, .unset, .unset, .unset, .unset, .unset, .unset, .unset, .unset, .unset] [(.int (63 : Int32)), (.int p2)])) _
    refine XS.iand X0.here hx rfl (hb hby at_3) rfl ?_
    show Steps p.tables e below (s₁.setTop (mkF m 4 #[.val (.long q1), .second, .val (.int p2), .val (.int p3), .unset, .unset, .unset, .unset, .unset, .unset, .unset, .unset, .unset, .unset] [(.int (p2 &&& (63 : Int32)))])) _
    refine XS.iconst X0.here hx rfl (hb hby at_4) ?_
    show Steps p.tables e below (s₁.setTop (mkF m 5 #[.val (.long q1), .second, .val (.int p2), .val (.int p3), .unset, .unset, .unset, .unset, .unset, .unset, .unset, .unset, .unset, .unset] [(.int (1 : Int32)), (.int (p2 &&& (63 : Int32)))])) _
    refine XS.iadd X0.here hx rfl (hb hby at_5) rfl ?_
    show Steps p.tables e below (s₁.setTop (mkF m 6 #[.val (.long q1), .second, .val (.int p2), .val (.int p3), .unset, .unset, .unset, .unset, .unset, .unset, .unset, .unset, .unset, .unset] [(.int (own_cn p2))])) _
    refine XS.istore X0.here hx rfl (hb hby at_6) rfl (l' := #[.val (.long q1), .second, .val (.int p2), .val (.int p3), .val (.int (own_cn p2)), .unset, .unset, .unset, .unset, .unset, .unset, .unset, .unset, .unset]) rfl ?_
    show Steps p.tables e below (s₁.setTop (mkF m 8 #[.val (.long q1), .second, .val (.int p2), .val (.int p3), .val (.int (own_cn p2)), .unset, .unset, .unset, .unset, .unset, .unset, .unset, .unset, .unset] [])) _
    refine XS.iloadN X0.here hx rfl (hb hby at_8) rfl ?_
    show Steps p.tables e below (s₁.setTop (mkF m 9 #[.val (.long q1), .second, .val (.int p2), .val (.int p3), .val (.int (own_cn p2)), .unset, .unset, .unset, .unset, .unset, .unset, .unset, .unset, .unset] [(.int p3)])) _
    refine XS.iconst X0.here hx rfl (hb hby at_9) ?_
    show Steps p.tables e below (s₁.setTop (mkF m 10 #[.val (.long q1), .second, .val (.int p2), .val (.int p3), .val (.int (own_cn p2)), .unset, .unset, .unset, .unset, .unset, .unset, .unset, .unset, .unset] [(.int (1 : Int32)), (.int p3)])) _
    refine XS.iand X0.here hx rfl (hb hby at_10) rfl ?_
    show Steps p.tables e below (s₁.setTop (mkF m 11 #[.val (.long q1), .second, .val (.int p2), .val (.int p3), .val (.int (own_cn p2)), .unset, .unset, .unset, .unset, .unset, .unset, .unset, .unset, .unset] [(.int (p3 &&& (1 : Int32)))])) _
    refine XS.ifNo X0.here hx rfl (hb hby at_11) rfl ((if0 _ _).trans (feq hc11).1) ?_
    show Steps p.tables e below (s₁.setTop (mkF m 14 #[.val (.long q1), .second, .val (.int p2), .val (.int p3), .val (.int (own_cn p2)), .unset, .unset, .unset, .unset, .unset, .unset, .unset, .unset, .unset] [])) _
    refine XS.iconst X0.here hx rfl (hb hby at_14) ?_
    show Steps p.tables e below (s₁.setTop (mkF m 15 #[.val (.long q1), .second, .val (.int p2), .val (.int p3), .val (.int (own_cn p2)), .unset, .unset, .unset, .unset, .unset, .unset, .unset, .unset, .unset] [(.int (1 : Int32))])) _
    refine XS.goto X0.here hx rfl (pc0 := 15) (pc' := 19) rfl (hb hby at_15) (by decide) (by decide) ?_
    show Steps p.tables e below (s₁.setTop (mkF m 19 #[.val (.long q1), .second, .val (.int p2), .val (.int p3), .val (.int (own_cn p2)), .unset, .unset, .unset, .unset, .unset, .unset, .unset, .unset, .unset] [(.int (1 : Int32))])) _
    refine XS.istore X0.here hx rfl (hb hby at_19) rfl (l' := #[.val (.long q1), .second, .val (.int p2), .val (.int p3), .val (.int (own_cn p2)), .val (.int (1 : Int32)), .unset, .unset, .unset, .unset, .unset, .unset, .unset, .unset]) rfl ?_
    show Steps p.tables e below (s₁.setTop (mkF m 21 #[.val (.long q1), .second, .val (.int p2), .val (.int p3), .val (.int (own_cn p2)), .val (.int (1 : Int32)), .unset, .unset, .unset, .unset, .unset, .unset, .unset, .unset] [])) _
    refine XS.lloadN X0.here hx rfl (hb hby at_21) rfl ?_
    show Steps p.tables e below (s₁.setTop (mkF m 22 #[.val (.long q1), .second, .val (.int p2), .val (.int p3), .val (.int (own_cn p2)), .val (.int (1 : Int32)), .unset, .unset, .unset, .unset, .unset, .unset, .unset, .unset] [(.long q1)])) _
    refine XS.iload X0.here hx rfl (hb hby at_22) rfl ?_
    show Steps p.tables e below (s₁.setTop (mkF m 24 #[.val (.long q1), .second, .val (.int p2), .val (.int p3), .val (.int (own_cn p2)), .val (.int (1 : Int32)), .unset, .unset, .unset, .unset, .unset, .unset, .unset, .unset] [(.int (own_cn p2)), (.long q1)])) _
    refine XS.iload X0.here hx rfl (hb hby at_24) rfl ?_
    show Steps p.tables e below (s₁.setTop (mkF m 26 #[.val (.long q1), .second, .val (.int p2), .val (.int p3), .val (.int (own_cn p2)), .val (.int (1 : Int32)), .unset, .unset, .unset, .unset, .unset, .unset, .unset, .unset] [(.int (1 : Int32)), (.int (own_cn p2)), (.long q1)])) _
    refine st4 _ ?_
    show Steps p.tables e below (T4.setTop (mkF m 29 #[.val (.long q1), .second, .val (.int p2), .val (.int p3), .val (.int (own_cn p2)), .val (.int (1 : Int32)), .unset, .unset, .unset, .unset, .unset, .unset, .unset, .unset] [(.long (own_rs q1 p2))])) _
    refine XS.lstore X4.here hx rfl (hb hby at_29) rfl (l' := #[.val (.long q1), .second, .val (.int p2), .val (.int p3), .val (.int (own_cn p2)), .val (.int (1 : Int32)), .val (.long (own_rs q1 p2)), .second, .unset, .unset, .unset, .unset, .unset, .unset]) rfl ?_
    show Steps p.tables e below (T4.setTop (mkF m 31 #[.val (.long q1), .second, .val (.int p2), .val (.int p3), .val (.int (own_cn p2)), .val (.int (1 : Int32)), .val (.long (own_rs q1 p2)), .second, .unset, .unset, .unset, .unset, .unset, .unset] [])) _
    refine XS.iload X4.here hx rfl (hb hby at_31) rfl ?_
    show Steps p.tables e below (T4.setTop (mkF m 33 #[.val (.long q1), .second, .val (.int p2), .val (.int p3), .val (.int (own_cn p2)), .val (.int (1 : Int32)), .val (.long (own_rs q1 p2)), .second, .unset, .unset, .unset, .unset, .unset, .unset] [(.int (own_cn p2))])) _
    refine XS.bipush X4.here hx rfl (hb hby at_33) ?_
    show Steps p.tables e below (T4.setTop (mkF m 35 #[.val (.long q1), .second, .val (.int p2), .val (.int p3), .val (.int (own_cn p2)), .val (.int (1 : Int32)), .val (.long (own_rs q1 p2)), .second, .unset, .unset, .unset, .unset, .unset, .unset] [(.int (64 : Int32)), (.int (own_cn p2))])) _
    refine XS.icmpYes X4.here hx rfl (pc0 := 35) (pc' := 44) rfl (hb hby at_35) rfl (feq hc35).2 (by decide) (by decide) ?_
    show Steps p.tables e below (T4.setTop (mkF m 44 #[.val (.long q1), .second, .val (.int p2), .val (.int p3), .val (.int (own_cn p2)), .val (.int (1 : Int32)), .val (.long (own_rs q1 p2)), .second, .unset, .unset, .unset, .unset, .unset, .unset] [])) _
    refine XS.lconst X4.here hx rfl (hb hby at_44) ?_
    show Steps p.tables e below (T4.setTop (mkF m 45 #[.val (.long q1), .second, .val (.int p2), .val (.int p3), .val (.int (own_cn p2)), .val (.int (1 : Int32)), .val (.long (own_rs q1 p2)), .second, .unset, .unset, .unset, .unset, .unset, .unset] [(.long (1 : Int64))])) _
    refine XS.iload X4.here hx rfl (hb hby at_45) rfl ?_
    show Steps p.tables e below (T4.setTop (mkF m 47 #[.val (.long q1), .second, .val (.int p2), .val (.int p3), .val (.int (own_cn p2)), .val (.int (1 : Int32)), .val (.long (own_rs q1 p2)), .second, .unset, .unset, .unset, .unset, .unset, .unset] [(.int (own_cn p2)), (.long (1 : Int64))])) _
    refine XS.lshl X4.here hx rfl (hb hby at_47) rfl ?_
    show Steps p.tables e below (T4.setTop (mkF m 48 #[.val (.long q1), .second, .val (.int p2), .val (.int p3), .val (.int (own_cn p2)), .val (.int (1 : Int32)), .val (.long (own_rs q1 p2)), .second, .unset, .unset, .unset, .unset, .unset, .unset] [(.long ((1 : Int64) <<< ((own_cn p2) &&& 0x3f).toInt64))])) _
    refine XS.lconst X4.here hx rfl (hb hby at_48) ?_
    show Steps p.tables e below (T4.setTop (mkF m 49 #[.val (.long q1), .second, .val (.int p2), .val (.int p3), .val (.int (own_cn p2)), .val (.int (1 : Int32)), .val (.long (own_rs q1 p2)), .second, .unset, .unset, .unset, .unset, .unset, .unset] [(.long (1 : Int64)), (.long ((1 : Int64) <<< ((own_cn p2) &&& 0x3f).toInt64))])) _
    refine XS.lsub X4.here hx rfl (hb hby at_49) rfl ?_
    show Steps p.tables e below (T4.setTop (mkF m 50 #[.val (.long q1), .second, .val (.int p2), .val (.int p3), .val (.int (own_cn p2)), .val (.int (1 : Int32)), .val (.long (own_rs q1 p2)), .second, .unset, .unset, .unset, .unset, .unset, .unset] [(.long (own_mk p2))])) _
    refine XS.lstore X4.here hx rfl (hb hby at_50) rfl (l' := #[.val (.long q1), .second, .val (.int p2), .val (.int p3), .val (.int (own_cn p2)), .val (.int (1 : Int32)), .val (.long (own_rs q1 p2)), .second, .val (.long (own_mk p2)), .second, .unset, .unset, .unset, .unset]) rfl ?_
    show Steps p.tables e below (T4.setTop (mkF m 52 #[.val (.long q1), .second, .val (.int p2), .val (.int p3), .val (.int (own_cn p2)), .val (.int (1 : Int32)), .val (.long (own_rs q1 p2)), .second, .val (.long (own_mk p2)), .second, .unset, .unset, .unset, .unset] [])) _
    refine XS.lload X4.here hx rfl (hb hby at_52) rfl ?_
    show Steps p.tables e below (T4.setTop (mkF m 54 #[.val (.long q1), .second, .val (.int p2), .val (.int p3), .val (.int (own_cn p2)), .val (.int (1 : Int32)), .val (.long (own_rs q1 p2)), .second, .val (.long (own_mk p2)), .second, .unset, .unset, .unset, .unset] [(.long (own_rs q1 p2))])) _
    refine XS.lloadN X4.here hx rfl (hb hby at_54) rfl ?_
    show Steps p.tables e below (T4.setTop (mkF m 55 #[.val (.long q1), .second, .val (.int p2), .val (.int p3), .val (.int (own_cn p2)), .val (.int (1 : Int32)), .val (.long (own_rs q1 p2)), .second, .val (.long (own_mk p2)), .second, .unset, .unset, .unset, .unset] [(.long q1), (.long (own_rs q1 p2))])) _
    refine XS.lxor X4.here hx rfl (hb hby at_55) rfl ?_
    show Steps p.tables e below (T4.setTop (mkF m 56 #[.val (.long q1), .second, .val (.int p2), .val (.int p3), .val (.int (own_cn p2)), .val (.int (1 : Int32)), .val (.long (own_rs q1 p2)), .second, .val (.long (own_mk p2)), .second, .unset, .unset, .unset, .unset] [(.long ((own_rs q1 p2) ^^^ q1))])) _
    refine XS.lload X4.here hx rfl (hb hby at_56) rfl ?_
    show Steps p.tables e below (T4.setTop (mkF m 58 #[.val (.long q1), .second, .val (.int p2), .val (.int p3), .val (.int (own_cn p2)), .val (.int (1 : Int32)), .val (.long (own_rs q1 p2)), .second, .val (.long (own_mk p2)), .second, .unset, .unset, .unset, .unset] [(.long (own_mk p2)), (.long ((own_rs q1 p2) ^^^ q1))])) _
    refine XS.land X4.here hx rfl (hb hby at_58) rfl ?_
    show Steps p.tables e below (T4.setTop (mkF m 59 #[.val (.long q1), .second, .val (.int p2), .val (.int p3), .val (.int (own_cn p2)), .val (.int (1 : Int32)), .val (.long (own_rs q1 p2)), .second, .val (.long (own_mk p2)), .second, .unset, .unset, .unset, .unset] [(.long (((own_rs q1 p2) ^^^ q1) &&& (own_mk p2)))])) _
    refine XS.lconst X4.here hx rfl (hb hby at_59) ?_
    show Steps p.tables e below (T4.setTop (mkF m 60 #[.val (.long q1), .second, .val (.int p2), .val (.int p3), .val (.int (own_cn p2)), .val (.int (1 : Int32)), .val (.long (own_rs q1 p2)), .second, .val (.long (own_mk p2)), .second, .unset, .unset, .unset, .unset] [(.long (0 : Int64)), (.long (((own_rs q1 p2) ^^^ q1) &&& (own_mk p2)))])) _
    refine XS.lcmp X4.here hx rfl (hb hby at_60) rfl ?_
    show Steps p.tables e below (T4.setTop (mkF m 61 #[.val (.long q1), .second, .val (.int p2), .val (.int p3), .val (.int (own_cn p2)), .val (.int (1 : Int32)), .val (.long (own_rs q1 p2)), .second, .val (.long (own_mk p2)), .second, .unset, .unset, .unset, .unset] [(.int (lcmpW (((own_rs q1 p2) ^^^ q1) &&& (own_mk p2)) (0 : Int64)))])) _
    refine XS.ifNo X4.here hx rfl (hb hby at_61) rfl ((if0 _ _).trans (teq ((lw_eq _ _).mpr hlow : (lcmpW (((own_rs q1 p2) ^^^ q1) &&& (own_mk p2)) (0 : Int64)) = (0 : Int32))).2) ?_
    show Steps p.tables e below (T4.setTop (mkF m 64 #[.val (.long q1), .second, .val (.int p2), .val (.int p3), .val (.int (own_cn p2)), .val (.int (1 : Int32)), .val (.long (own_rs q1 p2)), .second, .val (.long (own_mk p2)), .second, .unset, .unset, .unset, .unset] [])) _
    refine XS.iconst X4.here hx rfl (hb hby at_64) ?_
    show Steps p.tables e below (T4.setTop (mkF m 65 #[.val (.long q1), .second, .val (.int p2), .val (.int p3), .val (.int (own_cn p2)), .val (.int (1 : Int32)), .val (.long (own_rs q1 p2)), .second, .val (.long (own_mk p2)), .second, .unset, .unset, .unset, .unset] [(.int (1 : Int32))])) _
    refine XS.goto X4.here hx rfl (pc0 := 65) (pc' := 69) rfl (hb hby at_65) (by decide) (by decide) ?_
    show Steps p.tables e below (T4.setTop (mkF m 69 #[.val (.long q1), .second, .val (.int p2), .val (.int p3), .val (.int (own_cn p2)), .val (.int (1 : Int32)), .val (.long (own_rs q1 p2)), .second, .val (.long (own_mk p2)), .second, .unset, .unset, .unset, .unset] [(.int (1 : Int32))])) _
    refine XS.istore X4.here hx rfl (hb hby at_69) rfl (l' := #[.val (.long q1), .second, .val (.int p2), .val (.int p3), .val (.int (own_cn p2)), .val (.int (1 : Int32)), .val (.long (own_rs q1 p2)), .second, .val (.long (own_mk p2)), .second, .val (.int (1 : Int32)), .unset, .unset, .unset]) rfl ?_
    show Steps p.tables e below (T4.setTop (mkF m 71 #[.val (.long q1), .second, .val (.int p2), .val (.int p3), .val (.int (own_cn p2)), .val (.int (1 : Int32)), .val (.long (own_rs q1 p2)), .second, .val (.long (own_mk p2)), .second, .val (.int (1 : Int32)), .unset, .unset, .unset] [])) _
    refine XS.iload X4.here hx rfl (hb hby at_71) rfl ?_
    show Steps p.tables e below (T4.setTop (mkF m 73 #[.val (.long q1), .second, .val (.int p2), .val (.int p3), .val (.int (own_cn p2)), .val (.int (1 : Int32)), .val (.long (own_rs q1 p2)), .second, .val (.long (own_mk p2)), .second, .val (.int (1 : Int32)), .unset, .unset, .unset] [(.int (1 : Int32))])) _
    refine XS.ifNo X4.here hx rfl (hb hby at_73) rfl ((if0 _ _).trans (feq hc73).1) ?_
    show Steps p.tables e below (T4.setTop (mkF m 76 #[.val (.long q1), .second, .val (.int p2), .val (.int p3), .val (.int (own_cn p2)), .val (.int (1 : Int32)), .val (.long (own_rs q1 p2)), .second, .val (.long (own_mk p2)), .second, .val (.int (1 : Int32)), .unset, .unset, .unset] [])) _
    refine XS.lload X4.here hx rfl (hb hby at_76) rfl ?_
    show Steps p.tables e below (T4.setTop (mkF m 78 #[.val (.long q1), .second, .val (.int p2), .val (.int p3), .val (.int (own_cn p2)), .val (.int (1 : Int32)), .val (.long (own_rs q1 p2)), .second, .val (.long (own_mk p2)), .second, .val (.int (1 : Int32)), .unset, .unset, .unset] [(.long (own_rs q1 p2))])) _
    refine XS.iload X4.here hx rfl (hb hby at_78) rfl ?_
    show Steps p.tables e below (T4.setTop (mkF m 80 #[.val (.long q1), .second, .val (.int p2), .val (.int p3), .val (.int (own_cn p2)), .val (.int (1 : Int32)), .val (.long (own_rs q1 p2)), .second, .val (.long (own_mk p2)), .second, .val (.int (1 : Int32)), .unset, .unset, .unset] [(.int (own_cn p2)), (.long (own_rs q1 p2))])) _
    refine XS.iconst X4.here hx rfl (hb hby at_80) ?_
    show Steps p.tables e below (T4.setTop (mkF m 81 #[.val (.long q1), .second, .val (.int p2), .val (.int p3), .val (.int (own_cn p2)), .val (.int (1 : Int32)), .val (.long (own_rs q1 p2)), .second, .val (.long (own_mk p2)), .second, .val (.int (1 : Int32)), .unset, .unset, .unset] [(.int (1 : Int32)), (.int (own_cn p2)), (.long (own_rs q1 p2))])) _
    refine XS.isub X4.here hx rfl (hb hby at_81) rfl ?_
    show Steps p.tables e below (T4.setTop (mkF m 82 #[.val (.long q1), .second, .val (.int p2), .val (.int p3), .val (.int (own_cn p2)), .val (.int (1 : Int32)), .val (.long (own_rs q1 p2)), .second, .val (.long (own_mk p2)), .second, .val (.int (1 : Int32)), .unset, .unset, .unset] [(.int ((own_cn p2) - (1 : Int32))), (.long (own_rs q1 p2))])) _
    refine XS.lshr X4.here hx rfl (hb hby at_82) rfl ?_
    show Steps p.tables e below (T4.setTop (mkF m 83 #[.val (.long q1), .second, .val (.int p2), .val (.int p3), .val (.int (own_cn p2)), .val (.int (1 : Int32)), .val (.long (own_rs q1 p2)), .second, .val (.long (own_mk p2)), .second, .val (.int (1 : Int32)), .unset, .unset, .unset] [(.long (own_ts q1 p2))])) _
    refine XS.goto X4.here hx rfl (pc0 := 83) (pc' := 93) rfl (hb hby at_83) (by decide) (by decide) ?_
    show Steps p.tables e below (T4.setTop (mkF m 93 #[.val (.long q1), .second, .val (.int p2), .val (.int p3), .val (.int (own_cn p2)), .val (.int (1 : Int32)), .val (.long (own_rs q1 p2)), .second, .val (.long (own_mk p2)), .second, .val (.int (1 : Int32)), .unset, .unset, .unset] [(.long (own_ts q1 p2))])) _
    refine XS.lstore X4.here hx rfl (hb hby at_93) rfl (l' := #[.val (.long q1), .second, .val (.int p2), .val (.int p3), .val (.int (own_cn p2)), .val (.int (1 : Int32)), .val (.long (own_rs q1 p2)), .second, .val (.long (own_mk p2)), .second, .val (.int (1 : Int32)), .val (.long (own_ts q1 p2)), .second, .unset]) rfl ?_
    show Steps p.tables e below (T4.setTop (mkF m 95 #[.val (.long q1), .second, .val (.int p2), .val (.int p3), .val (.int (own_cn p2)), .val (.int (1 : Int32)), .val (.long (own_rs q1 p2)), .second, .val (.long (own_mk p2)), .second, .val (.int (1 : Int32)), .val (.long (own_ts q1 p2)), .second, .unset] [])) _
    refine XS.iload X4.here hx rfl (hb hby at_95) rfl ?_
    show Steps p.tables e below (T4.setTop (mkF m 97 #[.val (.long q1), .second, .val (.int p2), .val (.int p3), .val (.int (own_cn p2)), .val (.int (1 : Int32)), .val (.long (own_rs q1 p2)), .second, .val (.long (own_mk p2)), .second, .val (.int (1 : Int32)), .val (.long (own_ts q1 p2)), .second, .unset] [(.int (1 : Int32))])) _
    refine XS.ifNo X4.here hx rfl (hb hby at_97) rfl ((if0 _ _).trans (feq hc97).1) ?_
    show Steps p.tables e below (T4.setTop (mkF m 100 #[.val (.long q1), .second, .val (.int p2), .val (.int p3), .val (.int (own_cn p2)), .val (.int (1 : Int32)), .val (.long (own_rs q1 p2)), .second, .val (.long (own_mk p2)), .second, .val (.int (1 : Int32)), .val (.long (own_ts q1 p2)), .second, .unset] [])) _
    refine XS.lload X4.here hx rfl (hb hby at_100) rfl ?_
    show Steps p.tables e below (T4.setTop (mkF m 102 #[.val (.long q1), .second, .val (.int p2), .val (.int p3), .val (.int (own_cn p2)), .val (.int (1 : Int32)), .val (.long (own_rs q1 p2)), .second, .val (.long (own_mk p2)), .second, .val (.int (1 : Int32)), .val (.long (own_ts q1 p2)), .second, .unset] [(.long (own_ts q1 p2))])) _
    refine XS.lconst X4.here hx rfl (hb hby at_102) ?_
    show Steps p.tables e below (T4.setTop (mkF m 103 #[.val (.long q1), .second, .val (.int p2), .val (.int p3), .val (.int (own_cn p2)), .val (.int (1 : Int32)), .val (.long (own_rs q1 p2)), .second, .val (.long (own_mk p2)), .second, .val (.int (1 : Int32)), .val (.long (own_ts q1 p2)), .second, .unset] [(.long (0 : Int64)), (.long (own_ts q1 p2))])) _
    refine XS.lcmp X4.here hx rfl (hb hby at_103) rfl ?_
    show Steps p.tables e below (T4.setTop (mkF m 104 #[.val (.long q1), .second, .val (.int p2), .val (.int p3), .val (.int (own_cn p2)), .val (.int (1 : Int32)), .val (.long (own_rs q1 p2)), .second, .val (.long (own_mk p2)), .second, .val (.int (1 : Int32)), .val (.long (own_ts q1 p2)), .second, .unset] [(.int (lcmpW (own_ts q1 p2) (0 : Int64)))])) _
    refine XS.ifNo X4.here hx rfl (hb hby at_104) rfl ((if0 _ _).trans (feq ((fun h => hn0 ((lw_eq _ _).mp h)) : ¬ ((lcmpW (own_ts q1 p2) (0 : Int64)) = (0 : Int32)))).1) ?_
    show Steps p.tables e below (T4.setTop (mkF m 107 #[.val (.long q1), .second, .val (.int p2), .val (.int p3), .val (.int (own_cn p2)), .val (.int (1 : Int32)), .val (.long (own_rs q1 p2)), .second, .val (.long (own_mk p2)), .second, .val (.int (1 : Int32)), .val (.long (own_ts q1 p2)), .second, .unset] [])) _
    refine XS.lload X4.here hx rfl (hb hby at_107) rfl ?_
    show Steps p.tables e below (T4.setTop (mkF m 109 #[.val (.long q1), .second, .val (.int p2), .val (.int p3), .val (.int (own_cn p2)), .val (.int (1 : Int32)), .val (.long (own_rs q1 p2)), .second, .val (.long (own_mk p2)), .second, .val (.int (1 : Int32)), .val (.long (own_ts q1 p2)), .second, .unset] [(.long (own_ts q1 p2))])) _
    refine X4.ldc2Long hx hown (mvT hZ (hw _ (List.mem_of_getElem? (i := 4) rfl))) (g := (mkF m 109 #[.val (.long q1), .second, .val (.int p2), .val (.int p3), .val (.int (own_cn p2)), .val (.int (1 : Int32)), .val (.long (own_rs q1 p2)), .second, .val (.long (own_mk p2)), .second, .val (.int (1 : Int32)), .val (.long (own_ts q1 p2)), .second, .unset] [(.long (own_ts q1 p2))])) rfl (hb hby at_109) _ ?_
    show Steps p.tables e below (T4.setTop (mkF m 112 #[.val (.long q1), .second, .val (.int p2), .val (.int p3), .val (.int (own_cn p2)), .val (.int (1 : Int32)), .val (.long (own_rs q1 p2)), .second, .val (.long (own_mk p2)), .second, .val (.int (1 : Int32)), .val (.long (own_ts q1 p2)), .second, .unset] [(.long (-1 : Int64)), (.long (own_ts q1 p2))])) _
    refine XS.lcmp X4.here hx rfl (hb hby at_112) rfl ?_
    show Steps p.tables e below (T4.setTop (mkF m 113 #[.val (.long q1), .second, .val (.int p2), .val (.int p3), .val (.int (own_cn p2)), .val (.int (1 : Int32)), .val (.long (own_rs q1 p2)), .second, .val (.long (own_mk p2)), .second, .val (.int (1 : Int32)), .val (.long (own_ts q1 p2)), .second, .unset] [(.int (lcmpW (own_ts q1 p2) (-1 : Int64)))])) _
    refine XS.ifNo X4.here hx rfl (hb hby at_113) rfl ((if0 _ _).trans (teq ((lw_eq _ _).mpr htop : (lcmpW (own_ts q1 p2) (-1 : Int64)) = (0 : Int32))).2) ?_
    show Steps p.tables e below (T4.setTop (mkF m 116 #[.val (.long q1), .second, .val (.int p2), .val (.int p3), .val (.int (own_cn p2)), .val (.int (1 : Int32)), .val (.long (own_rs q1 p2)), .second, .val (.long (own_mk p2)), .second, .val (.int (1 : Int32)), .val (.long (own_ts q1 p2)), .second, .unset] [])) _
    refine XS.iconst X4.here hx rfl (hb hby at_116) ?_
    show Steps p.tables e below (T4.setTop (mkF m 117 #[.val (.long q1), .second, .val (.int p2), .val (.int p3), .val (.int (own_cn p2)), .val (.int (1 : Int32)), .val (.long (own_rs q1 p2)), .second, .val (.long (own_mk p2)), .second, .val (.int (1 : Int32)), .val (.long (own_ts q1 p2)), .second, .unset] [(.int (1 : Int32))])) _
    refine XS.goto X4.here hx rfl (pc0 := 117) (pc' := 143) rfl (hb hby at_117) (by decide) (by decide) ?_
    show Steps p.tables e below (T4.setTop (mkF m 143 #[.val (.long q1), .second, .val (.int p2), .val (.int p3), .val (.int (own_cn p2)), .val (.int (1 : Int32)), .val (.long (own_rs q1 p2)), .second, .val (.long (own_mk p2)), .second, .val (.int (1 : Int32)), .val (.long (own_ts q1 p2)), .second, .unset] [(.int (1 : Int32))])) _
    refine XS.istore X4.here hx rfl (hb hby at_143) rfl (l' := #[.val (.long q1), .second, .val (.int p2), .val (.int p3), .val (.int (own_cn p2)), .val (.int (1 : Int32)), .val (.long (own_rs q1 p2)), .second, .val (.long (own_mk p2)), .second, .val (.int (1 : Int32)), .val (.long (own_ts q1 p2)), .second, .val (.int (1 : Int32))]) rfl ?_
    show Steps p.tables e below (T4.setTop (mkF m 145 #[.val (.long q1), .second, .val (.int p2), .val (.int p3), .val (.int (own_cn p2)), .val (.int (1 : Int32)), .val (.long (own_rs q1 p2)), .second, .val (.long (own_mk p2)), .second, .val (.int (1 : Int32)), .val (.long (own_ts q1 p2)), .second, .val (.int (1 : Int32))] [])) _
    refine XS.iload X4.here hx rfl (hb hby at_145) rfl ?_
    show Steps p.tables e below (T4.setTop (mkF m 147 #[.val (.long q1), .second, .val (.int p2), .val (.int p3), .val (.int (own_cn p2)), .val (.int (1 : Int32)), .val (.long (own_rs q1 p2)), .second, .val (.long (own_mk p2)), .second, .val (.int (1 : Int32)), .val (.long (own_ts q1 p2)), .second, .val (.int (1 : Int32))] [(.int (1 : Int32))])) _
    refine XS.ifNo X4.here hx rfl (hb hby at_147) rfl ((if0 _ _).trans (feq hc147).1) ?_
    show Steps p.tables e below (T4.setTop (mkF m 150 #[.val (.long q1), .second, .val (.int p2), .val (.int p3), .val (.int (own_cn p2)), .val (.int (1 : Int32)), .val (.long (own_rs q1 p2)), .second, .val (.long (own_mk p2)), .second, .val (.int (1 : Int32)), .val (.long (own_ts q1 p2)), .second, .val (.int (1 : Int32))] [])) _
    refine XS.iload X4.here hx rfl (hb hby at_150) rfl ?_
    show Steps p.tables e below (T4.setTop (mkF m 152 #[.val (.long q1), .second, .val (.int p2), .val (.int p3), .val (.int (own_cn p2)), .val (.int (1 : Int32)), .val (.long (own_rs q1 p2)), .second, .val (.long (own_mk p2)), .second, .val (.int (1 : Int32)), .val (.long (own_ts q1 p2)), .second, .val (.int (1 : Int32))] [(.int (1 : Int32))])) _
    refine XS.ifNo X4.here hx rfl (hb hby at_152) rfl ((if0 _ _).trans (feq hc152).1) ?_
    show Steps p.tables e below (T4.setTop (mkF m 155 #[.val (.long q1), .second, .val (.int p2), .val (.int p3), .val (.int (own_cn p2)), .val (.int (1 : Int32)), .val (.long (own_rs q1 p2)), .second, .val (.long (own_mk p2)), .second, .val (.int (1 : Int32)), .val (.long (own_ts q1 p2)), .second, .val (.int (1 : Int32))] [])) _
    refine XS.iconst X4.here hx rfl (hb hby at_155) ?_
    show Steps p.tables e below (T4.setTop (mkF m 156 #[.val (.long q1), .second, .val (.int p2), .val (.int p3), .val (.int (own_cn p2)), .val (.int (1 : Int32)), .val (.long (own_rs q1 p2)), .second, .val (.long (own_mk p2)), .second, .val (.int (1 : Int32)), .val (.long (own_ts q1 p2)), .second, .val (.int (1 : Int32))] [(.int (1 : Int32))])) _
    refine XS.goto X4.here hx rfl (pc0 := 156) (pc' := 160) rfl (hb hby at_156) (by decide) (by decide) ?_
    show Steps p.tables e below (T4.setTop (mkF m 160 #[.val (.long q1), .second, .val (.int p2), .val (.int p3), .val (.int (own_cn p2)), .val (.int (1 : Int32)), .val (.long (own_rs q1 p2)), .second, .val (.long (own_mk p2)), .second, .val (.int (1 : Int32)), .val (.long (own_ts q1 p2)), .second, .val (.int (1 : Int32))] [(.int (1 : Int32))])) _
    exact retN X4 hx (t := .boolean) Bd.returns (by simp) (hb hby at_160) hr
  · show Q0 Z q1 p2 p3 h0 n0 _ T4.heap _
    exact ⟨rfl, N4⟩
set_option maxRecDepth 65536 in
set_option maxHeartbeats 40000000 in
theorem rm0_5 (l : Launch) (Z : State) (a0 : Array Value) (hw : ∀ d ∈ tables_1, d.before a0 Z = true) (ws : List Jvm.Cond) (q1 : Int64) (p2 : Int32) (p3 : Int32) (h0 : Heap) (n0 : Nat) (Z0 : n0 ≤ h0.size) (hc11 : (p3 &&& (1 : Int32)) = (0 : Int32)) (hc35 : (own_cn p2) = (64 : Int32)) (hc147 : ¬ ((1 : Int32) = (0 : Int32))) (hc152 : ¬ ((1 : Int32) = (0 : Int32))) (hlow : ((own_ru q1 p2) ^^^ q1) &&& (-1 : Int64) = 0) (htop : (own_tu q1 p2) = 0) :
    MetFree l x (head1 (Jvm.Cond.code x code maxLocals ret :: ws) room_1) (fun a U => a = #[(.long q1), (.int p2), (.int p3)] ∧ Z.Warmed39 U.vm ∧ U.heap = h0) (fun _ _ _ _ _ => True) (fun _ U o U' => ∃ v L, o = .returned v ∧ Q0 Z q1 p2 p3 h0 n0 v U'.heap L ∧ FrameEnd U o U' L room_1.cells room_1.slots) := by
  refine MetFree.of_bodySF (plainFor_of_name pn_0) hisR ?_
  intro p e s m args below meth c s₁ Bd hml0 hP hK
  obtain ⟨rfl, hZ, hh⟩ := hP
  have hx := Bd.exec
  have hby := Bd.bytes
  have hml : c.maxLocals = 14 := hml0
  have hown : s.vm.findClass "com/example/narrowint/narrowint/codec/BitsFromLowPinLaw" = some m.cls := findClass_of_methodNamed Bd.named
  have hnm := (name_of_methodNamed Bd.named Bd.method).1
  have X0 : Stand p l e room_1 s m #[(.long q1), (.int p2), (.int p3)] below meth c s₁ [] 0 0 := Stand.of_body Bd
  have e0 : s₁.heap = h0 := by rw [← hh, Bd.state]; rfl
  have N0 := Fr.nil n0
  have pre0 : ∀ t, Steps p.tables e below (s₁.setTop (mkF m 0 #[.val (.long q1), .second, .val (.int p2), .val (.int p3), .unset, .unset, .unset, .unset, .unset, .unset, .unset, .unset, .unset, .unset] [])) t → Steps p.tables e below (s₁.setTop (entryFrame m #[(.long q1), (.int p2), (.int p3)] maxLocals)) t := fun t k => castTop (ef_0 m q1 p2 p3) k
  obtain ⟨_, _, ⟨T4, L4, k4, n4⟩, -, X4, ⟨Lc4, hQ4, l4, y4, z4⟩, st4⟩ := Jvm.LawKit.callS X0 hx (y := (⟨"com/example/narrowint/narrowint/codec/Bits", "fromLow", "(JIZ)J"⟩ : MethodName)) hown (mvT hZ (hw _ (List.mem_of_getElem? (i := 0) rfl))) (mvT hZ (hw _ (List.mem_of_getElem? (i := 1) rfl))) (mvT hZ (hw _ (List.mem_of_getElem? (i := 2) rfl))) (mvT hZ (hw _ (List.mem_of_getElem? (i := 3) rfl))) (by decide) (backOf (W := 0) (rm1u l Z a0 hw [] q1 (own_cn p2) (0 : Int32) h0 n0 Z0 (by decide)) hZ (hw _ (List.mem_of_getElem? (i := 3) rfl)) (hw _ (List.mem_of_getElem? (i := 2) rfl)) (by decide) (by decide)) (g := (mkF m 26 #[.val (.long q1), .second, .val (.int p2), .val (.int p3), .val (.int (own_cn p2)), .val (.int (0 : Int32)), .unset, .unset, .unset, .unset, .unset, .unset, .unset, .unset] [(.int (0 : Int32)), (.int (own_cn p2)), (.long q1)])) rfl (by rw [hml]; rfl) (argsL := [(.long q1), (.int (own_cn p2)), (.int (0 : Int32))]) (rest := []) (lenOf pd_0_0 rfl) rfl (by show 2 * 0 + _ ≤ _; exact Nat.le_of_eq rfl) (hb hby at_26) (fun _ _ => ⟨rfl, e0, (by decide : 0 + 0 ≤ _), (by decide : 0 + 0 ≤ _)⟩)
  dsimp only [Pt.U, Pt.locs, Pt.cells, Pt.slots] at X4 l4 y4 z4 st4 hQ4
  subst l4 y4 z4
  obtain ⟨rfl, N4q, e4⟩ := hQ4
  have N4 := Fr.app N0 N4q
  obtain ⟨fs, hr, hrun, hended, hW, hsame⟩ := X4.leave (v := some (.int (1 : Int32))) (fun h => by rw [Bd.returns] at h; cases h) (hlocks := by first | exact BodyLoose.notSynchronized Bd | exact Body.notSynchronized Bd)
  refine ⟨_, _, pre0 _ ?_, hrun, hended, _, _, rfl, ?_, ⟨_, rfl⟩, hW, hsame.mono (by decide) (by decide)⟩
  · show Steps p.tables e below (s₁.setTop (mkF m 0 #[.val (.long q1), .second, .val (.int p2), .val (.int p3), .unset, .unset, .unset, .unset, .unset, .unset, .unset, .unset, .unset, .unset] [])) _
    refine XS.iloadN X0.here hx rfl (hb hby at_0) rfl ?_
    show Steps p.tables e below (s₁.setTop (mkF m 1 #[.val (.long q1), .second, .val (.int p2), .val (.int p3), .unset, .unset, .unset, .unset, .unset, .unset, .unset, .unset, .unset, .unset] [(.int p2)])) _
    refine XS.bipush X0.here hx rfl (hb hby at_1) ?_
    show Steps p.tables e below (s₁.setTop (mkF m 3 #[.val (.long q1), .second, .val (.int p2), .val (.int p3), .unset, .unset, .unset, .unset, .unset, .unset, .unset, .unset, .unset, .unset] [(.int (63 : Int32)), (.int p2)])) _
    refine XS.iand X0.here hx rfl (hb hby at_3) rfl ?_
    show Steps p.tables e below (s₁.setTop (mkF m 4 #[.val (.long q1), .second, .val (.int p2), .val (.int p3), .unset, .unset, .unset, .unset, .unset, .unset, .unset, .unset, .unset, .unset] [(.int (p2 &&& (63 : Int32)))])) _
    refine XS.iconst X0.here hx rfl (hb hby at_4) ?_
    show Steps p.tables e below (s₁.setTop (mkF m 5 #[.val (.long q1), .second, .val (.int p2), .val (.int p3), .unset, .unset, .unset, .unset, .unset, .unset, .unset, .unset, .unset, .unset] [(.int (1 : Int32)), (.int (p2 &&& (63 : Int32)))])) _
    refine XS.iadd X0.here hx rfl (hb hby at_5) rfl ?_
    show Steps p.tables e below (s₁.setTop (mkF m 6 #[.val (.long q1), .second, .val (.int p2), .val (.int p3), .unset, .unset, .unset, .unset, .unset, .unset, .unset, .unset, .unset, .unset] [(.int (own_cn p2))])) _
    refine XS.istore X0.here hx rfl (hb hby at_6) rfl (l' := #[.val (.long q1), .second, .val (.int p2), .val (.int p3), .val (.int (own_cn p2)), .unset, .unset, .unset, .unset, .unset, .unset, .unset, .unset, .unset]) rfl ?_
    show Steps p.tables e below (s₁.setTop (mkF m 8 #[.val (.long q1), .second, .val (.int p2), .val (.int p3), .val (.int (own_cn p2)), .unset, .unset, .unset, .unset, .unset, .unset, .unset, .unset, .unset] [])) _
    refine XS.iloadN X0.here hx rfl (hb hby at_8) rfl ?_
    show Steps p.tables e below (s₁.setTop (mkF m 9 #[.val (.long q1), .second, .val (.int p2), .val (.int p3), .val (.int (own_cn p2)), .unset, .unset, .unset, .unset, .unset, .unset, .unset, .unset, .unset] [(.int p3)])) _
    refine XS.iconst X0.here hx rfl (hb hby at_9) ?_
    show Steps p.tables e below (s₁.setTop (mkF m 10 #[.val (.long q1), .second, .val (.int p2), .val (.int p3), .val (.int (own_cn p2)), .unset, .unset, .unset, .unset, .unset, .unset, .unset, .unset, .unset] [(.int (1 : Int32)), (.int p3)])) _
    refine XS.iand X0.here hx rfl (hb hby at_10) rfl ?_
    show Steps p.tables e below (s₁.setTop (mkF m 11 #[.val (.long q1), .second, .val (.int p2), .val (.int p3), .val (.int (own_cn p2)), .unset, .unset, .unset, .unset, .unset, .unset, .unset, .unset, .unset] [(.int (p3 &&& (1 : Int32)))])) _
    refine XS.ifYes X0.here hx rfl (pc0 := 11) (pc' := 18) rfl (hb hby at_11) rfl ((if0 _ _).trans (teq hc11).1) (by decide) (by decide) ?_
    show Steps p.tables e below (s₁.setTop (mkF m 18 #[.val (.long q1), .second, .val (.int p2), .val (.int p3), .val (.int (own_cn p2)), .unset, .unset, .unset, .unset, .unset, .unset, .unset, .unset, .unset] [])) _
    refine XS.iconst X0.here hx rfl (hb hby at_18) ?_
    show Steps p.tables e below (s₁.setTop (mkF m 19 #[.val (.long q1), .second, .val (.int p2), .val (.int p3), .val (.int (own_cn p2)), .unset, .unset, .unset, .unset, .unset, .unset, .unset, .unset, .unset] [(.int (0 : Int32))])) _
    refine XS.istore X0.here hx rfl (hb hby at_19) rfl (l' := #[.val (.long q1), .second, .val (.int p2), .val (.int p3), .val (.int (own_cn p2)), .val (.int (0 : Int32)), .unset, .unset, .unset, .unset, .unset, .unset, .unset, .unset]) rfl ?_
    show Steps p.tables e below (s₁.setTop (mkF m 21 #[.val (.long q1), .second, .val (.int p2), .val (.int p3), .val (.int (own_cn p2)), .val (.int (0 : Int32)), .unset, .unset, .unset, .unset, .unset, .unset, .unset, .unset] [])) _
    refine XS.lloadN X0.here hx rfl (hb hby at_21) rfl ?_
    show Steps p.tables e below (s₁.setTop (mkF m 22 #[.val (.long q1), .second, .val (.int p2), .val (.int p3), .val (.int (own_cn p2)), .val (.int (0 : Int32)), .unset, .unset, .unset, .unset, .unset, .unset, .unset, .unset] [(.long q1)])) _
    refine XS.iload X0.here hx rfl (hb hby at_22) rfl ?_
    show Steps p.tables e below (s₁.setTop (mkF m 24 #[.val (.long q1), .second, .val (.int p2), .val (.int p3), .val (.int (own_cn p2)), .val (.int (0 : Int32)), .unset, .unset, .unset, .unset, .unset, .unset, .unset, .unset] [(.int (own_cn p2)), (.long q1)])) _
    refine XS.iload X0.here hx rfl (hb hby at_24) rfl ?_
    show Steps p.tables e below (s₁.setTop (mkF m 26 #[.val (.long q1), .second, .val (.int p2), .val (.int p3), .val (.int (own_cn p2)), .val (.int (0 : Int32)), .unset, .unset, .unset, .unset, .unset, .unset, .unset, .unset] [(.int (0 : Int32)), (.int (own_cn p2)), (.long q1)])) _
    refine st4 _ ?_
    show Steps p.tables e below (T4.setTop (mkF m 29 #[.val (.long q1), .second, .val (.int p2), .val (.int p3), .val (.int (own_cn p2)), .val (.int (0 : Int32)), .unset, .unset, .unset, .unset, .unset, .unset, .unset, .unset] [(.long (own_ru q1 p2))])) _
    refine XS.lstore X4.here hx rfl (hb hby at_29) rfl (l' := #[.val (.long q1), .second, .val (.int p2), .val (.int p3), .val (.int (own_cn p2)), .val (.int (0 : Int32)), .val (.long (own_ru q1 p2)), .second, .unset, .unset, .unset, .unset, .unset, .unset]) rfl ?_
    show Steps p.tables e below (T4.setTop (mkF m 31 #[.val (.long q1), .second, .val (.int p2), .val (.int p3), .val (.int (own_cn p2)), .val (.int (0 : Int32)), .val (.long (own_ru q1 p2)), .second, .unset, .unset, .unset, .unset, .unset, .unset] [])) _
    refine XS.iload X4.here hx rfl (hb hby at_31) rfl ?_
    show Steps p.tables e below (T4.setTop (mkF m 33 #[.val (.long q1), .second, .val (.int p2), .val (.int p3), .val (.int (own_cn p2)), .val (.int (0 : Int32)), .val (.long (own_ru q1 p2)), .second, .unset, .unset, .unset, .unset, .unset, .unset] [(.int (own_cn p2))])) _
    refine XS.bipush X4.here hx rfl (hb hby at_33) ?_
    show Steps p.tables e below (T4.setTop (mkF m 35 #[.val (.long q1), .second, .val (.int p2), .val (.int p3), .val (.int (own_cn p2)), .val (.int (0 : Int32)), .val (.long (own_ru q1 p2)), .second, .unset, .unset, .unset, .unset, .unset, .unset] [(.int (64 : Int32)), (.int (own_cn p2))])) _
    refine XS.icmpNo X4.here hx rfl (hb hby at_35) rfl (teq hc35).2 ?_
    show Steps p.tables e below (T4.setTop (mkF m 38 #[.val (.long q1), .second, .val (.int p2), .val (.int p3), .val (.int (own_cn p2)), .val (.int (0 : Int32)), .val (.long (own_ru q1 p2)), .second, .unset, .unset, .unset, .unset, .unset, .unset] [])) _
    refine X4.ldc2Long hx hown (mvT hZ (hw _ (List.mem_of_getElem? (i := 4) rfl))) (g := (mkF m 38 #[.val (.long q1), .second, .val (.int p2), .val (.int p3), .val (.int (own_cn p2)), .val (.int (0 : Int32)), .val (.long (own_ru q1 p2)), .second, .unset, .unset, .unset, .unset, .unset, .unset] [])) rfl (hb hby at_38) _ ?_
    show Steps p.tables e below (T4.setTop (mkF m 41 #[.val (.long q1), .second, .val (.int p2), .val (.int p3), .val (.int (own_cn p2)), .val (.int (0 : Int32)), .val (.long (own_ru q1 p2)), .second, .unset, .unset, .unset, .unset, .unset, .unset] [(.long (-1 : Int64))])) _
    refine XS.goto X4.here hx rfl (pc0 := 41) (pc' := 50) rfl (hb hby at_41) (by decide) (by decide) ?_
    show Steps p.tables e below (T4.setTop (mkF m 50 #[.val (.long q1), .second, .val (.int p2), .val (.int p3), .val (.int (own_cn p2)), .val (.int (0 : Int32)), .val (.long (own_ru q1 p2)), .second, .unset, .unset, .unset, .unset, .unset, .unset] [(.long (-1 : Int64))])) _
    refine XS.lstore X4.here hx rfl (hb hby at_50) rfl (l' := #[.val (.long q1), .second, .val (.int p2), .val (.int p3), .val (.int (own_cn p2)), .val (.int (0 : Int32)), .val (.long (own_ru q1 p2)), .second, .val (.long (-1 : Int64)), .second, .unset, .unset, .unset, .unset]) rfl ?_
    show Steps p.tables e below (T4.setTop (mkF m 52 #[.val (.long q1), .second, .val (.int p2), .val (.int p3), .val (.int (own_cn p2)), .val (.int (0 : Int32)), .val (.long (own_ru q1 p2)), .second, .val (.long (-1 : Int64)), .second, .unset, .unset, .unset, .unset] [])) _
    refine XS.lload X4.here hx rfl (hb hby at_52) rfl ?_
    show Steps p.tables e below (T4.setTop (mkF m 54 #[.val (.long q1), .second, .val (.int p2), .val (.int p3), .val (.int (own_cn p2)), .val (.int (0 : Int32)), .val (.long (own_ru q1 p2)), .second, .val (.long (-1 : Int64)), .second, .unset, .unset, .unset, .unset] [(.long (own_ru q1 p2))])) _
    refine XS.lloadN X4.here hx rfl (hb hby at_54) rfl ?_
    show Steps p.tables e below (T4.setTop (mkF m 55 #[.val (.long q1), .second, .val (.int p2), .val (.int p3), .val (.int (own_cn p2)), .val (.int (0 : Int32)), .val (.long (own_ru q1 p2)), .second, .val (.long (-1 : Int64)), .second, .unset, .unset, .unset, .unset] [(.long q1), (.long (own_ru q1 p2))])) _
    refine XS.lxor X4.here hx rfl (hb hby at_55) rfl ?_
    show Steps p.tables e below (T4.setTop (mkF m 56 #[.val (.long q1), .second, .val (.int p2), .val (.int p3), .val (.int (own_cn p2)), .val (.int (0 : Int32)), .val (.long (own_ru q1 p2)), .second, .val (.long (-1 : Int64)), .second, .unset, .unset, .unset, .unset] [(.long ((own_ru q1 p2) ^^^ q1))])) _
    refine XS.lload X4.here hx rfl (hb hby at_56) rfl ?_
    show Steps p.tables e below (T4.setTop (mkF m 58 #[.val (.long q1), .second, .val (.int p2), .val (.int p3), .val (.int (own_cn p2)), .val (.int (0 : Int32)), .val (.long (own_ru q1 p2)), .second, .val (.long (-1 : Int64)), .second, .unset, .unset, .unset, .unset] [(.long (-1 : Int64)), (.long ((own_ru q1 p2) ^^^ q1))])) _
    refine XS.land X4.here hx rfl (hb hby at_58) rfl ?_
    show Steps p.tables e below (T4.setTop (mkF m 59 #[.val (.long q1), .second, .val (.int p2), .val (.int p3), .val (.int (own_cn p2)), .val (.int (0 : Int32)), .val (.long (own_ru q1 p2)), .second, .val (.long (-1 : Int64)), .second, .unset, .unset, .unset, .unset] [(.long (((own_ru q1 p2) ^^^ q1) &&& (-1 : Int64)))])) _
    refine XS.lconst X4.here hx rfl (hb hby at_59) ?_
    show Steps p.tables e below (T4.setTop (mkF m 60 #[.val (.long q1), .second, .val (.int p2), .val (.int p3), .val (.int (own_cn p2)), .val (.int (0 : Int32)), .val (.long (own_ru q1 p2)), .second, .val (.long (-1 : Int64)), .second, .unset, .unset, .unset, .unset] [(.long (0 : Int64)), (.long (((own_ru q1 p2) ^^^ q1) &&& (-1 : Int64)))])) _
    refine XS.lcmp X4.here hx rfl (hb hby at_60) rfl ?_
    show Steps p.tables e below (T4.setTop (mkF m 61 #[.val (.long q1), .second, .val (.int p2), .val (.int p3), .val (.int (own_cn p2)), .val (.int (0 : Int32)), .val (.long (own_ru q1 p2)), .second, .val (.long (-1 : Int64)), .second, .unset, .unset, .unset, .unset] [(.int (lcmpW (((own_ru q1 p2) ^^^ q1) &&& (-1 : Int64)) (0 : Int64)))])) _
    refine XS.ifNo X4.here hx rfl (hb hby at_61) rfl ((if0 _ _).trans (teq ((lw_eq _ _).mpr hlow : (lcmpW (((own_ru q1 p2) ^^^ q1) &&& (-1 : Int64)) (0 : Int64)) = (0 : Int32))).2) ?_
    show Steps p.tables e below (T4.setTop (mkF m 64 #[.val (.long q1), .second, .val (.int p2), .val (.int p3), .val (.int (own_cn p2)), .val (.int (0 : Int32)), .val (.long (own_ru q1 p2)), .second, .val (.long (-1 : Int64)), .second, .unset, .unset, .unset, .unset] [])) _
    refine XS.iconst X4.here hx rfl (hb hby at_64) ?_
    show Steps p.tables e below (T4.setTop (mkF m 65 #[.val (.long q1), .second, .val (.int p2), .val (.int p3), .val (.int (own_cn p2)), .val (.int (0 : Int32)), .val (.long (own_ru q1 p2)), .second, .val (.long (-1 : Int64)), .second, .unset, .unset, .unset, .unset] [(.int (1 : Int32))])) _
    refine XS.goto X4.here hx rfl (pc0 := 65) (pc' := 69) rfl (hb hby at_65) (by decide) (by decide) ?_
    show Steps p.tables e below (T4.setTop (mkF m 69 #[.val (.long q1), .second, .val (.int p2), .val (.int p3), .val (.int (own_cn p2)), .val (.int (0 : Int32)), .val (.long (own_ru q1 p2)), .second, .val (.long (-1 : Int64)), .second, .unset, .unset, .unset, .unset] [(.int (1 : Int32))])) _
    refine XS.istore X4.here hx rfl (hb hby at_69) rfl (l' := #[.val (.long q1), .second, .val (.int p2), .val (.int p3), .val (.int (own_cn p2)), .val (.int (0 : Int32)), .val (.long (own_ru q1 p2)), .second, .val (.long (-1 : Int64)), .second, .val (.int (1 : Int32)), .unset, .unset, .unset]) rfl ?_
    show Steps p.tables e below (T4.setTop (mkF m 71 #[.val (.long q1), .second, .val (.int p2), .val (.int p3), .val (.int (own_cn p2)), .val (.int (0 : Int32)), .val (.long (own_ru q1 p2)), .second, .val (.long (-1 : Int64)), .second, .val (.int (1 : Int32)), .unset, .unset, .unset] [])) _
    refine XS.iload X4.here hx rfl (hb hby at_71) rfl ?_
    show Steps p.tables e below (T4.setTop (mkF m 73 #[.val (.long q1), .second, .val (.int p2), .val (.int p3), .val (.int (own_cn p2)), .val (.int (0 : Int32)), .val (.long (own_ru q1 p2)), .second, .val (.long (-1 : Int64)), .second, .val (.int (1 : Int32)), .unset, .unset, .unset] [(.int (0 : Int32))])) _
    refine XS.ifYes X4.here hx rfl (pc0 := 73) (pc' := 86) rfl (hb hby at_73) rfl ((if0 _ _).trans (teq (rfl : (0 : Int32) = (0 : Int32))).1) (by decide) (by decide) ?_
    show Steps p.tables e below (T4.setTop (mkF m 86 #[.val (.long q1), .second, .val (.int p2), .val (.int p3), .val (.int (own_cn p2)), .val (.int (0 : Int32)), .val (.long (own_ru q1 p2)), .second, .val (.long (-1 : Int64)), .second, .val (.int (1 : Int32)), .unset, .unset, .unset] [])) _
    refine XS.lload X4.here hx rfl (hb hby at_86) rfl ?_
    show Steps p.tables e below (T4.setTop (mkF m 88 #[.val (.long q1), .second, .val (.int p2), .val (.int p3), .val (.int (own_cn p2)), .val (.int (0 : Int32)), .val (.long (own_ru q1 p2)), .second, .val (.long (-1 : Int64)), .second, .val (.int (1 : Int32)), .unset, .unset, .unset] [(.long (own_ru q1 p2))])) _
    refine XS.iload X4.here hx rfl (hb hby at_88) rfl ?_
    show Steps p.tables e below (T4.setTop (mkF m 90 #[.val (.long q1), .second, .val (.int p2), .val (.int p3), .val (.int (own_cn p2)), .val (.int (0 : Int32)), .val (.long (own_ru q1 p2)), .second, .val (.long (-1 : Int64)), .second, .val (.int (1 : Int32)), .unset, .unset, .unset] [(.int (own_cn p2)), (.long (own_ru q1 p2))])) _
    refine XS.iconst X4.here hx rfl (hb hby at_90) ?_
    show Steps p.tables e below (T4.setTop (mkF m 91 #[.val (.long q1), .second, .val (.int p2), .val (.int p3), .val (.int (own_cn p2)), .val (.int (0 : Int32)), .val (.long (own_ru q1 p2)), .second, .val (.long (-1 : Int64)), .second, .val (.int (1 : Int32)), .unset, .unset, .unset] [(.int (1 : Int32)), (.int (own_cn p2)), (.long (own_ru q1 p2))])) _
    refine XS.isub X4.here hx rfl (hb hby at_91) rfl ?_
    show Steps p.tables e below (T4.setTop (mkF m 92 #[.val (.long q1), .second, .val (.int p2), .val (.int p3), .val (.int (own_cn p2)), .val (.int (0 : Int32)), .val (.long (own_ru q1 p2)), .second, .val (.long (-1 : Int64)), .second, .val (.int (1 : Int32)), .unset, .unset, .unset] [(.int ((own_cn p2) - (1 : Int32))), (.long (own_ru q1 p2))])) _
    refine XS.lushr X4.here hx rfl (hb hby at_92) rfl ?_
    show Steps p.tables e below (T4.setTop (mkF m 93 #[.val (.long q1), .second, .val (.int p2), .val (.int p3), .val (.int (own_cn p2)), .val (.int (0 : Int32)), .val (.long (own_ru q1 p2)), .second, .val (.long (-1 : Int64)), .second, .val (.int (1 : Int32)), .unset, .unset, .unset] [(.long (own_tu q1 p2))])) _
    refine XS.lstore X4.here hx rfl (hb hby at_93) rfl (l' := #[.val (.long q1), .second, .val (.int p2), .val (.int p3), .val (.int (own_cn p2)), .val (.int (0 : Int32)), .val (.long (own_ru q1 p2)), .second, .val (.long (-1 : Int64)), .second, .val (.int (1 : Int32)), .val (.long (own_tu q1 p2)), .second, .unset]) rfl ?_
    show Steps p.tables e below (T4.setTop (mkF m 95 #[.val (.long q1), .second, .val (.int p2), .val (.int p3), .val (.int (own_cn p2)), .val (.int (0 : Int32)), .val (.long (own_ru q1 p2)), .second, .val (.long (-1 : Int64)), .second, .val (.int (1 : Int32)), .val (.long (own_tu q1 p2)), .second, .unset] [])) _
    refine XS.iload X4.here hx rfl (hb hby at_95) rfl ?_
    show Steps p.tables e below (T4.setTop (mkF m 97 #[.val (.long q1), .second, .val (.int p2), .val (.int p3), .val (.int (own_cn p2)), .val (.int (0 : Int32)), .val (.long (own_ru q1 p2)), .second, .val (.long (-1 : Int64)), .second, .val (.int (1 : Int32)), .val (.long (own_tu q1 p2)), .second, .unset] [(.int (0 : Int32))])) _
    refine XS.ifYes X4.here hx rfl (pc0 := 97) (pc' := 124) rfl (hb hby at_97) rfl ((if0 _ _).trans (teq (rfl : (0 : Int32) = (0 : Int32))).1) (by decide) (by decide) ?_
    show Steps p.tables e below (T4.setTop (mkF m 124 #[.val (.long q1), .second, .val (.int p2), .val (.int p3), .val (.int (own_cn p2)), .val (.int (0 : Int32)), .val (.long (own_ru q1 p2)), .second, .val (.long (-1 : Int64)), .second, .val (.int (1 : Int32)), .val (.long (own_tu q1 p2)), .second, .unset] [])) _
    refine XS.lload X4.here hx rfl (hb hby at_124) rfl ?_
    show Steps p.tables e below (T4.setTop (mkF m 126 #[.val (.long q1), .second, .val (.int p2), .val (.int p3), .val (.int (own_cn p2)), .val (.int (0 : Int32)), .val (.long (own_ru q1 p2)), .second, .val (.long (-1 : Int64)), .second, .val (.int (1 : Int32)), .val (.long (own_tu q1 p2)), .second, .unset] [(.long (own_tu q1 p2))])) _
    refine XS.lconst X4.here hx rfl (hb hby at_126) ?_
    show Steps p.tables e below (T4.setTop (mkF m 127 #[.val (.long q1), .second, .val (.int p2), .val (.int p3), .val (.int (own_cn p2)), .val (.int (0 : Int32)), .val (.long (own_ru q1 p2)), .second, .val (.long (-1 : Int64)), .second, .val (.int (1 : Int32)), .val (.long (own_tu q1 p2)), .second, .unset] [(.long (0 : Int64)), (.long (own_tu q1 p2))])) _
    refine XS.lcmp X4.here hx rfl (hb hby at_127) rfl ?_
    show Steps p.tables e below (T4.setTop (mkF m 128 #[.val (.long q1), .second, .val (.int p2), .val (.int p3), .val (.int (own_cn p2)), .val (.int (0 : Int32)), .val (.long (own_ru q1 p2)), .second, .val (.long (-1 : Int64)), .second, .val (.int (1 : Int32)), .val (.long (own_tu q1 p2)), .second, .unset] [(.int (lcmpW (own_tu q1 p2) (0 : Int64)))])) _
    refine XS.ifYes X4.here hx rfl (pc0 := 128) (pc' := 138) rfl (hb hby at_128) rfl ((if0 _ _).trans (teq ((lw_eq _ _).mpr htop : (lcmpW (own_tu q1 p2) (0 : Int64)) = (0 : Int32))).1) (by decide) (by decide) ?_
    show Steps p.tables e below (T4.setTop (mkF m 138 #[.val (.long q1), .second, .val (.int p2), .val (.int p3), .val (.int (own_cn p2)), .val (.int (0 : Int32)), .val (.long (own_ru q1 p2)), .second, .val (.long (-1 : Int64)), .second, .val (.int (1 : Int32)), .val (.long (own_tu q1 p2)), .second, .unset] [])) _
    refine XS.iconst X4.here hx rfl (hb hby at_138) ?_
    show Steps p.tables e below (T4.setTop (mkF m 139 #[.val (.long q1), .second, .val (.int p2), .val (.int p3), .val (.int (own_cn p2)), .val (.int (0 : Int32)), .val (.long (own_ru q1 p2)), .second, .val (.long (-1 : Int64)), .second, .val (.int (1 : Int32)), .val (.long (own_tu q1 p2)), .second, .unset] [(.int (1 : Int32))])) _
    refine XS.goto X4.here hx rfl (pc0 := 139) (pc' := 143) rfl (hb hby at_139) (by decide) (by decide) ?_
    show Steps p.tables e below (T4.setTop (mkF m 143 #[.val (.long q1), .second, .val (.int p2), .val (.int p3), .val (.int (own_cn p2)), .val (.int (0 : Int32)), .val (.long (own_ru q1 p2)), .second, .val (.long (-1 : Int64)), .second, .val (.int (1 : Int32)), .val (.long (own_tu q1 p2)), .second, .unset] [(.int (1 : Int32))])) _
    refine XS.istore X4.here hx rfl (hb hby at_143) rfl (l' := #[.val (.long q1), .second, .val (.int p2), .val (.int p3), .val (.int (own_cn p2)), .val (.int (0 : Int32)), .val (.long (own_ru q1 p2)), .second, .val (.long (-1 : Int64)), .second, .val (.int (1 : Int32)), .val (.long (own_tu q1 p2)), .second, .val (.int (1 : Int32))]) rfl ?_
    show Steps p.tables e below (T4.setTop (mkF m 145 #[.val (.long q1), .second, .val (.int p2), .val (.int p3), .val (.int (own_cn p2)), .val (.int (0 : Int32)), .val (.long (own_ru q1 p2)), .second, .val (.long (-1 : Int64)), .second, .val (.int (1 : Int32)), .val (.long (own_tu q1 p2)), .second, .val (.int (1 : Int32))] [])) _
    refine XS.iload X4.here hx rfl (hb hby at_145) rfl ?_
    show Steps p.tables e below (T4.setTop (mkF m 147 #[.val (.long q1), .second, .val (.int p2), .val (.int p3), .val (.int (own_cn p2)), .val (.int (0 : Int32)), .val (.long (own_ru q1 p2)), .second, .val (.long (-1 : Int64)), .second, .val (.int (1 : Int32)), .val (.long (own_tu q1 p2)), .second, .val (.int (1 : Int32))] [(.int (1 : Int32))])) _
    refine XS.ifNo X4.here hx rfl (hb hby at_147) rfl ((if0 _ _).trans (feq hc147).1) ?_
    show Steps p.tables e below (T4.setTop (mkF m 150 #[.val (.long q1), .second, .val (.int p2), .val (.int p3), .val (.int (own_cn p2)), .val (.int (0 : Int32)), .val (.long (own_ru q1 p2)), .second, .val (.long (-1 : Int64)), .second, .val (.int (1 : Int32)), .val (.long (own_tu q1 p2)), .second, .val (.int (1 : Int32))] [])) _
    refine XS.iload X4.here hx rfl (hb hby at_150) rfl ?_
    show Steps p.tables e below (T4.setTop (mkF m 152 #[.val (.long q1), .second, .val (.int p2), .val (.int p3), .val (.int (own_cn p2)), .val (.int (0 : Int32)), .val (.long (own_ru q1 p2)), .second, .val (.long (-1 : Int64)), .second, .val (.int (1 : Int32)), .val (.long (own_tu q1 p2)), .second, .val (.int (1 : Int32))] [(.int (1 : Int32))])) _
    refine XS.ifNo X4.here hx rfl (hb hby at_152) rfl ((if0 _ _).trans (feq hc152).1) ?_
    show Steps p.tables e below (T4.setTop (mkF m 155 #[.val (.long q1), .second, .val (.int p2), .val (.int p3), .val (.int (own_cn p2)), .val (.int (0 : Int32)), .val (.long (own_ru q1 p2)), .second, .val (.long (-1 : Int64)), .second, .val (.int (1 : Int32)), .val (.long (own_tu q1 p2)), .second, .val (.int (1 : Int32))] [])) _
    refine XS.iconst X4.here hx rfl (hb hby at_155) ?_
    show Steps p.tables e below (T4.setTop (mkF m 156 #[.val (.long q1), .second, .val (.int p2), .val (.int p3), .val (.int (own_cn p2)), .val (.int (0 : Int32)), .val (.long (own_ru q1 p2)), .second, .val (.long (-1 : Int64)), .second, .val (.int (1 : Int32)), .val (.long (own_tu q1 p2)), .second, .val (.int (1 : Int32))] [(.int (1 : Int32))])) _
    refine XS.goto X4.here hx rfl (pc0 := 156) (pc' := 160) rfl (hb hby at_156) (by decide) (by decide) ?_
    show Steps p.tables e below (T4.setTop (mkF m 160 #[.val (.long q1), .second, .val (.int p2), .val (.int p3), .val (.int (own_cn p2)), .val (.int (0 : Int32)), .val (.long (own_ru q1 p2)), .second, .val (.long (-1 : Int64)), .second, .val (.int (1 : Int32)), .val (.long (own_tu q1 p2)), .second, .val (.int (1 : Int32))] [(.int (1 : Int32))])) _
    exact retN X4 hx (t := .boolean) Bd.returns (by simp) (hb hby at_160) hr
  · show Q0 Z q1 p2 p3 h0 n0 _ T4.heap _
    exact ⟨rfl, N4⟩
set_option maxRecDepth 65536 in
set_option maxHeartbeats 40000000 in
theorem rm0_6 (l : Launch) (Z : State) (a0 : Array Value) (hw : ∀ d ∈ tables_1, d.before a0 Z = true) (ws : List Jvm.Cond) (q1 : Int64) (p2 : Int32) (p3 : Int32) (h0 : Heap) (n0 : Nat) (Z0 : n0 ≤ h0.size) (hc11 : (p3 &&& (1 : Int32)) = (0 : Int32)) (hc35 : (own_cn p2) = (64 : Int32)) (hc147 : ¬ ((1 : Int32) = (0 : Int32))) (hc152 : ¬ ((1 : Int32) = (0 : Int32))) (hlow : ((own_ru q1 p2) ^^^ q1) &&& (-1 : Int64) = 0) (hn0 : ¬ (own_tu q1 p2) = 0) (htop : (own_tu q1 p2) = 1) :
    MetFree l x (head1 (Jvm.Cond.code x code maxLocals ret :: ws) room_1) (fun a U => a = #[(.long q1), (.int p2), (.int p3)] ∧ Z.Warmed39 U.vm ∧ U.heap = h0) (fun _ _ _ _ _ => True) (fun _ U o U' => ∃ v L, o = .returned v ∧ Q0 Z q1 p2 p3 h0 n0 v U'.heap L ∧ FrameEnd U o U' L room_1.cells room_1.slots) := by
  refine MetFree.of_bodySF (plainFor_of_name pn_0) hisR ?_
  intro p e s m args below meth c s₁ Bd hml0 hP hK
  obtain ⟨rfl, hZ, hh⟩ := hP
  have hx := Bd.exec
  have hby := Bd.bytes
  have hml : c.maxLocals = 14 := hml0
  have hown : s.vm.findClass "com/example/narrowint/narrowint/codec/BitsFromLowPinLaw" = some m.cls := findClass_of_methodNamed Bd.named
  have hnm := (name_of_methodNamed Bd.named Bd.method).1
  have X0 : Stand p l e room_1 s m #[(.long q1), (.int p2), (.int p3)] below meth c s₁ [] 0 0 := Stand.of_body Bd
  have e0 : s₁.heap = h0 := by rw [← hh, Bd.state]; rfl
  have N0 := Fr.nil n0
  have pre0 : ∀ t, Steps p.tables e below (s₁.setTop (mkF m 0 #[.val (.long q1), .second, .val (.int p2), .val (.int p3), .unset, .unset, .unset, .unset, .unset, .unset, .unset, .unset, .unset, .unset] [])) t → Steps p.tables e below (s₁.setTop (entryFrame m #[(.long q1), (.int p2), (.int p3)] maxLocals)) t := fun t k => castTop (ef_0 m q1 p2 p3) k
  obtain ⟨_, _, ⟨T4, L4, k4, n4⟩, -, X4, ⟨Lc4, hQ4, l4, y4, z4⟩, st4⟩ := Jvm.LawKit.callS X0 hx (y := (⟨"com/example/narrowint/narrowint/codec/Bits", "fromLow", "(JIZ)J"⟩ : MethodName)) hown (mvT hZ (hw _ (List.mem_of_getElem? (i := 0) rfl))) (mvT hZ (hw _ (List.mem_of_getElem? (i := 1) rfl))) (mvT hZ (hw _ (List.mem_of_getElem? (i := 2) rfl))) (mvT hZ (hw _ (List.mem_of_getElem? (i := 3) rfl))) (by decide) (backOf (W := 0) (rm1u l Z a0 hw [] q1 (own_cn p2) (0 : Int32) h0 n0 Z0 (by decide)) hZ (hw _ (List.mem_of_getElem? (i := 3) rfl)) (hw _ (List.mem_of_getElem? (i := 2) rfl)) (by decide) (by decide)) (g := (mkF m 26 #[.val (.long q1), .second, .val (.int p2), .val (.int p3), .val (.int (own_cn p2)), .val (.int (0 : Int32)), .unset, .unset, .unset, .unset, .unset, .unset, .unset, .unset] [(.int (0 : Int32)), (.int (own_cn p2)), (.long q1)])) rfl (by rw [hml]; rfl) (argsL := [(.long q1), (.int (own_cn p2)), (.int (0 : Int32))]) (rest := []) (lenOf pd_0_0 rfl) rfl (by show 2 * 0 + _ ≤ _; exact Nat.le_of_eq rfl) (hb hby at_26) (fun _ _ => ⟨rfl, e0, (by decide : 0 + 0 ≤ _), (by decide : 0 + 0 ≤ _)⟩)
  dsimp only [Pt.U, Pt.locs, Pt.cells, Pt.slots] at X4 l4 y4 z4 st4 hQ4
  subst l4 y4 z4
  obtain ⟨rfl, N4q, e4⟩ := hQ4
  have N4 := Fr.app N0 N4q
  obtain ⟨fs, hr, hrun, hended, hW, hsame⟩ := X4.leave (v := some (.int (1 : Int32))) (fun h => by rw [Bd.returns] at h; cases h) (hlocks := by first | exact BodyLoose.notSynchronized Bd | exact Body.notSynchronized Bd)
  refine ⟨_, _, pre0 _ ?_, hrun, hended, _, _, rfl, ?_, ⟨_, rfl⟩, hW, hsame.mono (by decide) (by decide)⟩
  · show Steps p.tables e below (s₁.setTop (mkF m 0 #[.val (.long q1), .second, .val (.int p2), .val (.int p3), .unset, .unset, .unset, .unset, .unset, .unset, .unset, .unset, .unset, .unset] [])) _
    refine XS.iloadN X0.here hx rfl (hb hby at_0) rfl ?_
    show Steps p.tables e below (s₁.setTop (mkF m 1 #[.val (.long q1), .second, .val (.int p2), .val (.int p3), .unset, .unset, .unset, .unset, .unset, .unset, .unset, .unset, .unset, .unset] [(.int p2)])) _
    refine XS.bipush X0.here hx rfl (hb hby at_1) ?_
    show Steps p.tables e below (s₁.setTop (mkF m 3 #[.val (.long q1), .second, .val (.int p2), .val (.int p3), .unset, .unset, .unset, .unset, .unset, .unset, .unset, .unset, .unset, .unset] [(.int (63 : Int32)), (.int p2)])) _
    refine XS.iand X0.here hx rfl (hb hby at_3) rfl ?_
    show Steps p.tables e below (s₁.setTop (mkF m 4 #[.val (.long q1), .second, .val (.int p2), .val (.int p3), .unset, .unset, .unset, .unset, .unset, .unset, .unset, .unset, .unset, .unset] [(.int (p2 &&& (63 : Int32)))])) _
    refine XS.iconst X0.here hx rfl (hb hby at_4) ?_
    show Steps p.tables e below (s₁.setTop (mkF m 5 #[.val (.long q1), .second, .val (.int p2), .val (.int p3), .unset, .unset, .unset, .unset, .unset, .unset, .unset, .unset, .unset, .unset] [(.int (1 : Int32)), (.int (p2 &&& (63 : Int32)))])) _
    refine XS.iadd X0.here hx rfl (hb hby at_5) rfl ?_
    show Steps p.tables e below (s₁.setTop (mkF m 6 #[.val (.long q1), .second, .val (.int p2), .val (.int p3), .unset, .unset, .unset, .unset, .unset, .unset, .unset, .unset, .unset, .unset] [(.int (own_cn p2))])) _
    refine XS.istore X0.here hx rfl (hb hby at_6) rfl (l' := #[.val (.long q1), .second, .val (.int p2), .val (.int p3), .val (.int (own_cn p2)), .unset, .unset, .unset, .unset, .unset, .unset, .unset, .unset, .unset]) rfl ?_
    show Steps p.tables e below (s₁.setTop (mkF m 8 #[.val (.long q1), .second, .val (.int p2), .val (.int p3), .val (.int (own_cn p2)), .unset, .unset, .unset, .unset, .unset, .unset, .unset, .unset, .unset] [])) _
    refine XS.iloadN X0.here hx rfl (hb hby at_8) rfl ?_
    show Steps p.tables e below (s₁.setTop (mkF m 9 #[.val (.long q1), .second, .val (.int p2), .val (.int p3), .val (.int (own_cn p2)), .unset, .unset, .unset, .unset, .unset, .unset, .unset, .unset, .unset] [(.int p3)])) _
    refine XS.iconst X0.here hx rfl (hb hby at_9) ?_
    show Steps p.tables e below (s₁.setTop (mkF m 10 #[.val (.long q1), .second, .val (.int p2), .val (.int p3), .val (.int (own_cn p2)), .unset, .unset, .unset, .unset, .unset, .unset, .unset, .unset, .unset] [(.int (1 : Int32)), (.int p3)])) _
    refine XS.iand X0.here hx rfl (hb hby at_10) rfl ?_
    show Steps p.tables e below (s₁.setTop (mkF m 11 #[.val (.long q1), .second, .val (.int p2), .val (.int p3), .val (.int (own_cn p2)), .unset, .unset, .unset, .unset, .unset, .unset, .unset, .unset, .unset] [(.int (p3 &&& (1 : Int32)))])) _
    refine XS.ifYes X0.here hx rfl (pc0 := 11) (pc' := 18) rfl (hb hby at_11) rfl ((if0 _ _).trans (teq hc11).1) (by decide) (by decide) ?_
    show Steps p.tables e below (s₁.setTop (mkF m 18 #[.val (.long q1), .second, .val (.int p2), .val (.int p3), .val (.int (own_cn p2)), .unset, .unset, .unset, .unset, .unset, .unset, .unset, .unset, .unset] [])) _
    refine XS.iconst X0.here hx rfl (hb hby at_18) ?_
    show Steps p.tables e below (s₁.setTop (mkF m 19 #[.val (.long q1), .second, .val (.int p2), .val (.int p3), .val (.int (own_cn p2)), .unset, .unset, .unset, .unset, .unset, .unset, .unset, .unset, .unset] [(.int (0 : Int32))])) _
    refine XS.istore X0.here hx rfl (hb hby at_19) rfl (l' := #[.val (.long q1), .second, .val (.int p2), .val (.int p3), .val (.int (own_cn p2)), .val (.int (0 : Int32)), .unset, .unset, .unset, .unset, .unset, .unset, .unset, .unset]) rfl ?_
    show Steps p.tables e below (s₁.setTop (mkF m 21 #[.val (.long q1), .second, .val (.int p2), .val (.int p3), .val (.int (own_cn p2)), .val (.int (0 : Int32)), .unset, .unset, .unset, .unset, .unset, .unset, .unset, .unset] [])) _
    refine XS.lloadN X0.here hx rfl (hb hby at_21) rfl ?_
    show Steps p.tables e below (s₁.setTop (mkF m 22 #[.val (.long q1), .second, .val (.int p2), .val (.int p3), .val (.int (own_cn p2)), .val (.int (0 : Int32)), .unset, .unset, .unset, .unset, .unset, .unset, .unset, .unset] [(.long q1)])) _
    refine XS.iload X0.here hx rfl (hb hby at_22) rfl ?_
    show Steps p.tables e below (s₁.setTop (mkF m 24 #[.val (.long q1), .second, .val (.int p2), .val (.int p3), .val (.int (own_cn p2)), .val (.int (0 : Int32)), .unset, .unset, .unset, .unset, .unset, .unset, .unset, .unset] [(.int (own_cn p2)), (.long q1)])) _
    refine XS.iload X0.here hx rfl (hb hby at_24) rfl ?_
    show Steps p.tables e below (s₁.setTop (mkF m 26 #[.val (.long q1), .second, .val (.int p2), .val (.int p3), .val (.int (own_cn p2)), .val (.int (0 : Int32)), .unset, .unset, .unset, .unset, .unset, .unset, .unset, .unset] [(.int (0 : Int32)), (.int (own_cn p2)), (.long q1)])) _
    refine st4 _ ?_
    show Steps p.tables e below (T4.setTop (mkF m 29 #[.val (.long q1), .second, .val (.int p2), .val (.int p3), .val (.int (own_cn p2)), .val (.int (0 : Int32)), .unset, .unset, .unset, .unset, .unset, .unset, .unset, .unset] [(.long (own_ru q1 p2))])) _
    refine XS.lstore X4.here hx rfl (hb hby at_29) rfl (l' := #[.val (.long q1), .second, .val (.int p2), .val (.int p3), .val (.int (own_cn p2)), .val (.int (0 : Int32)), .val (.long (own_ru q1 p2)), .second, .unset, .unset, .unset, .unset, .unset, .unset]) rfl ?_
    show Steps p.tables e below (T4.setTop (mkF m 31 #[.val (.long q1), .second, .val (.int p2), .val (.int p3), .val (.int (own_cn p2)), .val (.int (0 : Int32)), .val (.long (own_ru q1 p2)), .second, .unset, .unset, .unset, .unset, .unset, .unset] [])) _
    refine XS.iload X4.here hx rfl (hb hby at_31) rfl ?_
    show Steps p.tables e below (T4.setTop (mkF m 33 #[.val (.long q1), .second, .val (.int p2), .val (.int p3), .val (.int (own_cn p2)), .val (.int (0 : Int32)), .val (.long (own_ru q1 p2)), .second, .unset, .unset, .unset, .unset, .unset, .unset] [(.int (own_cn p2))])) _
    refine XS.bipush X4.here hx rfl (hb hby at_33) ?_
    show Steps p.tables e below (T4.setTop (mkF m 35 #[.val (.long q1), .second, .val (.int p2), .val (.int p3), .val (.int (own_cn p2)), .val (.int (0 : Int32)), .val (.long (own_ru q1 p2)), .second, .unset, .unset, .unset, .unset, .unset, .unset] [(.int (64 : Int32)), (.int (own_cn p2))])) _
    refine XS.icmpNo X4.here hx rfl (hb hby at_35) rfl (teq hc35).2 ?_
    show Steps p.tables e below (T4.setTop (mkF m 38 #[.val (.long q1), .second, .val (.int p2), .val (.int p3), .val (.int (own_cn p2)), .val (.int (0 : Int32)), .val (.long (own_ru q1 p2)), .second, .unset, .unset, .unset, .unset, .unset, .unset] [])) _
    refine X4.ldc2Long hx hown (mvT hZ (hw _ (List.mem_of_getElem? (i := 4) rfl))) (g := (mkF m 38 #[.val (.long q1), .second, .val (.int p2), .val (.int p3), .val (.int (own_cn p2)), .val (.int (0 : Int32)), .val (.long (own_ru q1 p2)), .second, .unset, .unset, .unset, .unset, .unset, .unset] [])) rfl (hb hby at_38) _ ?_
    show Steps p.tables e below (T4.setTop (mkF m 41 #[.val (.long q1), .second, .val (.int p2), .val (.int p3), .val (.int (own_cn p2)), .val (.int (0 : Int32)), .val (.long (own_ru q1 p2)), .second, .unset, .unset, .unset, .unset, .unset, .unset] [(.long (-1 : Int64))])) _
    refine XS.goto X4.here hx rfl (pc0 := 41) (pc' := 50) rfl (hb hby at_41) (by decide) (by decide) ?_
    show Steps p.tables e below (T4.setTop (mkF m 50 #[.val (.long q1), .second, .val (.int p2), .val (.int p3), .val (.int (own_cn p2)), .val (.int (0 : Int32)), .val (.long (own_ru q1 p2)), .second, .unset, .unset, .unset, .unset, .unset, .unset] [(.long (-1 : Int64))])) _
    refine XS.lstore X4.here hx rfl (hb hby at_50) rfl (l' := #[.val (.long q1), .second, .val (.int p2), .val (.int p3), .val (.int (own_cn p2)), .val (.int (0 : Int32)), .val (.long (own_ru q1 p2)), .second, .val (.long (-1 : Int64)), .second, .unset, .unset, .unset, .unset]) rfl ?_
    show Steps p.tables e below (T4.setTop (mkF m 52 #[.val (.long q1), .second, .val (.int p2), .val (.int p3), .val (.int (own_cn p2)), .val (.int (0 : Int32)), .val (.long (own_ru q1 p2)), .second, .val (.long (-1 : Int64)), .second, .unset, .unset, .unset, .unset] [])) _
    refine XS.lload X4.here hx rfl (hb hby at_52) rfl ?_
    show Steps p.tables e below (T4.setTop (mkF m 54 #[.val (.long q1), .second, .val (.int p2), .val (.int p3), .val (.int (own_cn p2)), .val (.int (0 : Int32)), .val (.long (own_ru q1 p2)), .second, .val (.long (-1 : Int64)), .second, .unset, .unset, .unset, .unset] [(.long (own_ru q1 p2))])) _
    refine XS.lloadN X4.here hx rfl (hb hby at_54) rfl ?_
    show Steps p.tables e below (T4.setTop (mkF m 55 #[.val (.long q1), .second, .val (.int p2), .val (.int p3), .val (.int (own_cn p2)), .val (.int (0 : Int32)), .val (.long (own_ru q1 p2)), .second, .val (.long (-1 : Int64)), .second, .unset, .unset, .unset, .unset] [(.long q1), (.long (own_ru q1 p2))])) _
    refine XS.lxor X4.here hx rfl (hb hby at_55) rfl ?_
    show Steps p.tables e below (T4.setTop (mkF m 56 #[.val (.long q1), .second, .val (.int p2), .val (.int p3), .val (.int (own_cn p2)), .val (.int (0 : Int32)), .val (.long (own_ru q1 p2)), .second, .val (.long (-1 : Int64)), .second, .unset, .unset, .unset, .unset] [(.long ((own_ru q1 p2) ^^^ q1))])) _
    refine XS.lload X4.here hx rfl (hb hby at_56) rfl ?_
    show Steps p.tables e below (T4.setTop (mkF m 58 #[.val (.long q1), .second, .val (.int p2), .val (.int p3), .val (.int (own_cn p2)), .val (.int (0 : Int32)), .val (.long (own_ru q1 p2)), .second, .val (.long (-1 : Int64)), .second, .unset, .unset, .unset, .unset] [(.long (-1 : Int64)), (.long ((own_ru q1 p2) ^^^ q1))])) _
    refine XS.land X4.here hx rfl (hb hby at_58) rfl ?_
    show Steps p.tables e below (T4.setTop (mkF m 59 #[.val (.long q1), .second, .val (.int p2), .val (.int p3), .val (.int (own_cn p2)), .val (.int (0 : Int32)), .val (.long (own_ru q1 p2)), .second, .val (.long (-1 : Int64)), .second, .unset, .unset, .unset, .unset] [(.long (((own_ru q1 p2) ^^^ q1) &&& (-1 : Int64)))])) _
    refine XS.lconst X4.here hx rfl (hb hby at_59) ?_
    show Steps p.tables e below (T4.setTop (mkF m 60 #[.val (.long q1), .second, .val (.int p2), .val (.int p3), .val (.int (own_cn p2)), .val (.int (0 : Int32)), .val (.long (own_ru q1 p2)), .second, .val (.long (-1 : Int64)), .second, .unset, .unset, .unset, .unset] [(.long (0 : Int64)), (.long (((own_ru q1 p2) ^^^ q1) &&& (-1 : Int64)))])) _
    refine XS.lcmp X4.here hx rfl (hb hby at_60) rfl ?_
    show Steps p.tables e below (T4.setTop (mkF m 61 #[.val (.long q1), .second, .val (.int p2), .val (.int p3), .val (.int (own_cn p2)), .val (.int (0 : Int32)), .val (.long (own_ru q1 p2)), .second, .val (.long (-1 : Int64)), .second, .unset, .unset, .unset, .unset] [(.int (lcmpW (((own_ru q1 p2) ^^^ q1) &&& (-1 : Int64)) (0 : Int64)))])) _
    refine XS.ifNo X4.here hx rfl (hb hby at_61) rfl ((if0 _ _).trans (teq ((lw_eq _ _).mpr hlow : (lcmpW (((own_ru q1 p2) ^^^ q1) &&& (-1 : Int64)) (0 : Int64)) = (0 : Int32))).2) ?_
    show Steps p.tables e below (T4.setTop (mkF m 64 #[.val (.long q1), .second, .val (.int p2), .val (.int p3), .val (.int (own_cn p2)), .val (.int (0 : Int32)), .val (.long (own_ru q1 p2)), .second, .val (.long (-1 : Int64)), .second, .unset, .unset, .unset, .unset] [])) _
    refine XS.iconst X4.here hx rfl (hb hby at_64) ?_
    show Steps p.tables e below (T4.setTop (mkF m 65 #[.val (.long q1), .second, .val (.int p2), .val (.int p3), .val (.int (own_cn p2)), .val (.int (0 : Int32)), .val (.long (own_ru q1 p2)), .second, .val (.long (-1 : Int64)), .second, .unset, .unset, .unset, .unset] [(.int (1 : Int32))])) _
    refine XS.goto X4.here hx rfl (pc0 := 65) (pc' := 69) rfl (hb hby at_65) (by decide) (by decide) ?_
    show Steps p.tables e below (T4.setTop (mkF m 69 #[.val (.long q1), .second, .val (.int p2), .val (.int p3), .val (.int (own_cn p2)), .val (.int (0 : Int32)), .val (.long (own_ru q1 p2)), .second, .val (.long (-1 : Int64)), .second, .unset, .unset, .unset, .unset] [(.int (1 : Int32))])) _
    refine XS.istore X4.here hx rfl (hb hby at_69) rfl (l' := #[.val (.long q1), .second, .val (.int p2), .val (.int p3), .val (.int (own_cn p2)), .val (.int (0 : Int32)), .val (.long (own_ru q1 p2)), .second, .val (.long (-1 : Int64)), .second, .val (.int (1 : Int32)), .unset, .unset, .unset]) rfl ?_
    show Steps p.tables e below (T4.setTop (mkF m 71 #[.val (.long q1), .second, .val (.int p2), .val (.int p3), .val (.int (own_cn p2)), .val (.int (0 : Int32)), .val (.long (own_ru q1 p2)), .second, .val (.long (-1 : Int64)), .second, .val (.int (1 : Int32)), .unset, .unset, .unset] [])) _
    refine XS.iload X4.here hx rfl (hb hby at_71) rfl ?_
    show Steps p.tables e below (T4.setTop (mkF m 73 #[.val (.long q1), .second, .val (.int p2), .val (.int p3), .val (.int (own_cn p2)), .val (.int (0 : Int32)), .val (.long (own_ru q1 p2)), .second, .val (.long (-1 : Int64)), .second, .val (.int (1 : Int32)), .unset, .unset, .unset] [(.int (0 : Int32))])) _
    refine XS.ifYes X4.here hx rfl (pc0 := 73) (pc' := 86) rfl (hb hby at_73) rfl ((if0 _ _).trans (teq (rfl : (0 : Int32) = (0 : Int32))).1) (by decide) (by decide) ?_
    show Steps p.tables e below (T4.setTop (mkF m 86 #[.val (.long q1), .second, .val (.int p2), .val (.int p3), .val (.int (own_cn p2)), .val (.int (0 : Int32)), .val (.long (own_ru q1 p2)), .second, .val (.long (-1 : Int64)), .second, .val (.int (1 : Int32)), .unset, .unset, .unset] [])) _
    refine XS.lload X4.here hx rfl (hb hby at_86) rfl ?_
    show Steps p.tables e below (T4.setTop (mkF m 88 #[.val (.long q1), .second, .val (.int p2), .val (.int p3), .val (.int (own_cn p2)), .val (.int (0 : Int32)), .val (.long (own_ru q1 p2)), .second, .val (.long (-1 : Int64)), .second, .val (.int (1 : Int32)), .unset, .unset, .unset] [(.long (own_ru q1 p2))])) _
    refine XS.iload X4.here hx rfl (hb hby at_88) rfl ?_
    show Steps p.tables e below (T4.setTop (mkF m 90 #[.val (.long q1), .second, .val (.int p2), .val (.int p3), .val (.int (own_cn p2)), .val (.int (0 : Int32)), .val (.long (own_ru q1 p2)), .second, .val (.long (-1 : Int64)), .second, .val (.int (1 : Int32)), .unset, .unset, .unset] [(.int (own_cn p2)), (.long (own_ru q1 p2))])) _
    refine XS.iconst X4.here hx rfl (hb hby at_90) ?_
    show Steps p.tables e below (T4.setTop (mkF m 91 #[.val (.long q1), .second, .val (.int p2), .val (.int p3), .val (.int (own_cn p2)), .val (.int (0 : Int32)), .val (.long (own_ru q1 p2)), .second, .val (.long (-1 : Int64)), .second, .val (.int (1 : Int32)), .unset, .unset, .unset] [(.int (1 : Int32)), (.int (own_cn p2)), (.long (own_ru q1 p2))])) _
    refine XS.isub X4.here hx rfl (hb hby at_91) rfl ?_
    show Steps p.tables e below (T4.setTop (mkF m 92 #[.val (.long q1), .second, .val (.int p2), .val (.int p3), .val (.int (own_cn p2)), .val (.int (0 : Int32)), .val (.long (own_ru q1 p2)), .second, .val (.long (-1 : Int64)), .second, .val (.int (1 : Int32)), .unset, .unset, .unset] [(.int ((own_cn p2) - (1 : Int32))), (.long (own_ru q1 p2))])) _
    refine XS.lushr X4.here hx rfl (hb hby at_92) rfl ?_
    show Steps p.tables e below (T4.setTop (mkF m 93 #[.val (.long q1), .second, .val (.int p2), .val (.int p3), .val (.int (own_cn p2)), .val (.int (0 : Int32)), .val (.long (own_ru q1 p2)), .second, .val (.long (-1 : Int64)), .second, .val (.int (1 : Int32)), .unset, .unset, .unset] [(.long (own_tu q1 p2))])) _
    refine XS.lstore X4.here hx rfl (hb hby at_93) rfl (l' := #[.val (.long q1), .second, .val (.int p2), .val (.int p3), .val (.int (own_cn p2)), .val (.int (0 : Int32)), .val (.long (own_ru q1 p2)), .second, .val (.long (-1 : Int64)), .second, .val (.int (1 : Int32)), .val (.long (own_tu q1 p2)), .second, .unset]) rfl ?_
    show Steps p.tables e below (T4.setTop (mkF m 95 #[.val (.long q1), .second, .val (.int p2), .val (.int p3), .val (.int (own_cn p2)), .val (.int (0 : Int32)), .val (.long (own_ru q1 p2)), .second, .val (.long (-1 : Int64)), .second, .val (.int (1 : Int32)), .val (.long (own_tu q1 p2)), .second, .unset] [])) _
    refine XS.iload X4.here hx rfl (hb hby at_95) rfl ?_
    show Steps p.tables e below (T4.setTop (mkF m 97 #[.val (.long q1), .second, .val (.int p2), .val (.int p3), .val (.int (own_cn p2)), .val (.int (0 : Int32)), .val (.long (own_ru q1 p2)), .second, .val (.long (-1 : Int64)), .second, .val (.int (1 : Int32)), .val (.long (own_tu q1 p2)), .second, .unset] [(.int (0 : Int32))])) _
    refine XS.ifYes X4.here hx rfl (pc0 := 97) (pc' := 124) rfl (hb hby at_97) rfl ((if0 _ _).trans (teq (rfl : (0 : Int32) = (0 : Int32))).1) (by decide) (by decide) ?_
    show Steps p.tables e below (T4.setTop (mkF m 124 #[.val (.long q1), .second, .val (.int p2), .val (.int p3), .val (.int (own_cn p2)), .val (.int (0 : Int32)), .val (.long (own_ru q1 p2)), .second, .val (.long (-1 : Int64)), .second, .val (.int (1 : Int32)), .val (.long (own_tu q1 p2)), .second, .unset] [])) _
    refine XS.lload X4.here hx rfl (hb hby at_124) rfl ?_
    show Steps p.tables e below (T4.setTop (mkF m 126 #[.val (.long q1), .second, .val (.int p2), .val (.int p3), .val (.int (own_cn p2)), .val (.int (0 : Int32)), .val (.long (own_ru q1 p2)), .second, .val (.long (-1 : Int64)), .second, .val (.int (1 : Int32)), .val (.long (own_tu q1 p2)), .second, .unset] [(.long (own_tu q1 p2))])) _
    refine XS.lconst X4.here hx rfl (hb hby at_126) ?_
    show Steps p.tables e below (T4.setTop (mkF m 127 #[.val (.long q1), .second, .val (.int p2), .val (.int p3), .val (.int (own_cn p2)), .val (.int (0 : Int32)), .val (.long (own_ru q1 p2)), .second, .val (.long (-1 : Int64)), .second, .val (.int (1 : Int32)), .val (.long (own_tu q1 p2)), .second, .unset] [(.long (0 : Int64)), (.long (own_tu q1 p2))])) _
    refine XS.lcmp X4.here hx rfl (hb hby at_127) rfl ?_
    show Steps p.tables e below (T4.setTop (mkF m 128 #[.val (.long q1), .second, .val (.int p2), .val (.int p3), .val (.int (own_cn p2)), .val (.int (0 : Int32)), .val (.long (own_ru q1 p2)), .second, .val (.long (-1 : Int64)), .second, .val (.int (1 : Int32)), .val (.long (own_tu q1 p2)), .second, .unset] [(.int (lcmpW (own_tu q1 p2) (0 : Int64)))])) _
    refine XS.ifNo X4.here hx rfl (hb hby at_128) rfl ((if0 _ _).trans (feq ((fun h => hn0 ((lw_eq _ _).mp h)) : ¬ ((lcmpW (own_tu q1 p2) (0 : Int64)) = (0 : Int32)))).1) ?_
    show Steps p.tables e below (T4.setTop (mkF m 131 #[.val (.long q1), .second, .val (.int p2), .val (.int p3), .val (.int (own_cn p2)), .val (.int (0 : Int32)), .val (.long (own_ru q1 p2)), .second, .val (.long (-1 : Int64)), .second, .val (.int (1 : Int32)), .val (.long (own_tu q1 p2)), .second, .unset] [])) _
    refine XS.lload X4.here hx rfl (hb hby at_131) rfl ?_
    show Steps p.tables e below (T4.setTop (mkF m 133 #[.val (.long q1), .second, .val (.int p2), .val (.int p3), .val (.int (own_cn p2)), .val (.int (0 : Int32)), .val (.long (own_ru q1 p2)), .second, .val (.long (-1 : Int64)), .second, .val (.int (1 : Int32)), .val (.long (own_tu q1 p2)), .second, .unset] [(.long (own_tu q1 p2))])) _
    refine XS.lconst X4.here hx rfl (hb hby at_133) ?_
    show Steps p.tables e below (T4.setTop (mkF m 134 #[.val (.long q1), .second, .val (.int p2), .val (.int p3), .val (.int (own_cn p2)), .val (.int (0 : Int32)), .val (.long (own_ru q1 p2)), .second, .val (.long (-1 : Int64)), .second, .val (.int (1 : Int32)), .val (.long (own_tu q1 p2)), .second, .unset] [(.long (1 : Int64)), (.long (own_tu q1 p2))])) _
    refine XS.lcmp X4.here hx rfl (hb hby at_134) rfl ?_
    show Steps p.tables e below (T4.setTop (mkF m 135 #[.val (.long q1), .second, .val (.int p2), .val (.int p3), .val (.int (own_cn p2)), .val (.int (0 : Int32)), .val (.long (own_ru q1 p2)), .second, .val (.long (-1 : Int64)), .second, .val (.int (1 : Int32)), .val (.long (own_tu q1 p2)), .second, .unset] [(.int (lcmpW (own_tu q1 p2) (1 : Int64)))])) _
    refine XS.ifNo X4.here hx rfl (hb hby at_135) rfl ((if0 _ _).trans (teq ((lw_eq _ _).mpr htop : (lcmpW (own_tu q1 p2) (1 : Int64)) = (0 : Int32))).2) ?_
    show Steps p.tables e below (T4.setTop (mkF m 138 #[.val (.long q1), .second, .val (.int p2), .val (.int p3), .val (.int (own_cn p2)), .val (.int (0 : Int32)), .val (.long (own_ru q1 p2)), .second, .val (.long (-1 : Int64)), .second, .val (.int (1 : Int32)), .val (.long (own_tu q1 p2)), .second, .unset] [])) _
    refine XS.iconst X4.here hx rfl (hb hby at_138) ?_
    show Steps p.tables e below (T4.setTop (mkF m 139 #[.val (.long q1), .second, .val (.int p2), .val (.int p3), .val (.int (own_cn p2)), .val (.int (0 : Int32)), .val (.long (own_ru q1 p2)), .second, .val (.long (-1 : Int64)), .second, .val (.int (1 : Int32)), .val (.long (own_tu q1 p2)), .second, .unset] [(.int (1 : Int32))])) _
    refine XS.goto X4.here hx rfl (pc0 := 139) (pc' := 143) rfl (hb hby at_139) (by decide) (by decide) ?_
    show Steps p.tables e below (T4.setTop (mkF m 143 #[.val (.long q1), .second, .val (.int p2), .val (.int p3), .val (.int (own_cn p2)), .val (.int (0 : Int32)), .val (.long (own_ru q1 p2)), .second, .val (.long (-1 : Int64)), .second, .val (.int (1 : Int32)), .val (.long (own_tu q1 p2)), .second, .unset] [(.int (1 : Int32))])) _
    refine XS.istore X4.here hx rfl (hb hby at_143) rfl (l' := #[.val (.long q1), .second, .val (.int p2), .val (.int p3), .val (.int (own_cn p2)), .val (.int (0 : Int32)), .val (.long (own_ru q1 p2)), .second, .val (.long (-1 : Int64)), .second, .val (.int (1 : Int32)), .val (.long (own_tu q1 p2)), .second, .val (.int (1 : Int32))]) rfl ?_
    show Steps p.tables e below (T4.setTop (mkF m 145 #[.val (.long q1), .second, .val (.int p2), .val (.int p3), .val (.int (own_cn p2)), .val (.int (0 : Int32)), .val (.long (own_ru q1 p2)), .second, .val (.long (-1 : Int64)), .second, .val (.int (1 : Int32)), .val (.long (own_tu q1 p2)), .second, .val (.int (1 : Int32))] [])) _
    refine XS.iload X4.here hx rfl (hb hby at_145) rfl ?_
    show Steps p.tables e below (T4.setTop (mkF m 147 #[.val (.long q1), .second, .val (.int p2), .val (.int p3), .val (.int (own_cn p2)), .val (.int (0 : Int32)), .val (.long (own_ru q1 p2)), .second, .val (.long (-1 : Int64)), .second, .val (.int (1 : Int32)), .val (.long (own_tu q1 p2)), .second, .val (.int (1 : Int32))] [(.int (1 : Int32))])) _
    refine XS.ifNo X4.here hx rfl (hb hby at_147) rfl ((if0 _ _).trans (feq hc147).1) ?_
    show Steps p.tables e below (T4.setTop (mkF m 150 #[.val (.long q1), .second, .val (.int p2), .val (.int p3), .val (.int (own_cn p2)), .val (.int (0 : Int32)), .val (.long (own_ru q1 p2)), .second, .val (.long (-1 : Int64)), .second, .val (.int (1 : Int32)), .val (.long (own_tu q1 p2)), .second, .val (.int (1 : Int32))] [])) _
    refine XS.iload X4.here hx rfl (hb hby at_150) rfl ?_
    show Steps p.tables e below (T4.setTop (mkF m 152 #[.val (.long q1), .second, .val (.int p2), .val (.int p3), .val (.int (own_cn p2)), .val (.int (0 : Int32)), .val (.long (own_ru q1 p2)), .second, .val (.long (-1 : Int64)), .second, .val (.int (1 : Int32)), .val (.long (own_tu q1 p2)), .second, .val (.int (1 : Int32))] [(.int (1 : Int32))])) _
    refine XS.ifNo X4.here hx rfl (hb hby at_152) rfl ((if0 _ _).trans (feq hc152).1) ?_
    show Steps p.tables e below (T4.setTop (mkF m 155 #[.val (.long q1), .second, .val (.int p2), .val (.int p3), .val (.int (own_cn p2)), .val (.int (0 : Int32)), .val (.long (own_ru q1 p2)), .second, .val (.long (-1 : Int64)), .second, .val (.int (1 : Int32)), .val (.long (own_tu q1 p2)), .second, .val (.int (1 : Int32))] [])) _
    refine XS.iconst X4.here hx rfl (hb hby at_155) ?_
    show Steps p.tables e below (T4.setTop (mkF m 156 #[.val (.long q1), .second, .val (.int p2), .val (.int p3), .val (.int (own_cn p2)), .val (.int (0 : Int32)), .val (.long (own_ru q1 p2)), .second, .val (.long (-1 : Int64)), .second, .val (.int (1 : Int32)), .val (.long (own_tu q1 p2)), .second, .val (.int (1 : Int32))] [(.int (1 : Int32))])) _
    refine XS.goto X4.here hx rfl (pc0 := 156) (pc' := 160) rfl (hb hby at_156) (by decide) (by decide) ?_
    show Steps p.tables e below (T4.setTop (mkF m 160 #[.val (.long q1), .second, .val (.int p2), .val (.int p3), .val (.int (own_cn p2)), .val (.int (0 : Int32)), .val (.long (own_ru q1 p2)), .second, .val (.long (-1 : Int64)), .second, .val (.int (1 : Int32)), .val (.long (own_tu q1 p2)), .second, .val (.int (1 : Int32))] [(.int (1 : Int32))])) _
    exact retN X4 hx (t := .boolean) Bd.returns (by simp) (hb hby at_160) hr
  · show Q0 Z q1 p2 p3 h0 n0 _ T4.heap _
    exact ⟨rfl, N4⟩
set_option maxRecDepth 65536 in
set_option maxHeartbeats 40000000 in
theorem rm0_7 (l : Launch) (Z : State) (a0 : Array Value) (hw : ∀ d ∈ tables_1, d.before a0 Z = true) (ws : List Jvm.Cond) (q1 : Int64) (p2 : Int32) (p3 : Int32) (h0 : Heap) (n0 : Nat) (Z0 : n0 ≤ h0.size) (hc11 : (p3 &&& (1 : Int32)) = (0 : Int32)) (hc35 : ¬ ((own_cn p2) = (64 : Int32))) (hc147 : ¬ ((1 : Int32) = (0 : Int32))) (hc152 : ¬ ((1 : Int32) = (0 : Int32))) (hlow : ((own_ru q1 p2) ^^^ q1) &&& (own_mk p2) = 0) (htop : (own_tu q1 p2) = 0) :
    MetFree l x (head1 (Jvm.Cond.code x code maxLocals ret :: ws) room_1) (fun a U => a = #[(.long q1), (.int p2), (.int p3)] ∧ Z.Warmed39 U.vm ∧ U.heap = h0) (fun _ _ _ _ _ => True) (fun _ U o U' => ∃ v L, o = .returned v ∧ Q0 Z q1 p2 p3 h0 n0 v U'.heap L ∧ FrameEnd U o U' L room_1.cells room_1.slots) := by
  refine MetFree.of_bodySF (plainFor_of_name pn_0) hisR ?_
  intro p e s m args below meth c s₁ Bd hml0 hP hK
  obtain ⟨rfl, hZ, hh⟩ := hP
  have hx := Bd.exec
  have hby := Bd.bytes
  have hml : c.maxLocals = 14 := hml0
  have hown : s.vm.findClass "com/example/narrowint/narrowint/codec/BitsFromLowPinLaw" = some m.cls := findClass_of_methodNamed Bd.named
  have hnm := (name_of_methodNamed Bd.named Bd.method).1
  have X0 : Stand p l e room_1 s m #[(.long q1), (.int p2), (.int p3)] below meth c s₁ [] 0 0 := Stand.of_body Bd
  have e0 : s₁.heap = h0 := by rw [← hh, Bd.state]; rfl
  have N0 := Fr.nil n0
  have pre0 : ∀ t, Steps p.tables e below (s₁.setTop (mkF m 0 #[.val (.long q1), .second, .val (.int p2), .val (.int p3), .unset, .unset, .unset, .unset, .unset, .unset, .unset, .unset, .unset, .unset] [])) t → Steps p.tables e below (s₁.setTop (entryFrame m #[(.long q1), (.int p2), (.int p3)] maxLocals)) t := fun t k => castTop (ef_0 m q1 p2 p3) k
  obtain ⟨_, _, ⟨T4, L4, k4, n4⟩, -, X4, ⟨Lc4, hQ4, l4, y4, z4⟩, st4⟩ := Jvm.LawKit.callS X0 hx (y := (⟨"com/example/narrowint/narrowint/codec/Bits", "fromLow", "(JIZ)J"⟩ : MethodName)) hown (mvT hZ (hw _ (List.mem_of_getElem? (i := 0) rfl))) (mvT hZ (hw _ (List.mem_of_getElem? (i := 1) rfl))) (mvT hZ (hw _ (List.mem_of_getElem? (i := 2) rfl))) (mvT hZ (hw _ (List.mem_of_getElem? (i := 3) rfl))) (by decide) (backOf (W := 0) (rm1u l Z a0 hw [] q1 (own_cn p2) (0 : Int32) h0 n0 Z0 (by decide)) hZ (hw _ (List.mem_of_getElem? (i := 3) rfl)) (hw _ (List.mem_of_getElem? (i := 2) rfl)) (by decide) (by decide)) (g := (mkF m 26 #[.val (.long q1), .second, .val (.int p2), .val (.int p3), .val (.int (own_cn p2)), .val (.int (0 : Int32)), .unset, .unset, .unset, .unset, .unset, .unset, .unset, .unset] [(.int (0 : Int32)), (.int (own_cn p2)), (.long q1)])) rfl (by rw [hml]; rfl) (argsL := [(.long q1), (.int (own_cn p2)), (.int (0 : Int32))]) (rest := []) (lenOf pd_0_0 rfl) rfl (by show 2 * 0 + _ ≤ _; exact Nat.le_of_eq rfl) (hb hby at_26) (fun _ _ => ⟨rfl, e0, (by decide : 0 + 0 ≤ _), (by decide : 0 + 0 ≤ _)⟩)
  dsimp only [Pt.U, Pt.locs, Pt.cells, Pt.slots] at X4 l4 y4 z4 st4 hQ4
  subst l4 y4 z4
  obtain ⟨rfl, N4q, e4⟩ := hQ4
  have N4 := Fr.app N0 N4q
  obtain ⟨fs, hr, hrun, hended, hW, hsame⟩ := X4.leave (v := some (.int (1 : Int32))) (fun h => by rw [Bd.returns] at h; cases h) (hlocks := by first | exact BodyLoose.notSynchronized Bd | exact Body.notSynchronized Bd)
  refine ⟨_, _, pre0 _ ?_, hrun, hended, _, _, rfl, ?_, ⟨_, rfl⟩, hW, hsame.mono (by decide) (by decide)⟩
  · show Steps p.tables e below (s₁.setTop (mkF m 0 #[.val (.long q1), .second, .val (.int p2), .val (.int p3), .unset, .unset, .unset, .unset, .unset, .unset, .unset, .unset, .unset, .unset] [])) _
    refine XS.iloadN X0.here hx rfl (hb hby at_0) rfl ?_
    show Steps p.tables e below (s₁.setTop (mkF m 1 #[.val (.long q1), .second, .val (.int p2), .val (.int p3), .unset, .unset, .unset, .unset, .unset, .unset, .unset, .unset, .unset, .unset] [(.int p2)])) _
    refine XS.bipush X0.here hx rfl (hb hby at_1) ?_
    show Steps p.tables e below (s₁.setTop (mkF m 3 #[.val (.long q1), .second, .val (.int p2), .val (.int p3), .unset, .unset, .unset, .unset, .unset, .unset, .unset, .unset, .unset, .unset] [(.int (63 : Int32)), (.int p2)])) _
    refine XS.iand X0.here hx rfl (hb hby at_3) rfl ?_
    show Steps p.tables e below (s₁.setTop (mkF m 4 #[.val (.long q1), .second, .val (.int p2), .val (.int p3), .unset, .unset, .unset, .unset, .unset, .unset, .unset, .unset, .unset, .unset] [(.int (p2 &&& (63 : Int32)))])) _
    refine XS.iconst X0.here hx rfl (hb hby at_4) ?_
    show Steps p.tables e below (s₁.setTop (mkF m 5 #[.val (.long q1), .second, .val (.int p2), .val (.int p3), .unset, .unset, .unset, .unset, .unset, .unset, .unset, .unset, .unset, .unset] [(.int (1 : Int32)), (.int (p2 &&& (63 : Int32)))])) _
    refine XS.iadd X0.here hx rfl (hb hby at_5) rfl ?_
    show Steps p.tables e below (s₁.setTop (mkF m 6 #[.val (.long q1), .second, .val (.int p2), .val (.int p3), .unset, .unset, .unset, .unset, .unset, .unset, .unset, .unset, .unset, .unset] [(.int (own_cn p2))])) _
    refine XS.istore X0.here hx rfl (hb hby at_6) rfl (l' := #[.val (.long q1), .second, .val (.int p2), .val (.int p3), .val (.int (own_cn p2)), .unset, .unset, .unset, .unset, .unset, .unset, .unset, .unset, .unset]) rfl ?_
    show Steps p.tables e below (s₁.setTop (mkF m 8 #[.val (.long q1), .second, .val (.int p2), .val (.int p3), .val (.int (own_cn p2)), .unset, .unset, .unset, .unset, .unset, .unset, .unset, .unset, .unset] [])) _
    refine XS.iloadN X0.here hx rfl (hb hby at_8) rfl ?_
    show Steps p.tables e below (s₁.setTop (mkF m 9 #[.val (.long q1), .second, .val (.int p2), .val (.int p3), .val (.int (own_cn p2)), .unset, .unset, .unset, .unset, .unset, .unset, .unset, .unset, .unset] [(.int p3)])) _
    refine XS.iconst X0.here hx rfl (hb hby at_9) ?_
    show Steps p.tables e below (s₁.setTop (mkF m 10 #[.val (.long q1), .second, .val (.int p2), .val (.int p3), .val (.int (own_cn p2)), .unset, .unset, .unset, .unset, .unset, .unset, .unset, .unset, .unset] [(.int (1 : Int32)), (.int p3)])) _
    refine XS.iand X0.here hx rfl (hb hby at_10) rfl ?_
    show Steps p.tables e below (s₁.setTop (mkF m 11 #[.val (.long q1), .second, .val (.int p2), .val (.int p3), .val (.int (own_cn p2)), .unset, .unset, .unset, .unset, .unset, .unset, .unset, .unset, .unset] [(.int (p3 &&& (1 : Int32)))])) _
    refine XS.ifYes X0.here hx rfl (pc0 := 11) (pc' := 18) rfl (hb hby at_11) rfl ((if0 _ _).trans (teq hc11).1) (by decide) (by decide) ?_
    show Steps p.tables e below (s₁.setTop (mkF m 18 #[.val (.long q1), .second, .val (.int p2), .val (.int p3), .val (.int (own_cn p2)), .unset, .unset, .unset, .unset, .unset, .unset, .unset, .unset, .unset] [])) _
    refine XS.iconst X0.here hx rfl (hb hby at_18) ?_
    show Steps p.tables e below (s₁.setTop (mkF m 19 #[.val (.long q1), .second, .val (.int p2), .val (.int p3), .val (.int (own_cn p2)), .unset, .unset, .unset, .unset, .unset, .unset, .unset, .unset, .unset] [(.int (0 : Int32))])) _
    refine XS.istore X0.here hx rfl (hb hby at_19) rfl (l' := #[.val (.long q1), .second, .val (.int p2), .val (.int p3), .val (.int (own_cn p2)), .val (.int (0 : Int32)), .unset, .unset, .unset, .unset, .unset, .unset, .unset, .unset]) rfl ?_
    show Steps p.tables e below (s₁.setTop (mkF m 21 #[.val (.long q1), .second, .val (.int p2), .val (.int p3), .val (.int (own_cn p2)), .val (.int (0 : Int32)), .unset, .unset, .unset, .unset, .unset, .unset, .unset, .unset] [])) _
    refine XS.lloadN X0.here hx rfl (hb hby at_21) rfl ?_
    show Steps p.tables e below (s₁.setTop (mkF m 22 #[.val (.long q1), .second, .val (.int p2), .val (.int p3), .val (.int (own_cn p2)), .val (.int (0 : Int32)), .unset, .unset, .unset, .unset, .unset, .unset, .unset, .unset] [(.long q1)])) _
    refine XS.iload X0.here hx rfl (hb hby at_22) rfl ?_
    show Steps p.tables e below (s₁.setTop (mkF m 24 #[.val (.long q1), .second, .val (.int p2), .val (.int p3), .val (.int (own_cn p2)), .val (.int (0 : Int32)), .unset, .unset, .unset, .unset, .unset, .unset, .unset, .unset] [(.int (own_cn p2)), (.long q1)])) _
    refine XS.iload X0.here hx rfl (hb hby at_24) rfl ?_
    show Steps p.tables e below (s₁.setTop (mkF m 26 #[.val (.long q1), .second, .val (.int p2), .val (.int p3), .val (.int (own_cn p2)), .val (.int (0 : Int32)), .unset, .unset, .unset, .unset, .unset, .unset, .unset, .unset] [(.int (0 : Int32)), (.int (own_cn p2)), (.long q1)])) _
    refine st4 _ ?_
    show Steps p.tables e below (T4.setTop (mkF m 29 #[.val (.long q1), .second, .val (.int p2), .val (.int p3), .val (.int (own_cn p2)), .val (.int (0 : Int32)), .unset, .unset, .unset, .unset, .unset, .unset, .unset, .unset] [(.long (own_ru q1 p2))])) _
    refine XS.lstore X4.here hx rfl (hb hby at_29) rfl (l' := #[.val (.long q1), .second, .val (.int p2), .val (.int p3), .val (.int (own_cn p2)), .val (.int (0 : Int32)), .val (.long (own_ru q1 p2)), .second, .unset, .unset, .unset, .unset, .unset, .unset]) rfl ?_
    show Steps p.tables e below (T4.setTop (mkF m 31 #[.val (.long q1), .second, .val (.int p2), .val (.int p3), .val (.int (own_cn p2)), .val (.int (0 : Int32)), .val (.long (own_ru q1 p2)), .second, .unset, .unset, .unset, .unset, .unset, .unset] [])) _
    refine XS.iload X4.here hx rfl (hb hby at_31) rfl ?_
    show Steps p.tables e below (T4.setTop (mkF m 33 #[.val (.long q1), .second, .val (.int p2), .val (.int p3), .val (.int (own_cn p2)), .val (.int (0 : Int32)), .val (.long (own_ru q1 p2)), .second, .unset, .unset, .unset, .unset, .unset, .unset] [(.int (own_cn p2))])) _
    refine XS.bipush X4.here hx rfl (hb hby at_33) ?_
    show Steps p.tables e below (T4.setTop (mkF m 35 #[.val (.long q1), .second, .val (.int p2), .val (.int p3), .val (.int (own_cn p2)), .val (.int (0 : Int32)), .val (.long (own_ru q1 p2)), .second, .unset, .unset, .unset, .unset, .unset, .unset] [(.int (64 : Int32)), (.int (own_cn p2))])) _
    refine XS.icmpYes X4.here hx rfl (pc0 := 35) (pc' := 44) rfl (hb hby at_35) rfl (feq hc35).2 (by decide) (by decide) ?_
    show Steps p.tables e below (T4.setTop (mkF m 44 #[.val (.long q1), .second, .val (.int p2), .val (.int p3), .val (.int (own_cn p2)), .val (.int (0 : Int32)), .val (.long (own_ru q1 p2)), .second, .unset, .unset, .unset, .unset, .unset, .unset] [])) _
    refine XS.lconst X4.here hx rfl (hb hby at_44) ?_
    show Steps p.tables e below (T4.setTop (mkF m 45 #[.val (.long q1), .second, .val (.int p2), .val (.int p3), .val (.int (own_cn p2)), .val (.int (0 : Int32)), .val (.long (own_ru q1 p2)), .second, .unset, .unset, .unset, .unset, .unset, .unset] [(.long (1 : Int64))])) _
    refine XS.iload X4.here hx rfl (hb hby at_45) rfl ?_
    show Steps p.tables e below (T4.setTop (mkF m 47 #[.val (.long q1), .second, .val (.int p2), .val (.int p3), .val (.int (own_cn p2)), .val (.int (0 : Int32)), .val (.long (own_ru q1 p2)), .second, .unset, .unset, .unset, .unset, .unset, .unset] [(.int (own_cn p2)), (.long (1 : Int64))])) _
    refine XS.lshl X4.here hx rfl (hb hby at_47) rfl ?_
    show Steps p.tables e below (T4.setTop (mkF m 48 #[.val (.long q1), .second, .val (.int p2), .val (.int p3), .val (.int (own_cn p2)), .val (.int (0 : Int32)), .val (.long (own_ru q1 p2)), .second, .unset, .unset, .unset, .unset, .unset, .unset] [(.long ((1 : Int64) <<< ((own_cn p2) &&& 0x3f).toInt64))])) _
    refine XS.lconst X4.here hx rfl (hb hby at_48) ?_
    show Steps p.tables e below (T4.setTop (mkF m 49 #[.val (.long q1), .second, .val (.int p2), .val (.int p3), .val (.int (own_cn p2)), .val (.int (0 : Int32)), .val (.long (own_ru q1 p2)), .second, .unset, .unset, .unset, .unset, .unset, .unset] [(.long (1 : Int64)), (.long ((1 : Int64) <<< ((own_cn p2) &&& 0x3f).toInt64))])) _
    refine XS.lsub X4.here hx rfl (hb hby at_49) rfl ?_
    show Steps p.tables e below (T4.setTop (mkF m 50 #[.val (.long q1), .second, .val (.int p2), .val (.int p3), .val (.int (own_cn p2)), .val (.int (0 : Int32)), .val (.long (own_ru q1 p2)), .second, .unset, .unset, .unset, .unset, .unset, .unset] [(.long (own_mk p2))])) _
    refine XS.lstore X4.here hx rfl (hb hby at_50) rfl (l' := #[.val (.long q1), .second, .val (.int p2), .val (.int p3), .val (.int (own_cn p2)), .val (.int (0 : Int32)), .val (.long (own_ru q1 p2)), .second, .val (.long (own_mk p2)), .second, .unset, .unset, .unset, .unset]) rfl ?_
    show Steps p.tables e below (T4.setTop (mkF m 52 #[.val (.long q1), .second, .val (.int p2), .val (.int p3), .val (.int (own_cn p2)), .val (.int (0 : Int32)), .val (.long (own_ru q1 p2)), .second, .val (.long (own_mk p2)), .second, .unset, .unset, .unset, .unset] [])) _
    refine XS.lload X4.here hx rfl (hb hby at_52) rfl ?_
    show Steps p.tables e below (T4.setTop (mkF m 54 #[.val (.long q1), .second, .val (.int p2), .val (.int p3), .val (.int (own_cn p2)), .val (.int (0 : Int32)), .val (.long (own_ru q1 p2)), .second, .val (.long (own_mk p2)), .second, .unset, .unset, .unset, .unset] [(.long (own_ru q1 p2))])) _
    refine XS.lloadN X4.here hx rfl (hb hby at_54) rfl ?_
    show Steps p.tables e below (T4.setTop (mkF m 55 #[.val (.long q1), .second, .val (.int p2), .val (.int p3), .val (.int (own_cn p2)), .val (.int (0 : Int32)), .val (.long (own_ru q1 p2)), .second, .val (.long (own_mk p2)), .second, .unset, .unset, .unset, .unset] [(.long q1), (.long (own_ru q1 p2))])) _
    refine XS.lxor X4.here hx rfl (hb hby at_55) rfl ?_
    show Steps p.tables e below (T4.setTop (mkF m 56 #[.val (.long q1), .second, .val (.int p2), .val (.int p3), .val (.int (own_cn p2)), .val (.int (0 : Int32)), .val (.long (own_ru q1 p2)), .second, .val (.long (own_mk p2)), .second, .unset, .unset, .unset, .unset] [(.long ((own_ru q1 p2) ^^^ q1))])) _
    refine XS.lload X4.here hx rfl (hb hby at_56) rfl ?_
    show Steps p.tables e below (T4.setTop (mkF m 58 #[.val (.long q1), .second, .val (.int p2), .val (.int p3), .val (.int (own_cn p2)), .val (.int (0 : Int32)), .val (.long (own_ru q1 p2)), .second, .val (.long (own_mk p2)), .second, .unset, .unset, .unset, .unset] [(.long (own_mk p2)), (.long ((own_ru q1 p2) ^^^ q1))])) _
    refine XS.land X4.here hx rfl (hb hby at_58) rfl ?_
    show Steps p.tables e below (T4.setTop (mkF m 59 #[.val (.long q1), .second, .val (.int p2), .val (.int p3), .val (.int (own_cn p2)), .val (.int (0 : Int32)), .val (.long (own_ru q1 p2)), .second, .val (.long (own_mk p2)), .second, .unset, .unset, .unset, .unset] [(.long (((own_ru q1 p2) ^^^ q1) &&& (own_mk p2)))])) _
    refine XS.lconst X4.here hx rfl (hb hby at_59) ?_
    show Steps p.tables e below (T4.setTop (mkF m 60 #[.val (.long q1), .second, .val (.int p2), .val (.int p3), .val (.int (own_cn p2)), .val (.int (0 : Int32)), .val (.long (own_ru q1 p2)), .second, .val (.long (own_mk p2)), .second, .unset, .unset, .unset, .unset] [(.long (0 : Int64)), (.long (((own_ru q1 p2) ^^^ q1) &&& (own_mk p2)))])) _
    refine XS.lcmp X4.here hx rfl (hb hby at_60) rfl ?_
    show Steps p.tables e below (T4.setTop (mkF m 61 #[.val (.long q1), .second, .val (.int p2), .val (.int p3), .val (.int (own_cn p2)), .val (.int (0 : Int32)), .val (.long (own_ru q1 p2)), .second, .val (.long (own_mk p2)), .second, .unset, .unset, .unset, .unset] [(.int (lcmpW (((own_ru q1 p2) ^^^ q1) &&& (own_mk p2)) (0 : Int64)))])) _
    refine XS.ifNo X4.here hx rfl (hb hby at_61) rfl ((if0 _ _).trans (teq ((lw_eq _ _).mpr hlow : (lcmpW (((own_ru q1 p2) ^^^ q1) &&& (own_mk p2)) (0 : Int64)) = (0 : Int32))).2) ?_
    show Steps p.tables e below (T4.setTop (mkF m 64 #[.val (.long q1), .second, .val (.int p2), .val (.int p3), .val (.int (own_cn p2)), .val (.int (0 : Int32)), .val (.long (own_ru q1 p2)), .second, .val (.long (own_mk p2)), .second, .unset, .unset, .unset, .unset] [])) _
    refine XS.iconst X4.here hx rfl (hb hby at_64) ?_
    show Steps p.tables e below (T4.setTop (mkF m 65 #[.val (.long q1), .second, .val (.int p2), .val (.int p3), .val (.int (own_cn p2)), .val (.int (0 : Int32)), .val (.long (own_ru q1 p2)), .second, .val (.long (own_mk p2)), .second, .unset, .unset, .unset, .unset] [(.int (1 : Int32))])) _
    refine XS.goto X4.here hx rfl (pc0 := 65) (pc' := 69) rfl (hb hby at_65) (by decide) (by decide) ?_
    show Steps p.tables e below (T4.setTop (mkF m 69 #[.val (.long q1), .second, .val (.int p2), .val (.int p3), .val (.int (own_cn p2)), .val (.int (0 : Int32)), .val (.long (own_ru q1 p2)), .second, .val (.long (own_mk p2)), .second, .unset, .unset, .unset, .unset] [(.int (1 : Int32))])) _
    refine XS.istore X4.here hx rfl (hb hby at_69) rfl (l' := #[.val (.long q1), .second, .val (.int p2), .val (.int p3), .val (.int (own_cn p2)), .val (.int (0 : Int32)), .val (.long (own_ru q1 p2)), .second, .val (.long (own_mk p2)), .second, .val (.int (1 : Int32)), .unset, .unset, .unset]) rfl ?_
    show Steps p.tables e below (T4.setTop (mkF m 71 #[.val (.long q1), .second, .val (.int p2), .val (.int p3), .val (.int (own_cn p2)), .val (.int (0 : Int32)), .val (.long (own_ru q1 p2)), .second, .val (.long (own_mk p2)), .second, .val (.int (1 : Int32)), .unset, .unset, .unset] [])) _
    refine XS.iload X4.here hx rfl (hb hby at_71) rfl ?_
    show Steps p.tables e below (T4.setTop (mkF m 73 #[.val (.long q1), .second, .val (.int p2), .val (.int p3), .val (.int (own_cn p2)), .val (.int (0 : Int32)), .val (.long (own_ru q1 p2)), .second, .val (.long (own_mk p2)), .second, .val (.int (1 : Int32)), .unset, .unset, .unset] [(.int (0 : Int32))])) _
    refine XS.ifYes X4.here hx rfl (pc0 := 73) (pc' := 86) rfl (hb hby at_73) rfl ((if0 _ _).trans (teq (rfl : (0 : Int32) = (0 : Int32))).1) (by decide) (by decide) ?_
    show Steps p.tables e below (T4.setTop (mkF m 86 #[.val (.long q1), .second, .val (.int p2), .val (.int p3), .val (.int (own_cn p2)), .val (.int (0 : Int32)), .val (.long (own_ru q1 p2)), .second, .val (.long (own_mk p2)), .second, .val (.int (1 : Int32)), .unset, .unset, .unset] [])) _
    refine XS.lload X4.here hx rfl (hb hby at_86) rfl ?_
    show Steps p.tables e below (T4.setTop (mkF m 88 #[.val (.long q1), .second, .val (.int p2), .val (.int p3), .val (.int (own_cn p2)), .val (.int (0 : Int32)), .val (.long (own_ru q1 p2)), .second, .val (.long (own_mk p2)), .second, .val (.int (1 : Int32)), .unset, .unset, .unset] [(.long (own_ru q1 p2))])) _
    refine XS.iload X4.here hx rfl (hb hby at_88) rfl ?_
    show Steps p.tables e below (T4.setTop (mkF m 90 #[.val (.long q1), .second, .val (.int p2), .val (.int p3), .val (.int (own_cn p2)), .val (.int (0 : Int32)), .val (.long (own_ru q1 p2)), .second, .val (.long (own_mk p2)), .second, .val (.int (1 : Int32)), .unset, .unset, .unset] [(.int (own_cn p2)), (.long (own_ru q1 p2))])) _
    refine XS.iconst X4.here hx rfl (hb hby at_90) ?_
    show Steps p.tables e below (T4.setTop (mkF m 91 #[.val (.long q1), .second, .val (.int p2), .val (.int p3), .val (.int (own_cn p2)), .val (.int (0 : Int32)), .val (.long (own_ru q1 p2)), .second, .val (.long (own_mk p2)), .second, .val (.int (1 : Int32)), .unset, .unset, .unset] [(.int (1 : Int32)), (.int (own_cn p2)), (.long (own_ru q1 p2))])) _
    refine XS.isub X4.here hx rfl (hb hby at_91) rfl ?_
    show Steps p.tables e below (T4.setTop (mkF m 92 #[.val (.long q1), .second, .val (.int p2), .val (.int p3), .val (.int (own_cn p2)), .val (.int (0 : Int32)), .val (.long (own_ru q1 p2)), .second, .val (.long (own_mk p2)), .second, .val (.int (1 : Int32)), .unset, .unset, .unset] [(.int ((own_cn p2) - (1 : Int32))), (.long (own_ru q1 p2))])) _
    refine XS.lushr X4.here hx rfl (hb hby at_92) rfl ?_
    show Steps p.tables e below (T4.setTop (mkF m 93 #[.val (.long q1), .second, .val (.int p2), .val (.int p3), .val (.int (own_cn p2)), .val (.int (0 : Int32)), .val (.long (own_ru q1 p2)), .second, .val (.long (own_mk p2)), .second, .val (.int (1 : Int32)), .unset, .unset, .unset] [(.long (own_tu q1 p2))])) _
    refine XS.lstore X4.here hx rfl (hb hby at_93) rfl (l' := #[.val (.long q1), .second, .val (.int p2), .val (.int p3), .val (.int (own_cn p2)), .val (.int (0 : Int32)), .val (.long (own_ru q1 p2)), .second, .val (.long (own_mk p2)), .second, .val (.int (1 : Int32)), .val (.long (own_tu q1 p2)), .second, .unset]) rfl ?_
    show Steps p.tables e below (T4.setTop (mkF m 95 #[.val (.long q1), .second, .val (.int p2), .val (.int p3), .val (.int (own_cn p2)), .val (.int (0 : Int32)), .val (.long (own_ru q1 p2)), .second, .val (.long (own_mk p2)), .second, .val (.int (1 : Int32)), .val (.long (own_tu q1 p2)), .second, .unset] [])) _
    refine XS.iload X4.here hx rfl (hb hby at_95) rfl ?_
    show Steps p.tables e below (T4.setTop (mkF m 97 #[.val (.long q1), .second, .val (.int p2), .val (.int p3), .val (.int (own_cn p2)), .val (.int (0 : Int32)), .val (.long (own_ru q1 p2)), .second, .val (.long (own_mk p2)), .second, .val (.int (1 : Int32)), .val (.long (own_tu q1 p2)), .second, .unset] [(.int (0 : Int32))])) _
    refine XS.ifYes X4.here hx rfl (pc0 := 97) (pc' := 124) rfl (hb hby at_97) rfl ((if0 _ _).trans (teq (rfl : (0 : Int32) = (0 : Int32))).1) (by decide) (by decide) ?_
    show Steps p.tables e below (T4.setTop (mkF m 124 #[.val (.long q1), .second, .val (.int p2), .val (.int p3), .val (.int (own_cn p2)), .val (.int (0 : Int32)), .val (.long (own_ru q1 p2)), .second, .val (.long (own_mk p2)), .second, .val (.int (1 : Int32)), .val (.long (own_tu q1 p2)), .second, .unset] [])) _
    refine XS.lload X4.here hx rfl (hb hby at_124) rfl ?_
    show Steps p.tables e below (T4.setTop (mkF m 126 #[.val (.long q1), .second, .val (.int p2), .val (.int p3), .val (.int (own_cn p2)), .val (.int (0 : Int32)), .val (.long (own_ru q1 p2)), .second, .val (.long (own_mk p2)), .second, .val (.int (1 : Int32)), .val (.long (own_tu q1 p2)), .second, .unset] [(.long (own_tu q1 p2))])) _
    refine XS.lconst X4.here hx rfl (hb hby at_126) ?_
    show Steps p.tables e below (T4.setTop (mkF m 127 #[.val (.long q1), .second, .val (.int p2), .val (.int p3), .val (.int (own_cn p2)), .val (.int (0 : Int32)), .val (.long (own_ru q1 p2)), .second, .val (.long (own_mk p2)), .second, .val (.int (1 : Int32)), .val (.long (own_tu q1 p2)), .second, .unset] [(.long (0 : Int64)), (.long (own_tu q1 p2))])) _
    refine XS.lcmp X4.here hx rfl (hb hby at_127) rfl ?_
    show Steps p.tables e below (T4.setTop (mkF m 128 #[.val (.long q1), .second, .val (.int p2), .val (.int p3), .val (.int (own_cn p2)), .val (.int (0 : Int32)), .val (.long (own_ru q1 p2)), .second, .val (.long (own_mk p2)), .second, .val (.int (1 : Int32)), .val (.long (own_tu q1 p2)), .second, .unset] [(.int (lcmpW (own_tu q1 p2) (0 : Int64)))])) _
    refine XS.ifYes X4.here hx rfl (pc0 := 128) (pc' := 138) rfl (hb hby at_128) rfl ((if0 _ _).trans (teq ((lw_eq _ _).mpr htop : (lcmpW (own_tu q1 p2) (0 : Int64)) = (0 : Int32))).1) (by decide) (by decide) ?_
    show Steps p.tables e below (T4.setTop (mkF m 138 #[.val (.long q1), .second, .val (.int p2), .val (.int p3), .val (.int (own_cn p2)), .val (.int (0 : Int32)), .val (.long (own_ru q1 p2)), .second, .val (.long (own_mk p2)), .second, .val (.int (1 : Int32)), .val (.long (own_tu q1 p2)), .second, .unset] [])) _
    refine XS.iconst X4.here hx rfl (hb hby at_138) ?_
    show Steps p.tables e below (T4.setTop (mkF m 139 #[.val (.long q1), .second, .val (.int p2), .val (.int p3), .val (.int (own_cn p2)), .val (.int (0 : Int32)), .val (.long (own_ru q1 p2)), .second, .val (.long (own_mk p2)), .second, .val (.int (1 : Int32)), .val (.long (own_tu q1 p2)), .second, .unset] [(.int (1 : Int32))])) _
    refine XS.goto X4.here hx rfl (pc0 := 139) (pc' := 143) rfl (hb hby at_139) (by decide) (by decide) ?_
    show Steps p.tables e below (T4.setTop (mkF m 143 #[.val (.long q1), .second, .val (.int p2), .val (.int p3), .val (.int (own_cn p2)), .val (.int (0 : Int32)), .val (.long (own_ru q1 p2)), .second, .val (.long (own_mk p2)), .second, .val (.int (1 : Int32)), .val (.long (own_tu q1 p2)), .second, .unset] [(.int (1 : Int32))])) _
    refine XS.istore X4.here hx rfl (hb hby at_143) rfl (l' := #[.val (.long q1), .second, .val (.int p2), .val (.int p3), .val (.int (own_cn p2)), .val (.int (0 : Int32)), .val (.long (own_ru q1 p2)), .second, .val (.long (own_mk p2)), .second, .val (.int (1 : Int32)), .val (.long (own_tu q1 p2)), .second, .val (.int (1 : Int32))]) rfl ?_
    show Steps p.tables e below (T4.setTop (mkF m 145 #[.val (.long q1), .second, .val (.int p2), .val (.int p3), .val (.int (own_cn p2)), .val (.int (0 : Int32)), .val (.long (own_ru q1 p2)), .second, .val (.long (own_mk p2)), .second, .val (.int (1 : Int32)), .val (.long (own_tu q1 p2)), .second, .val (.int (1 : Int32))] [])) _
    refine XS.iload X4.here hx rfl (hb hby at_145) rfl ?_
    show Steps p.tables e below (T4.setTop (mkF m 147 #[.val (.long q1), .second, .val (.int p2), .val (.int p3), .val (.int (own_cn p2)), .val (.int (0 : Int32)), .val (.long (own_ru q1 p2)), .second, .val (.long (own_mk p2)), .second, .val (.int (1 : Int32)), .val (.long (own_tu q1 p2)), .second, .val (.int (1 : Int32))] [(.int (1 : Int32))])) _
    refine XS.ifNo X4.here hx rfl (hb hby at_147) rfl ((if0 _ _).trans (feq hc147).1) ?_
    show Steps p.tables e below (T4.setTop (mkF m 150 #[.val (.long q1), .second, .val (.int p2), .val (.int p3), .val (.int (own_cn p2)), .val (.int (0 : Int32)), .val (.long (own_ru q1 p2)), .second, .val (.long (own_mk p2)), .second, .val (.int (1 : Int32)), .val (.long (own_tu q1 p2)), .second, .val (.int (1 : Int32))] [])) _
    refine XS.iload X4.here hx rfl (hb hby at_150) rfl ?_
    show Steps p.tables e below (T4.setTop (mkF m 152 #[.val (.long q1), .second, .val (.int p2), .val (.int p3), .val (.int (own_cn p2)), .val (.int (0 : Int32)), .val (.long (own_ru q1 p2)), .second, .val (.long (own_mk p2)), .second, .val (.int (1 : Int32)), .val (.long (own_tu q1 p2)), .second, .val (.int (1 : Int32))] [(.int (1 : Int32))])) _
    refine XS.ifNo X4.here hx rfl (hb hby at_152) rfl ((if0 _ _).trans (feq hc152).1) ?_
    show Steps p.tables e below (T4.setTop (mkF m 155 #[.val (.long q1), .second, .val (.int p2), .val (.int p3), .val (.int (own_cn p2)), .val (.int (0 : Int32)), .val (.long (own_ru q1 p2)), .second, .val (.long (own_mk p2)), .second, .val (.int (1 : Int32)), .val (.long (own_tu q1 p2)), .second, .val (.int (1 : Int32))] [])) _
    refine XS.iconst X4.here hx rfl (hb hby at_155) ?_
    show Steps p.tables e below (T4.setTop (mkF m 156 #[.val (.long q1), .second, .val (.int p2), .val (.int p3), .val (.int (own_cn p2)), .val (.int (0 : Int32)), .val (.long (own_ru q1 p2)), .second, .val (.long (own_mk p2)), .second, .val (.int (1 : Int32)), .val (.long (own_tu q1 p2)), .second, .val (.int (1 : Int32))] [(.int (1 : Int32))])) _
    refine XS.goto X4.here hx rfl (pc0 := 156) (pc' := 160) rfl (hb hby at_156) (by decide) (by decide) ?_
    show Steps p.tables e below (T4.setTop (mkF m 160 #[.val (.long q1), .second, .val (.int p2), .val (.int p3), .val (.int (own_cn p2)), .val (.int (0 : Int32)), .val (.long (own_ru q1 p2)), .second, .val (.long (own_mk p2)), .second, .val (.int (1 : Int32)), .val (.long (own_tu q1 p2)), .second, .val (.int (1 : Int32))] [(.int (1 : Int32))])) _
    exact retN X4 hx (t := .boolean) Bd.returns (by simp) (hb hby at_160) hr
  · show Q0 Z q1 p2 p3 h0 n0 _ T4.heap _
    exact ⟨rfl, N4⟩
set_option maxRecDepth 65536 in
set_option maxHeartbeats 40000000 in
theorem rm0_8 (l : Launch) (Z : State) (a0 : Array Value) (hw : ∀ d ∈ tables_1, d.before a0 Z = true) (ws : List Jvm.Cond) (q1 : Int64) (p2 : Int32) (p3 : Int32) (h0 : Heap) (n0 : Nat) (Z0 : n0 ≤ h0.size) (hc11 : (p3 &&& (1 : Int32)) = (0 : Int32)) (hc35 : ¬ ((own_cn p2) = (64 : Int32))) (hc147 : ¬ ((1 : Int32) = (0 : Int32))) (hc152 : ¬ ((1 : Int32) = (0 : Int32))) (hlow : ((own_ru q1 p2) ^^^ q1) &&& (own_mk p2) = 0) (hn0 : ¬ (own_tu q1 p2) = 0) (htop : (own_tu q1 p2) = 1) :
    MetFree l x (head1 (Jvm.Cond.code x code maxLocals ret :: ws) room_1) (fun a U => a = #[(.long q1), (.int p2), (.int p3)] ∧ Z.Warmed39 U.vm ∧ U.heap = h0) (fun _ _ _ _ _ => True) (fun _ U o U' => ∃ v L, o = .returned v ∧ Q0 Z q1 p2 p3 h0 n0 v U'.heap L ∧ FrameEnd U o U' L room_1.cells room_1.slots) := by
  refine MetFree.of_bodySF (plainFor_of_name pn_0) hisR ?_
  intro p e s m args below meth c s₁ Bd hml0 hP hK
  obtain ⟨rfl, hZ, hh⟩ := hP
  have hx := Bd.exec
  have hby := Bd.bytes
  have hml : c.maxLocals = 14 := hml0
  have hown : s.vm.findClass "com/example/narrowint/narrowint/codec/BitsFromLowPinLaw" = some m.cls := findClass_of_methodNamed Bd.named
  have hnm := (name_of_methodNamed Bd.named Bd.method).1
  have X0 : Stand p l e room_1 s m #[(.long q1), (.int p2), (.int p3)] below meth c s₁ [] 0 0 := Stand.of_body Bd
  have e0 : s₁.heap = h0 := by rw [← hh, Bd.state]; rfl
  have N0 := Fr.nil n0
  have pre0 : ∀ t, Steps p.tables e below (s₁.setTop (mkF m 0 #[.val (.long q1), .second, .val (.int p2), .val (.int p3), .unset, .unset, .unset, .unset, .unset, .unset, .unset, .unset, .unset, .unset] [])) t → Steps p.tables e below (s₁.setTop (entryFrame m #[(.long q1), (.int p2), (.int p3)] maxLocals)) t := fun t k => castTop (ef_0 m q1 p2 p3) k
  obtain ⟨_, _, ⟨T4, L4, k4, n4⟩, -, X4, ⟨Lc4, hQ4, l4, y4, z4⟩, st4⟩ := Jvm.LawKit.callS X0 hx (y := (⟨"com/example/narrowint/narrowint/codec/Bits", "fromLow", "(JIZ)J"⟩ : MethodName)) hown (mvT hZ (hw _ (List.mem_of_getElem? (i := 0) rfl))) (mvT hZ (hw _ (List.mem_of_getElem? (i := 1) rfl))) (mvT hZ (hw _ (List.mem_of_getElem? (i := 2) rfl))) (mvT hZ (hw _ (List.mem_of_getElem? (i := 3) rfl))) (by decide) (backOf (W := 0) (rm1u l Z a0 hw [] q1 (own_cn p2) (0 : Int32) h0 n0 Z0 (by decide)) hZ (hw _ (List.mem_of_getElem? (i := 3) rfl)) (hw _ (List.mem_of_getElem? (i := 2) rfl)) (by decide) (by decide)) (g := (mkF m 26 #[.val (.long q1), .second, .val (.int p2), .val (.int p3), .val (.int (own_cn p2)), .val (.int (0 : Int32)), .unset, .unset, .unset, .unset, .unset, .unset, .unset, .unset] [(.int (0 : Int32)), (.int (own_cn p2)), (.long q1)])) rfl (by rw [hml]; rfl) (argsL := [(.long q1), (.int (own_cn p2)), (.int (0 : Int32))]) (rest := []) (lenOf pd_0_0 rfl) rfl (by show 2 * 0 + _ ≤ _; exact Nat.le_of_eq rfl) (hb hby at_26) (fun _ _ => ⟨rfl, e0, (by decide : 0 + 0 ≤ _), (by decide : 0 + 0 ≤ _)⟩)
  dsimp only [Pt.U, Pt.locs, Pt.cells, Pt.slots] at X4 l4 y4 z4 st4 hQ4
  subst l4 y4 z4
  obtain ⟨rfl, N4q, e4⟩ := hQ4
  have N4 := Fr.app N0 N4q
  obtain ⟨fs, hr, hrun, hended, hW, hsame⟩ := X4.leave (v := some (.int (1 : Int32))) (fun h => by rw [Bd.returns] at h; cases h) (hlocks := by first | exact BodyLoose.notSynchronized Bd | exact Body.notSynchronized Bd)
  refine ⟨_, _, pre0 _ ?_, hrun, hended, _, _, rfl, ?_, ⟨_, rfl⟩, hW, hsame.mono (by decide) (by decide)⟩
  · show Steps p.tables e below (s₁.setTop (mkF m 0 #[.val (.long q1), .second, .val (.int p2), .val (.int p3), .unset, .unset, .unset, .unset, .unset, .unset, .unset, .unset, .unset, .unset] [])) _
    refine XS.iloadN X0.here hx rfl (hb hby at_0) rfl ?_
    show Steps p.tables e below (s₁.setTop (mkF m 1 #[.val (.long q1), .second, .val (.int p2), .val (.int p3), .unset, .unset, .unset, .unset, .unset, .unset, .unset, .unset, .unset, .unset] [(.int p2)])) _
    refine XS.bipush X0.here hx rfl (hb hby at_1) ?_
    show Steps p.tables e below (s₁.setTop (mkF m 3 #[.val (.long q1), .second, .val (.int p2), .val (.int p3), .unset, .unset, .unset, .unset, .unset, .unset, .unset, .unset, .unset, .unset] [(.int (63 : Int32)), (.int p2)])) _
    refine XS.iand X0.here hx rfl (hb hby at_3) rfl ?_
    show Steps p.tables e below (s₁.setTop (mkF m 4 #[.val (.long q1), .second, .val (.int p2), .val (.int p3), .unset, .unset, .unset, .unset, .unset, .unset, .unset, .unset, .unset, .unset] [(.int (p2 &&& (63 : Int32)))])) _
    refine XS.iconst X0.here hx rfl (hb hby at_4) ?_
    show Steps p.tables e below (s₁.setTop (mkF m 5 #[.val (.long q1), .second, .val (.int p2), .val (.int p3), .unset, .unset, .unset, .unset, .unset, .unset, .unset, .unset, .unset, .unset] [(.int (1 : Int32)), (.int (p2 &&& (63 : Int32)))])) _
    refine XS.iadd X0.here hx rfl (hb hby at_5) rfl ?_
    show Steps p.tables e below (s₁.setTop (mkF m 6 #[.val (.long q1), .second, .val (.int p2), .val (.int p3), .unset, .unset, .unset, .unset, .unset, .unset, .unset, .unset, .unset, .unset] [(.int (own_cn p2))])) _
    refine XS.istore X0.here hx rfl (hb hby at_6) rfl (l' := #[.val (.long q1), .second, .val (.int p2), .val (.int p3), .val (.int (own_cn p2)), .unset, .unset, .unset, .unset, .unset, .unset, .unset, .unset, .unset]) rfl ?_
    show Steps p.tables e below (s₁.setTop (mkF m 8 #[.val (.long q1), .second, .val (.int p2), .val (.int p3), .val (.int (own_cn p2)), .unset, .unset, .unset, .unset, .unset, .unset, .unset, .unset, .unset] [])) _
    refine XS.iloadN X0.here hx rfl (hb hby at_8) rfl ?_
    show Steps p.tables e below (s₁.setTop (mkF m 9 #[.val (.long q1), .second, .val (.int p2), .val (.int p3), .val (.int (own_cn p2)), .unset, .unset, .unset, .unset, .unset, .unset, .unset, .unset, .unset] [(.int p3)])) _
    refine XS.iconst X0.here hx rfl (hb hby at_9) ?_
    show Steps p.tables e below (s₁.setTop (mkF m 10 #[.val (.long q1), .second, .val (.int p2), .val (.int p3), .val (.int (own_cn p2)), .unset, .unset, .unset, .unset, .unset, .unset, .unset, .unset, .unset] [(.int (1 : Int32)), (.int p3)])) _
    refine XS.iand X0.here hx rfl (hb hby at_10) rfl ?_
    show Steps p.tables e below (s₁.setTop (mkF m 11 #[.val (.long q1), .second, .val (.int p2), .val (.int p3), .val (.int (own_cn p2)), .unset, .unset, .unset, .unset, .unset, .unset, .unset, .unset, .unset] [(.int (p3 &&& (1 : Int32)))])) _
    refine XS.ifYes X0.here hx rfl (pc0 := 11) (pc' := 18) rfl (hb hby at_11) rfl ((if0 _ _).trans (teq hc11).1) (by decide) (by decide) ?_
    show Steps p.tables e below (s₁.setTop (mkF m 18 #[.val (.long q1), .second, .val (.int p2), .val (.int p3), .val (.int (own_cn p2)), .unset, .unset, .unset, .unset, .unset, .unset, .unset, .unset, .unset] [])) _
    refine XS.iconst X0.here hx rfl (hb hby at_18) ?_
    show Steps p.tables e below (s₁.setTop (mkF m 19 #[.val (.long q1), .second, .val (.int p2), .val (.int p3), .val (.int (own_cn p2)), .unset, .unset, .unset, .unset, .unset, .unset, .unset, .unset, .unset] [(.int (0 : Int32))])) _
    refine XS.istore X0.here hx rfl (hb hby at_19) rfl (l' := #[.val (.long q1), .second, .val (.int p2), .val (.int p3), .val (.int (own_cn p2)), .val (.int (0 : Int32)), .unset, .unset, .unset, .unset, .unset, .unset, .unset, .unset]) rfl ?_
    show Steps p.tables e below (s₁.setTop (mkF m 21 #[.val (.long q1), .second, .val (.int p2), .val (.int p3), .val (.int (own_cn p2)), .val (.int (0 : Int32)), .unset, .unset, .unset, .unset, .unset, .unset, .unset, .unset] [])) _
    refine XS.lloadN X0.here hx rfl (hb hby at_21) rfl ?_
    show Steps p.tables e below (s₁.setTop (mkF m 22 #[.val (.long q1), .second, .val (.int p2), .val (.int p3), .val (.int (own_cn p2)), .val (.int (0 : Int32)), .unset, .unset, .unset, .unset, .unset, .unset, .unset, .unset] [(.long q1)])) _
    refine XS.iload X0.here hx rfl (hb hby at_22) rfl ?_
    show Steps p.tables e below (s₁.setTop (mkF m 24 #[.val (.long q1), .second, .val (.int p2), .val (.int p3), .val (.int (own_cn p2)), .val (.int (0 : Int32)), .unset, .unset, .unset, .unset, .unset, .unset, .unset, .unset] [(.int (own_cn p2)), (.long q1)])) _
    refine XS.iload X0.here hx rfl (hb hby at_24) rfl ?_
    show Steps p.tables e below (s₁.setTop (mkF m 26 #[.val (.long q1), .second, .val (.int p2), .val (.int p3), .val (.int (own_cn p2)), .val (.int (0 : Int32)), .unset, .unset, .unset, .unset, .unset, .unset, .unset, .unset] [(.int (0 : Int32)), (.int (own_cn p2)), (.long q1)])) _
    refine st4 _ ?_
    show Steps p.tables e below (T4.setTop (mkF m 29 #[.val (.long q1), .second, .val (.int p2), .val (.int p3), .val (.int (own_cn p2)), .val (.int (0 : Int32)), .unset, .unset, .unset, .unset, .unset, .unset, .unset, .unset] [(.long (own_ru q1 p2))])) _
    refine XS.lstore X4.here hx rfl (hb hby at_29) rfl (l' := #[.val (.long q1), .second, .val (.int p2), .val (.int p3), .val (.int (own_cn p2)), .val (.int (0 : Int32)), .val (.long (own_ru q1 p2)), .second, .unset, .unset, .unset, .unset, .unset, .unset]) rfl ?_
    show Steps p.tables e below (T4.setTop (mkF m 31 #[.val (.long q1), .second, .val (.int p2), .val (.int p3), .val (.int (own_cn p2)), .val (.int (0 : Int32)), .val (.long (own_ru q1 p2)), .second, .unset, .unset, .unset, .unset, .unset, .unset] [])) _
    refine XS.iload X4.here hx rfl (hb hby at_31) rfl ?_
    show Steps p.tables e below (T4.setTop (mkF m 33 #[.val (.long q1), .second, .val (.int p2), .val (.int p3), .val (.int (own_cn p2)), .val (.int (0 : Int32)), .val (.long (own_ru q1 p2)), .second, .unset, .unset, .unset, .unset, .unset, .unset] [(.int (own_cn p2))])) _
    refine XS.bipush X4.here hx rfl (hb hby at_33) ?_
    show Steps p.tables e below (T4.setTop (mkF m 35 #[.val (.long q1), .second, .val (.int p2), .val (.int p3), .val (.int (own_cn p2)), .val (.int (0 : Int32)), .val (.long (own_ru q1 p2)), .second, .unset, .unset, .unset, .unset, .unset, .unset] [(.int (64 : Int32)), (.int (own_cn p2))])) _
    refine XS.icmpYes X4.here hx rfl (pc0 := 35) (pc' := 44) rfl (hb hby at_35) rfl (feq hc35).2 (by decide) (by decide) ?_
    show Steps p.tables e below (T4.setTop (mkF m 44 #[.val (.long q1), .second, .val (.int p2), .val (.int p3), .val (.int (own_cn p2)), .val (.int (0 : Int32)), .val (.long (own_ru q1 p2)), .second, .unset, .unset, .unset, .unset, .unset, .unset] [])) _
    refine XS.lconst X4.here hx rfl (hb hby at_44) ?_
    show Steps p.tables e below (T4.setTop (mkF m 45 #[.val (.long q1), .second, .val (.int p2), .val (.int p3), .val (.int (own_cn p2)), .val (.int (0 : Int32)), .val (.long (own_ru q1 p2)), .second, .unset, .unset, .unset, .unset, .unset, .unset] [(.long (1 : Int64))])) _
    refine XS.iload X4.here hx rfl (hb hby at_45) rfl ?_
    show Steps p.tables e below (T4.setTop (mkF m 47 #[.val (.long q1), .second, .val (.int p2), .val (.int p3), .val (.int (own_cn p2)), .val (.int (0 : Int32)), .val (.long (own_ru q1 p2)), .second, .unset, .unset, .unset, .unset, .unset, .unset] [(.int (own_cn p2)), (.long (1 : Int64))])) _
    refine XS.lshl X4.here hx rfl (hb hby at_47) rfl ?_
    show Steps p.tables e below (T4.setTop (mkF m 48 #[.val (.long q1), .second, .val (.int p2), .val (.int p3), .val (.int (own_cn p2)), .val (.int (0 : Int32)), .val (.long (own_ru q1 p2)), .second, .unset, .unset, .unset, .unset, .unset, .unset] [(.long ((1 : Int64) <<< ((own_cn p2) &&& 0x3f).toInt64))])) _
    refine XS.lconst X4.here hx rfl (hb hby at_48) ?_
    show Steps p.tables e below (T4.setTop (mkF m 49 #[.val (.long q1), .second, .val (.int p2), .val (.int p3), .val (.int (own_cn p2)), .val (.int (0 : Int32)), .val (.long (own_ru q1 p2)), .second, .unset, .unset, .unset, .unset, .unset, .unset] [(.long (1 : Int64)), (.long ((1 : Int64) <<< ((own_cn p2) &&& 0x3f).toInt64))])) _
    refine XS.lsub X4.here hx rfl (hb hby at_49) rfl ?_
    show Steps p.tables e below (T4.setTop (mkF m 50 #[.val (.long q1), .second, .val (.int p2), .val (.int p3), .val (.int (own_cn p2)), .val (.int (0 : Int32)), .val (.long (own_ru q1 p2)), .second, .unset, .unset, .unset, .unset, .unset, .unset] [(.long (own_mk p2))])) _
    refine XS.lstore X4.here hx rfl (hb hby at_50) rfl (l' := #[.val (.long q1), .second, .val (.int p2), .val (.int p3), .val (.int (own_cn p2)), .val (.int (0 : Int32)), .val (.long (own_ru q1 p2)), .second, .val (.long (own_mk p2)), .second, .unset, .unset, .unset, .unset]) rfl ?_
    show Steps p.tables e below (T4.setTop (mkF m 52 #[.val (.long q1), .second, .val (.int p2), .val (.int p3), .val (.int (own_cn p2)), .val (.int (0 : Int32)), .val (.long (own_ru q1 p2)), .second, .val (.long (own_mk p2)), .second, .unset, .unset, .unset, .unset] [])) _
    refine XS.lload X4.here hx rfl (hb hby at_52) rfl ?_
    show Steps p.tables e below (T4.setTop (mkF m 54 #[.val (.long q1), .second, .val (.int p2), .val (.int p3), .val (.int (own_cn p2)), .val (.int (0 : Int32)), .val (.long (own_ru q1 p2)), .second, .val (.long (own_mk p2)), .second, .unset, .unset, .unset, .unset] [(.long (own_ru q1 p2))])) _
    refine XS.lloadN X4.here hx rfl (hb hby at_54) rfl ?_
    show Steps p.tables e below (T4.setTop (mkF m 55 #[.val (.long q1), .second, .val (.int p2), .val (.int p3), .val (.int (own_cn p2)), .val (.int (0 : Int32)), .val (.long (own_ru q1 p2)), .second, .val (.long (own_mk p2)), .second, .unset, .unset, .unset, .unset] [(.long q1), (.long (own_ru q1 p2))])) _
    refine XS.lxor X4.here hx rfl (hb hby at_55) rfl ?_
    show Steps p.tables e below (T4.setTop (mkF m 56 #[.val (.long q1), .second, .val (.int p2), .val (.int p3), .val (.int (own_cn p2)), .val (.int (0 : Int32)), .val (.long (own_ru q1 p2)), .second, .val (.long (own_mk p2)), .second, .unset, .unset, .unset, .unset] [(.long ((own_ru q1 p2) ^^^ q1))])) _
    refine XS.lload X4.here hx rfl (hb hby at_56) rfl ?_
    show Steps p.tables e below (T4.setTop (mkF m 58 #[.val (.long q1), .second, .val (.int p2), .val (.int p3), .val (.int (own_cn p2)), .val (.int (0 : Int32)), .val (.long (own_ru q1 p2)), .second, .val (.long (own_mk p2)), .second, .unset, .unset, .unset, .unset] [(.long (own_mk p2)), (.long ((own_ru q1 p2) ^^^ q1))])) _
    refine XS.land X4.here hx rfl (hb hby at_58) rfl ?_
    show Steps p.tables e below (T4.setTop (mkF m 59 #[.val (.long q1), .second, .val (.int p2), .val (.int p3), .val (.int (own_cn p2)), .val (.int (0 : Int32)), .val (.long (own_ru q1 p2)), .second, .val (.long (own_mk p2)), .second, .unset, .unset, .unset, .unset] [(.long (((own_ru q1 p2) ^^^ q1) &&& (own_mk p2)))])) _
    refine XS.lconst X4.here hx rfl (hb hby at_59) ?_
    show Steps p.tables e below (T4.setTop (mkF m 60 #[.val (.long q1), .second, .val (.int p2), .val (.int p3), .val (.int (own_cn p2)), .val (.int (0 : Int32)), .val (.long (own_ru q1 p2)), .second, .val (.long (own_mk p2)), .second, .unset, .unset, .unset, .unset] [(.long (0 : Int64)), (.long (((own_ru q1 p2) ^^^ q1) &&& (own_mk p2)))])) _
    refine XS.lcmp X4.here hx rfl (hb hby at_60) rfl ?_
    show Steps p.tables e below (T4.setTop (mkF m 61 #[.val (.long q1), .second, .val (.int p2), .val (.int p3), .val (.int (own_cn p2)), .val (.int (0 : Int32)), .val (.long (own_ru q1 p2)), .second, .val (.long (own_mk p2)), .second, .unset, .unset, .unset, .unset] [(.int (lcmpW (((own_ru q1 p2) ^^^ q1) &&& (own_mk p2)) (0 : Int64)))])) _
    refine XS.ifNo X4.here hx rfl (hb hby at_61) rfl ((if0 _ _).trans (teq ((lw_eq _ _).mpr hlow : (lcmpW (((own_ru q1 p2) ^^^ q1) &&& (own_mk p2)) (0 : Int64)) = (0 : Int32))).2) ?_
    show Steps p.tables e below (T4.setTop (mkF m 64 #[.val (.long q1), .second, .val (.int p2), .val (.int p3), .val (.int (own_cn p2)), .val (.int (0 : Int32)), .val (.long (own_ru q1 p2)), .second, .val (.long (own_mk p2)), .second, .unset, .unset, .unset, .unset] [])) _
    refine XS.iconst X4.here hx rfl (hb hby at_64) ?_
    show Steps p.tables e below (T4.setTop (mkF m 65 #[.val (.long q1), .second, .val (.int p2), .val (.int p3), .val (.int (own_cn p2)), .val (.int (0 : Int32)), .val (.long (own_ru q1 p2)), .second, .val (.long (own_mk p2)), .second, .unset, .unset, .unset, .unset] [(.int (1 : Int32))])) _
    refine XS.goto X4.here hx rfl (pc0 := 65) (pc' := 69) rfl (hb hby at_65) (by decide) (by decide) ?_
    show Steps p.tables e below (T4.setTop (mkF m 69 #[.val (.long q1), .second, .val (.int p2), .val (.int p3), .val (.int (own_cn p2)), .val (.int (0 : Int32)), .val (.long (own_ru q1 p2)), .second, .val (.long (own_mk p2)), .second, .unset, .unset, .unset, .unset] [(.int (1 : Int32))])) _
    refine XS.istore X4.here hx rfl (hb hby at_69) rfl (l' := #[.val (.long q1), .second, .val (.int p2), .val (.int p3), .val (.int (own_cn p2)), .val (.int (0 : Int32)), .val (.long (own_ru q1 p2)), .second, .val (.long (own_mk p2)), .second, .val (.int (1 : Int32)), .unset, .unset, .unset]) rfl ?_
    show Steps p.tables e below (T4.setTop (mkF m 71 #[.val (.long q1), .second, .val (.int p2), .val (.int p3), .val (.int (own_cn p2)), .val (.int (0 : Int32)), .val (.long (own_ru q1 p2)), .second, .val (.long (own_mk p2)), .second, .val (.int (1 : Int32)), .unset, .unset, .unset] [])) _
    refine XS.iload X4.here hx rfl (hb hby at_71) rfl ?_
    show Steps p.tables e below (T4.setTop (mkF m 73 #[.val (.long q1), .second, .val (.int p2), .val (.int p3), .val (.int (own_cn p2)), .val (.int (0 : Int32)), .val (.long (own_ru q1 p2)), .second, .val (.long (own_mk p2)), .second, .val (.int (1 : Int32)), .unset, .unset, .unset] [(.int (0 : Int32))])) _
    refine XS.ifYes X4.here hx rfl (pc0 := 73) (pc' := 86) rfl (hb hby at_73) rfl ((if0 _ _).trans (teq (rfl : (0 : Int32) = (0 : Int32))).1) (by decide) (by decide) ?_
    show Steps p.tables e below (T4.setTop (mkF m 86 #[.val (.long q1), .second, .val (.int p2), .val (.int p3), .val (.int (own_cn p2)), .val (.int (0 : Int32)), .val (.long (own_ru q1 p2)), .second, .val (.long (own_mk p2)), .second, .val (.int (1 : Int32)), .unset, .unset, .unset] [])) _
    refine XS.lload X4.here hx rfl (hb hby at_86) rfl ?_
    show Steps p.tables e below (T4.setTop (mkF m 88 #[.val (.long q1), .second, .val (.int p2), .val (.int p3), .val (.int (own_cn p2)), .val (.int (0 : Int32)), .val (.long (own_ru q1 p2)), .second, .val (.long (own_mk p2)), .second, .val (.int (1 : Int32)), .unset, .unset, .unset] [(.long (own_ru q1 p2))])) _
    refine XS.iload X4.here hx rfl (hb hby at_88) rfl ?_
    show Steps p.tables e below (T4.setTop (mkF m 90 #[.val (.long q1), .second, .val (.int p2), .val (.int p3), .val (.int (own_cn p2)), .val (.int (0 : Int32)), .val (.long (own_ru q1 p2)), .second, .val (.long (own_mk p2)), .second, .val (.int (1 : Int32)), .unset, .unset, .unset] [(.int (own_cn p2)), (.long (own_ru q1 p2))])) _
    refine XS.iconst X4.here hx rfl (hb hby at_90) ?_
    show Steps p.tables e below (T4.setTop (mkF m 91 #[.val (.long q1), .second, .val (.int p2), .val (.int p3), .val (.int (own_cn p2)), .val (.int (0 : Int32)), .val (.long (own_ru q1 p2)), .second, .val (.long (own_mk p2)), .second, .val (.int (1 : Int32)), .unset, .unset, .unset] [(.int (1 : Int32)), (.int (own_cn p2)), (.long (own_ru q1 p2))])) _
    refine XS.isub X4.here hx rfl (hb hby at_91) rfl ?_
    show Steps p.tables e below (T4.setTop (mkF m 92 #[.val (.long q1), .second, .val (.int p2), .val (.int p3), .val (.int (own_cn p2)), .val (.int (0 : Int32)), .val (.long (own_ru q1 p2)), .second, .val (.long (own_mk p2)), .second, .val (.int (1 : Int32)), .unset, .unset, .unset] [(.int ((own_cn p2) - (1 : Int32))), (.long (own_ru q1 p2))])) _
    refine XS.lushr X4.here hx rfl (hb hby at_92) rfl ?_
    show Steps p.tables e below (T4.setTop (mkF m 93 #[.val (.long q1), .second, .val (.int p2), .val (.int p3), .val (.int (own_cn p2)), .val (.int (0 : Int32)), .val (.long (own_ru q1 p2)), .second, .val (.long (own_mk p2)), .second, .val (.int (1 : Int32)), .unset, .unset, .unset] [(.long (own_tu q1 p2))])) _
    refine XS.lstore X4.here hx rfl (hb hby at_93) rfl (l' := #[.val (.long q1), .second, .val (.int p2), .val (.int p3), .val (.int (own_cn p2)), .val (.int (0 : Int32)), .val (.long (own_ru q1 p2)), .second, .val (.long (own_mk p2)), .second, .val (.int (1 : Int32)), .val (.long (own_tu q1 p2)), .second, .unset]) rfl ?_
    show Steps p.tables e below (T4.setTop (mkF m 95 #[.val (.long q1), .second, .val (.int p2), .val (.int p3), .val (.int (own_cn p2)), .val (.int (0 : Int32)), .val (.long (own_ru q1 p2)), .second, .val (.long (own_mk p2)), .second, .val (.int (1 : Int32)), .val (.long (own_tu q1 p2)), .second, .unset] [])) _
    refine XS.iload X4.here hx rfl (hb hby at_95) rfl ?_
    show Steps p.tables e below (T4.setTop (mkF m 97 #[.val (.long q1), .second, .val (.int p2), .val (.int p3), .val (.int (own_cn p2)), .val (.int (0 : Int32)), .val (.long (own_ru q1 p2)), .second, .val (.long (own_mk p2)), .second, .val (.int (1 : Int32)), .val (.long (own_tu q1 p2)), .second, .unset] [(.int (0 : Int32))])) _
    refine XS.ifYes X4.here hx rfl (pc0 := 97) (pc' := 124) rfl (hb hby at_97) rfl ((if0 _ _).trans (teq (rfl : (0 : Int32) = (0 : Int32))).1) (by decide) (by decide) ?_
    show Steps p.tables e below (T4.setTop (mkF m 124 #[.val (.long q1), .second, .val (.int p2), .val (.int p3), .val (.int (own_cn p2)), .val (.int (0 : Int32)), .val (.long (own_ru q1 p2)), .second, .val (.long (own_mk p2)), .second, .val (.int (1 : Int32)), .val (.long (own_tu q1 p2)), .second, .unset] [])) _
    refine XS.lload X4.here hx rfl (hb hby at_124) rfl ?_
    show Steps p.tables e below (T4.setTop (mkF m 126 #[.val (.long q1), .second, .val (.int p2), .val (.int p3), .val (.int (own_cn p2)), .val (.int (0 : Int32)), .val (.long (own_ru q1 p2)), .second, .val (.long (own_mk p2)), .second, .val (.int (1 : Int32)), .val (.long (own_tu q1 p2)), .second, .unset] [(.long (own_tu q1 p2))])) _
    refine XS.lconst X4.here hx rfl (hb hby at_126) ?_
    show Steps p.tables e below (T4.setTop (mkF m 127 #[.val (.long q1), .second, .val (.int p2), .val (.int p3), .val (.int (own_cn p2)), .val (.int (0 : Int32)), .val (.long (own_ru q1 p2)), .second, .val (.long (own_mk p2)), .second, .val (.int (1 : Int32)), .val (.long (own_tu q1 p2)), .second, .unset] [(.long (0 : Int64)), (.long (own_tu q1 p2))])) _
    refine XS.lcmp X4.here hx rfl (hb hby at_127) rfl ?_
    show Steps p.tables e below (T4.setTop (mkF m 128 #[.val (.long q1), .second, .val (.int p2), .val (.int p3), .val (.int (own_cn p2)), .val (.int (0 : Int32)), .val (.long (own_ru q1 p2)), .second, .val (.long (own_mk p2)), .second, .val (.int (1 : Int32)), .val (.long (own_tu q1 p2)), .second, .unset] [(.int (lcmpW (own_tu q1 p2) (0 : Int64)))])) _
    refine XS.ifNo X4.here hx rfl (hb hby at_128) rfl ((if0 _ _).trans (feq ((fun h => hn0 ((lw_eq _ _).mp h)) : ¬ ((lcmpW (own_tu q1 p2) (0 : Int64)) = (0 : Int32)))).1) ?_
    show Steps p.tables e below (T4.setTop (mkF m 131 #[.val (.long q1), .second, .val (.int p2), .val (.int p3), .val (.int (own_cn p2)), .val (.int (0 : Int32)), .val (.long (own_ru q1 p2)), .second, .val (.long (own_mk p2)), .second, .val (.int (1 : Int32)), .val (.long (own_tu q1 p2)), .second, .unset] [])) _
    refine XS.lload X4.here hx rfl (hb hby at_131) rfl ?_
    show Steps p.tables e below (T4.setTop (mkF m 133 #[.val (.long q1), .second, .val (.int p2), .val (.int p3), .val (.int (own_cn p2)), .val (.int (0 : Int32)), .val (.long (own_ru q1 p2)), .second, .val (.long (own_mk p2)), .second, .val (.int (1 : Int32)), .val (.long (own_tu q1 p2)), .second, .unset] [(.long (own_tu q1 p2))])) _
    refine XS.lconst X4.here hx rfl (hb hby at_133) ?_
    show Steps p.tables e below (T4.setTop (mkF m 134 #[.val (.long q1), .second, .val (.int p2), .val (.int p3), .val (.int (own_cn p2)), .val (.int (0 : Int32)), .val (.long (own_ru q1 p2)), .second, .val (.long (own_mk p2)), .second, .val (.int (1 : Int32)), .val (.long (own_tu q1 p2)), .second, .unset] [(.long (1 : Int64)), (.long (own_tu q1 p2))])) _
    refine XS.lcmp X4.here hx rfl (hb hby at_134) rfl ?_
    show Steps p.tables e below (T4.setTop (mkF m 135 #[.val (.long q1), .second, .val (.int p2), .val (.int p3), .val (.int (own_cn p2)), .val (.int (0 : Int32)), .val (.long (own_ru q1 p2)), .second, .val (.long (own_mk p2)), .second, .val (.int (1 : Int32)), .val (.long (own_tu q1 p2)), .second, .unset] [(.int (lcmpW (own_tu q1 p2) (1 : Int64)))])) _
    refine XS.ifNo X4.here hx rfl (hb hby at_135) rfl ((if0 _ _).trans (teq ((lw_eq _ _).mpr htop : (lcmpW (own_tu q1 p2) (1 : Int64)) = (0 : Int32))).2) ?_
    show Steps p.tables e below (T4.setTop (mkF m 138 #[.val (.long q1), .second, .val (.int p2), .val (.int p3), .val (.int (own_cn p2)), .val (.int (0 : Int32)), .val (.long (own_ru q1 p2)), .second, .val (.long (own_mk p2)), .second, .val (.int (1 : Int32)), .val (.long (own_tu q1 p2)), .second, .unset] [])) _
    refine XS.iconst X4.here hx rfl (hb hby at_138) ?_
    show Steps p.tables e below (T4.setTop (mkF m 139 #[.val (.long q1), .second, .val (.int p2), .val (.int p3), .val (.int (own_cn p2)), .val (.int (0 : Int32)), .val (.long (own_ru q1 p2)), .second, .val (.long (own_mk p2)), .second, .val (.int (1 : Int32)), .val (.long (own_tu q1 p2)), .second, .unset] [(.int (1 : Int32))])) _
    refine XS.goto X4.here hx rfl (pc0 := 139) (pc' := 143) rfl (hb hby at_139) (by decide) (by decide) ?_
    show Steps p.tables e below (T4.setTop (mkF m 143 #[.val (.long q1), .second, .val (.int p2), .val (.int p3), .val (.int (own_cn p2)), .val (.int (0 : Int32)), .val (.long (own_ru q1 p2)), .second, .val (.long (own_mk p2)), .second, .val (.int (1 : Int32)), .val (.long (own_tu q1 p2)), .second, .unset] [(.int (1 : Int32))])) _
    refine XS.istore X4.here hx rfl (hb hby at_143) rfl (l' := #[.val (.long q1), .second, .val (.int p2), .val (.int p3), .val (.int (own_cn p2)), .val (.int (0 : Int32)), .val (.long (own_ru q1 p2)), .second, .val (.long (own_mk p2)), .second, .val (.int (1 : Int32)), .val (.long (own_tu q1 p2)), .second, .val (.int (1 : Int32))]) rfl ?_
    show Steps p.tables e below (T4.setTop (mkF m 145 #[.val (.long q1), .second, .val (.int p2), .val (.int p3), .val (.int (own_cn p2)), .val (.int (0 : Int32)), .val (.long (own_ru q1 p2)), .second, .val (.long (own_mk p2)), .second, .val (.int (1 : Int32)), .val (.long (own_tu q1 p2)), .second, .val (.int (1 : Int32))] [])) _
    refine XS.iload X4.here hx rfl (hb hby at_145) rfl ?_
    show Steps p.tables e below (T4.setTop (mkF m 147 #[.val (.long q1), .second, .val (.int p2), .val (.int p3), .val (.int (own_cn p2)), .val (.int (0 : Int32)), .val (.long (own_ru q1 p2)), .second, .val (.long (own_mk p2)), .second, .val (.int (1 : Int32)), .val (.long (own_tu q1 p2)), .second, .val (.int (1 : Int32))] [(.int (1 : Int32))])) _
    refine XS.ifNo X4.here hx rfl (hb hby at_147) rfl ((if0 _ _).trans (feq hc147).1) ?_
    show Steps p.tables e below (T4.setTop (mkF m 150 #[.val (.long q1), .second, .val (.int p2), .val (.int p3), .val (.int (own_cn p2)), .val (.int (0 : Int32)), .val (.long (own_ru q1 p2)), .second, .val (.long (own_mk p2)), .second, .val (.int (1 : Int32)), .val (.long (own_tu q1 p2)), .second, .val (.int (1 : Int32))] [])) _
    refine XS.iload X4.here hx rfl (hb hby at_150) rfl ?_
    show Steps p.tables e below (T4.setTop (mkF m 152 #[.val (.long q1), .second, .val (.int p2), .val (.int p3), .val (.int (own_cn p2)), .val (.int (0 : Int32)), .val (.long (own_ru q1 p2)), .second, .val (.long (own_mk p2)), .second, .val (.int (1 : Int32)), .val (.long (own_tu q1 p2)), .second, .val (.int (1 : Int32))] [(.int (1 : Int32))])) _
    refine XS.ifNo X4.here hx rfl (hb hby at_152) rfl ((if0 _ _).trans (feq hc152).1) ?_
    show Steps p.tables e below (T4.setTop (mkF m 155 #[.val (.long q1), .second, .val (.int p2), .val (.int p3), .val (.int (own_cn p2)), .val (.int (0 : Int32)), .val (.long (own_ru q1 p2)), .second, .val (.long (own_mk p2)), .second, .val (.int (1 : Int32)), .val (.long (own_tu q1 p2)), .second, .val (.int (1 : Int32))] [])) _
    refine XS.iconst X4.here hx rfl (hb hby at_155) ?_
    show Steps p.tables e below (T4.setTop (mkF m 156 #[.val (.long q1), .second, .val (.int p2), .val (.int p3), .val (.int (own_cn p2)), .val (.int (0 : Int32)), .val (.long (own_ru q1 p2)), .second, .val (.long (own_mk p2)), .second, .val (.int (1 : Int32)), .val (.long (own_tu q1 p2)), .second, .val (.int (1 : Int32))] [(.int (1 : Int32))])) _
    refine XS.goto X4.here hx rfl (pc0 := 156) (pc' := 160) rfl (hb hby at_156) (by decide) (by decide) ?_
    show Steps p.tables e below (T4.setTop (mkF m 160 #[.val (.long q1), .second, .val (.int p2), .val (.int p3), .val (.int (own_cn p2)), .val (.int (0 : Int32)), .val (.long (own_ru q1 p2)), .second, .val (.long (own_mk p2)), .second, .val (.int (1 : Int32)), .val (.long (own_tu q1 p2)), .second, .val (.int (1 : Int32))] [(.int (1 : Int32))])) _
    exact retN X4 hx (t := .boolean) Bd.returns (by simp) (hb hby at_160) hr
  · show Q0 Z q1 p2 p3 h0 n0 _ T4.heap _
    exact ⟨rfl, N4⟩
set_option maxRecDepth 65536 in
set_option maxHeartbeats 40000000 in
theorem rm0 (l : Launch) (Z : State) (a0 : Array Value) (hw : ∀ d ∈ tables_1, d.before a0 Z = true) (ws : List Jvm.Cond) (q1 : Int64) (p2 : Int32) (p3 : Int32) (h0 : Heap) (n0 : Nat) (Z0 : n0 ≤ h0.size) :
    MetFree l x (head1 (Jvm.Cond.code x code maxLocals ret :: ws) room_1) (fun a U => a = #[(.long q1), (.int p2), (.int p3)] ∧ Z.Warmed39 U.vm ∧ U.heap = h0) (fun _ _ _ _ _ => True) (fun _ U o U' => ∃ v L, o = .returned v ∧ Q0 Z q1 p2 p3 h0 n0 v U'.heap L ∧ FrameEnd U o U' L room_1.cells room_1.slots) := by
  by_cases c1 : (p3 &&& (1 : Int32)) = (0 : Int32)
  · by_cases c2 : own_cn p2 = (64 : Int32)
    · by_cases c3 : own_tu q1 p2 = 0
      · exact rm0_5 l Z a0 hw ws q1 p2 p3 h0 n0 Z0 c1 c2 (by decide) (by decide) (own_low_u64 q1 p2 c2) c3
      · exact rm0_6 l Z a0 hw ws q1 p2 p3 h0 n0 Z0 c1 c2 (by decide) (by decide) (own_low_u64 q1 p2 c2) c3 ((own_top_u q1 p2).resolve_left c3)
    · by_cases c3 : own_tu q1 p2 = 0
      · exact rm0_7 l Z a0 hw ws q1 p2 p3 h0 n0 Z0 c1 c2 (by decide) (by decide) (own_low_u q1 p2 c2) c3
      · exact rm0_8 l Z a0 hw ws q1 p2 p3 h0 n0 Z0 c1 c2 (by decide) (by decide) (own_low_u q1 p2 c2) c3 ((own_top_u q1 p2).resolve_left c3)
  · by_cases c2 : own_cn p2 = (64 : Int32)
    · by_cases c3 : own_ts q1 p2 = 0
      · exact rm0_1 l Z a0 hw ws q1 p2 p3 h0 n0 Z0 c1 c2 (by decide) (by decide) (by decide) (by decide) (own_low_s64 q1 p2 c2) c3
      · exact rm0_2 l Z a0 hw ws q1 p2 p3 h0 n0 Z0 c1 c2 (by decide) (by decide) (by decide) (by decide) (own_low_s64 q1 p2 c2) c3 ((own_top_s q1 p2).resolve_left c3)
    · by_cases c3 : own_ts q1 p2 = 0
      · exact rm0_3 l Z a0 hw ws q1 p2 p3 h0 n0 Z0 c1 c2 (by decide) (by decide) (by decide) (by decide) (own_low_s q1 p2 c2) c3
      · exact rm0_4 l Z a0 hw ws q1 p2 p3 h0 n0 Z0 c1 c2 (by decide) (by decide) (by decide) (by decide) (own_low_s q1 p2 c2) c3 ((own_top_s q1 p2).resolve_left c3)
set_option maxRecDepth 65536 in
set_option maxHeartbeats 40000000 in
theorem comes_1 {Post : Tables → Env → Array Value → State → Outcome → State → Prop} (hpost : ∀ tb e args s v u, (limb_1_1.after args s (.returned v) u = true ∧ limb_1_2.after args s (.returned v) u = true ∧ True) → FrameEnd s (.returned v) u (Jvm.fieldLocs frame_1_writes args s ++ Jvm.arrayLocs frame_1_arrays args s ++ Jvm.staticLocs frame_1_statics s) 0 0 → Post tb e args s (.returned v) u) :
    ArmFor flags0 classFile x code maxLocals ret World_1 tables_1 room_1 Calls_1 rest_1 Pre_1 Post := by
  intro l hfl _ _ p e ha hc hk s m args below hf hA hF happ hP
  obtain ⟨hcalls, hrest, hpre⟩ := hP
  obtain ⟨-, -, -, hnamed, -, -, -, hat⟩ := (Spec.applies_iff hf).mp happ
  obtain ⟨hg, hn⟩ := and_e (Cond.before_iff.mp (show (Jvm.Cond.and given_1 narrow_1).before args s = true from hpre))
  obtain ⟨g5, g6⟩ := and_e hg
  obtain ⟨g7, g8⟩ := and_e g6
  obtain ⟨g9, g10⟩ := and_e g8
  obtain ⟨w0, w1, w2, rfl⟩ : ∃ w0 w1 w2 : Value, args = #[w0, w1, w2] := by
    have hs : args.size = 3 := by simpa [Cond.value, given_1] using g5
    obtain ⟨L⟩ := args
    match L, hs with
    | [w0, w1, w2], _ => exact ⟨w0, w1, w2, rfl⟩
  have hw := fun d (hd : d ∈ tables_1) => atoms_spec (ws := Jvm.Cond.code x code maxLocals ret :: tables_1) hat d (List.mem_cons_of_mem _ hd)
  have hfit : Fit s := fun {y c} hc i hi => by
    obtain ⟨ha, rfl⟩ := Array.getElem?_eq_some_iff.mp hc
    have q := List.all_eq_true.mp ((Array.all_eq_true_iff_forall_mem.mp hF) _ (Array.getElem_mem ha)) i (List.mem_range.mpr hi)
    simpa [Array.getElem?_eq_getElem hi] using q
  obtain ⟨i0, ei0⟩ := isL_v g7
  obtain rfl : w0 = (.long i0) := Option.some.inj ei0
  obtain ⟨i1, ei1⟩ := is_v g9
  obtain rfl : w1 = (.int i1) := Option.some.inj ei1
  obtain ⟨i2, ei2⟩ := is_v g10
  obtain rfl : w2 = (.int i2) := Option.some.inj ei2
  obtain ⟨n, o, h1, h2, h3, _, L, rfl, ⟨rfl, N⟩, hq⟩ := rm0 l s _ hw tables_1 i0 i1 i2 s.heap s.heap.size (Nat.le_refl _)  p e ha hc hk s m _ below hf ((Spec.applies_iff_loose hf).mp happ).1 ⟨rfl, State.Warmed39.refl s, rfl⟩ trivial
  refine ⟨n, _, h1, h2, h3, hpost _ _ _ _ _ _ ⟨Cond.after_iff.mpr rfl, Cond.after_iff.mpr (eq_i res_at (Term.int_eval (1)) rfl), trivial⟩ ⟨hq.1, hq.2.1, (hq.2.2.sift fun y hy => Or.inr (N y hy)).mono (by decide) (by decide)⟩⟩
theorem main_1_1 : Claimed_1_1 := comes_1 fun _ _ _ _ _ _ h hF => ⟨h.1, hF⟩
theorem main_1_2 : Claimed_1_2 := comes_1 fun _ _ _ _ _ _ h hF => ⟨h.2.1, hF⟩
end Jvm.Pilot.@@N@@
namespace Jvm.Pilot.@@N@@
open Jvm Jvm.ClassFile Sem Op Lib Jvm.Free Jvm.Stand Jvm.Pilot.@@N@@.Jvm.D
/-! MADE BY PROGRAM (witnessworld.py) out of the Statement's table words and the real class files: 9 classes; the members and pool entries that the words name. The judged class is class 1, her method 1. -/
namespace start1
open Jvm.ClassFile
def u (s : String) : CpInfo := .utf8 (stringToUtf16 s)
/-- a pool by its gaps: so many unusable entries, then the entry; so many at the end -/
def gap : Nat → List CpInfo → List CpInfo
  | 0, r => r
  | n + 1, r => .unusable :: gap n r
def poolList (es : List (Nat × CpInfo)) (last : Nat) : List CpInfo := es.foldr (fun e r => gap e.1 (e.2 :: r)) (gap last [])
def pool (es : List (Nat × CpInfo)) (last : Nat) : Array CpInfo := ⟨poolList es last⟩
def fileOf (pool : Array CpInfo) (this : Nat) (attrs : Array Attribute := #[]) (ms : Array MethodInfo := #[]) (fl : Nat := 33) (sup : Nat := 0) (ifs : Array Nat := #[]) (fds : Array FieldInfo := #[]) : ClassFile where
  minorVersion := 0
  majorVersion := 65
  constantPool := pool
  accessFlags := fl
  thisClass := this
  superClass := sup
  interfaces := ifs
  fields := fds
  methods := ms
  attributes := attrs
def plain (name : String) (sup : Option ClassId) : Class where
  name := name
  kind := .ordinary
  loader := none
  accessFlags := 33
  super := sup
  interfaces := #[]
  cf := none
  fields := #[]
  methods := #[]
  instanceTypes := #[]
  staticTypes := #[]
  resolved := #[]
  callSites := []
  init := .initialized
  statics := none
  mirror := none

def pool0 : Array CpInfo := pool [(5, u "<init>"), (0, u "()V"), (1, .class_ 10), (1, u "java/lang/Object")] 113

def k0m0 : Method := { name := "<init>", desc := "()V", sig := { parameters := [], returnType := none }, accessFlags := 1, code := none }
/-- java/lang/Object -/
def k0 : Class := { plain "java/lang/Object" none with
  accessFlags := 33
  interfaces := #[]
  cf := some (fileOf pool0 8 #[] #[{ accessFlags := 1, nameIndex := 5, descriptorIndex := 6, attributes := #[] }] 33 0 #[] #[])
  fields := #[]
  methods := #[k0m0]
  instanceTypes := #[]
  staticTypes := #[]
  resolved := Array.replicate 124 none
  statics := none }

def pool1 : Array CpInfo := pool [(2, .class_ 4), (1, u "java/lang/Object"), (0, u "<init>"), (0, u "()V"), (0, .methodref 8 9), (0, .class_ 10), (0, .nameAndType 11 12), (0, u "com/example/narrowint/narrowint/codec/Bits"), (0, u "fromLow"), (0, u "(JIZ)J"), (0, .long 18446744073709551615), (1, .class_ 16), (0, u "com/example/narrowint/narrowint/codec/BitsFromLowPinLaw"), (2, u "law"), (0, u "(JII)Z")] 3

def k1m0 : Method := { name := "<init>", desc := "()V", sig := { parameters := [], returnType := none }, accessFlags := 2, code := none }
def k1c1 : Code := { maxStack := 4, maxLocals := 14, code := code, exceptionTable := #[], attributes := #[] }
def k1m1 : Method := { name := "law", desc := "(JII)Z", sig := { parameters := [.long, .int, .int], returnType := some .boolean }, accessFlags := 9, code := some k1c1 }
/-- com/example/narrowint/narrowint/codec/BitsFromLowPinLaw -/
def k1 : Class := { plain "com/example/narrowint/narrowint/codec/BitsFromLowPinLaw" (some 0) with
  accessFlags := 49
  interfaces := #[]
  cf := some (fileOf pool1 15 #[] #[{ accessFlags := 2, nameIndex := 5, descriptorIndex := 6, attributes := #[] }, { accessFlags := 9, nameIndex := 19, descriptorIndex := 20, attributes := #[] }] 49 2 #[] #[])
  fields := #[]
  methods := #[k1m0, k1m1]
  instanceTypes := #[]
  staticTypes := #[]
  resolved := Array.replicate 24 none
  statics := none }

def pool2 : Array CpInfo := pool [(2, .class_ 4), (1, u "java/lang/Object"), (0, u "<init>"), (0, u "()V"), (6, .class_ 14), (0, u "com/example/narrowint/narrowint/codec/Bits"), (5, u "fromLow"), (0, u "(JIZ)J")] 2

def k2m0 : Method := { name := "<init>", desc := "()V", sig := { parameters := [], returnType := none }, accessFlags := 2, code := none }
def k2c1 : Code := { maxStack := 3, maxLocals := 5, code := prog_14_method_3_code, exceptionTable := #[], attributes := #[] }
def k2m1 : Method := { name := "fromLow", desc := "(JIZ)J", sig := { parameters := [.long, .int, .boolean], returnType := some .long }, accessFlags := 8, code := some k2c1 }
/-- com/example/narrowint/narrowint/codec/Bits -/
def k2 : Class := { plain "com/example/narrowint/narrowint/codec/Bits" (some 0) with
  accessFlags := 48
  interfaces := #[]
  cf := some (fileOf pool2 13 #[] #[{ accessFlags := 2, nameIndex := 5, descriptorIndex := 6, attributes := #[] }, { accessFlags := 8, nameIndex := 20, descriptorIndex := 21, attributes := #[] }] 48 2 #[] #[])
  fields := #[]
  methods := #[k2m0, k2m1]
  instanceTypes := #[]
  staticTypes := #[]
  resolved := Array.replicate 24 none
  statics := none }

def pool3 : Array CpInfo := pool [(1, u "java/lang/Cloneable"), (0, .class_ 1), (0, u "java/lang/Object"), (0, .class_ 3)] 3

/-- java/lang/Cloneable -/
def k3 : Class := { plain "java/lang/Cloneable" (some 0) with
  accessFlags := 1537
  interfaces := #[]
  cf := some (fileOf pool3 2 #[] #[] 1537 4 #[] #[])
  fields := #[]
  methods := #[]
  instanceTypes := #[]
  staticTypes := #[]
  resolved := Array.replicate 8 none
  statics := none }

def pool4 : Array CpInfo := pool [(1, u "java/io/Serializable"), (0, .class_ 1), (0, u "java/lang/Object"), (0, .class_ 3)] 3

/-- java/io/Serializable -/
def k4 : Class := { plain "java/io/Serializable" (some 0) with
  accessFlags := 1537
  interfaces := #[]
  cf := some (fileOf pool4 2 #[] #[] 1537 4 #[] #[])
  fields := #[]
  methods := #[]
  instanceTypes := #[]
  staticTypes := #[]
  resolved := Array.replicate 8 none
  statics := none }

/-- the primitive byte -/
def k5 : Class := { plain "byte" none with kind := .primitive 'B', accessFlags := 0x411 }
/-- [B -/
def k6 : Class := { plain "[B" (some 0) with kind := .array 5 .byte, interfaces := #[3, 4], accessFlags := 1041 }

/-- the primitive int -/
def k7 : Class := { plain "int" none with kind := .primitive 'I', accessFlags := 0x411 }
/-- [I -/
def k8 : Class := { plain "[I" (some 0) with kind := .array 7 .int, interfaces := #[3, 4], accessFlags := 1041 }

def heap : Heap := #[]
def classes : Array Class := #[k0, k1, k2, k3, k4, k5, k6, k7, k8]
def interned : List (Array UInt16 × Addr) := []
def slotsUsed : Nat := 0
def theMethod : MethodId := ⟨1, 1⟩
def args0 : Array Value := #[.long 5, .int 7, .int 1]
def aboutOver (below : List Frame) : State where
  vm := { classes := classes, interned := interned.toArray }
  heap := heap
  slotsUsed := slotsUsed
  threads := #[{ frames := .invoking theMethod args0 :: below }]
def below0 : List Frame := [.native { method := ⟨0, 0⟩, args := #[] }]
def about1 : State := aboutOver below0
def p0 : Program := .bare "" "" ""
def e0 : Env := launch0.env 0 0 0
theorem w_frames : about1.frames = Frame.invoking theMethod args0 :: below0 := rfl
set_option maxRecDepth 65536 in
theorem w_args : argsFit about1.vm theMethod args0 = true := by decide +kernel
set_option maxRecDepth 65536 in
theorem w_heap : heapFits about1 = true := by decide +kernel
set_option maxRecDepth 65536 in
theorem w_runnable : about1.curStatus? = some .runnable := by decide +kernel
set_option maxRecDepth 65536 in
theorem w_alone : about1.alone = true := by decide +kernel
set_option maxRecDepth 65536 in
theorem w_named : about1.methodNamed? x = some theMethod := by decide +kernel
set_option maxRecDepth 65536 in
theorem w_hears : about1.hears theMethod below0 = true := by decide +kernel
set_option maxRecDepth 65536 in
theorem w_ripe : about1.ripe theMethod args0 below0 = true := by decide +kernel
theorem w_running : about1.status = .running := rfl
set_option maxRecDepth 65536 in
theorem w_room : about1.hasRoom e0.platform room_1 = true :=
  launch0.hasRoom_least _ room_1 (by decide +kernel) (by decide +kernel) (by decide +kernel) (by decide +kernel) (by decide +kernel) (by decide +kernel)
theorem allAtoms_all (ts : List Jvm.Cond) (a : Array Jvm.Value) (st : Jvm.State) : (allAtoms ts).before a st = ts.all (fun c => c.before a st) := by
  induction ts with
  | nil => rfl
  | cons c t ih =>
    show (Jvm.Cond.and c (allAtoms t)).before a st = _
    rw [Jvm.Cond.before_and, ih, List.all_cons]
def words1 : List Jvm.Cond := Jvm.Cond.code x code maxLocals ret :: tables_1
/-- a 'code' word, met by the world's own term for the bytes: nothing is compared byte by byte -/
theorem code_word {y : MethodName} {bytes : ByteArray} {mx : Nat} {rt : Option FieldType} {a : Array Value} {s : State} {m : MethodId} {meth : Method} {c : Code} (h1 : s.methodNamed? y = some m) (h2 : s.vm.method? m = some meth) (h3 : meth.code = some c) (h4 : c.code = bytes)
    (h5 : (c.maxLocals == mx && c.exceptionTable.isEmpty && decide (c.maxStack ≤ mostOperands) && decide (meth.sig.returnType = rt) && !meth.locks && decide (parseMethodDescriptor y.desc = some meth.sig)) = true) : (Jvm.Cond.code y bytes mx rt).before a s = true := by
  simp only [Bool.and_eq_true, beq_iff_eq, Bool.not_eq_true', decide_eq_true_eq] at h5
  obtain ⟨⟨⟨⟨⟨g1, g2⟩, g3⟩, g4⟩, g5⟩, g6⟩ := h5
  simp [Cond.before, Cond.holds, Cond.value, h1, h2, h3, h4, g1, g2, g3, g4, g5, g6]
def isCode : Jvm.Cond → Bool
  | .code _ _ _ _ => true
  | _ => false
theorem all_split {L : List Jvm.Cond} {P : Jvm.Cond → Bool} (h1 : L.all (fun c => isCode c || P c) = true) (h2 : ∀ c ∈ L.filter isCode, P c = true) : L.all P = true := by
  refine List.all_eq_true.mpr fun c hc => ?_
  have h := List.all_eq_true.mp h1 c hc
  rcases Bool.eq_false_or_eq_true (isCode c) with hi | hi
  · exact h2 c (List.mem_filter.mpr ⟨hc, hi⟩)
  · simpa [hi] using h
set_option maxRecDepth 65536 in
theorem w_c0 : (Jvm.Cond.code x code maxLocals ret).before args0 about1 = true := code_word (m := ⟨1, 1⟩) (meth := k1m1) (c := k1c1) (by decide +kernel) rfl rfl rfl (by decide +kernel)
set_option maxRecDepth 65536 in
theorem w_c1 : (Jvm.Cond.code ({ cls := "com/example/narrowint/narrowint/codec/Bits", name := "fromLow", desc := "(JIZ)J" } : Jvm.MethodName) prog_14_method_3_code (5 : Nat) (Option.some Jvm.ClassFile.FieldType.long)).before args0 about1 = true := code_word (m := ⟨2, 1⟩) (meth := k2m1) (c := k2c1) (by decide +kernel) rfl rfl rfl (by decide +kernel)
def codes1 : List Jvm.Cond := [Jvm.Cond.code x code maxLocals ret, Jvm.Cond.code ({ cls := "com/example/narrowint/narrowint/codec/Bits", name := "fromLow", desc := "(JIZ)J" } : Jvm.MethodName) prog_14_method_3_code (5 : Nat) (Option.some Jvm.ClassFile.FieldType.long)]
set_option maxRecDepth 65536 in
theorem codes_eq : words1.filter isCode = codes1 := rfl
theorem w_codes : ∀ c ∈ words1.filter isCode, c.before args0 about1 = true := by
  rw [codes_eq]
  intro c hc
  simp only [codes1, List.mem_cons, List.not_mem_nil, or_false] at hc
  rcases hc with rfl | rfl
  · exact w_c0
  · exact w_c1
set_option maxRecDepth 65536 in
theorem w_t1 : words1.all (fun c => isCode c || c.before args0 about1) = true := by decide +kernel
theorem w_tables : (allAtoms (Jvm.Cond.code x code maxLocals ret :: tables_1)).before args0 about1 = true := by
  rw [allAtoms_all]
  show words1.all (fun c => c.before args0 about1) = true
  refine all_split ?_ w_codes
  rw [w_t1]
set_option maxRecDepth 65536 in
theorem w_case : (Jvm.Cond.and given_1 narrow_1).before args0 about1 = true := by decide +kernel
theorem w_applies : (headSpec (Jvm.Cond.code x code maxLocals ret :: tables_1) room_1).applies x e0.platform about1 = true :=
  (Spec.applies_iff w_frames).mpr ⟨w_running, w_runnable, w_alone, w_named, w_hears, w_ripe, w_room, w_tables⟩
theorem atStart : AtStart classFile x code maxLocals ret World_1 tables_1 room_1 Calls_1 rest_1 Pre_1 launch0 p0 e0 about1 theMethod args0 below0 :=
  ⟨lists_1, trivial, launch0.admits_env _ _ _, launch0.least_env, fairChoices_fair.cas, fairChoices_fair.clock, w_frames, w_args, w_heap, w_applies, trivial, trivial, w_case⟩
end start1
theorem witness_1 : WitnessClaimed_1 := ⟨start1.p0, start1.e0, start1.about1, start1.theMethod, start1.args0, start1.below0, start1.atStart⟩
end Jvm.Pilot.@@N@@
