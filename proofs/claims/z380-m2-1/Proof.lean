import JvmDerived
import JvmDerived.Pilot.@@N@@Statement
import JvmDerived.Pilot.@@N@@Code
set_option linter.unusedVariables false
set_option linter.unusedSimpArgs false
namespace Jvm.RoadKit
open Sem ClassFile Op Lib Jvm.Stand Jvm.Free Jvm.LawKit
section New
variable {p : Program} {l : Launch} {e : Env} {R : Room} {s : State} {m : MethodId} {args : Array Value} {below : List Frame} {meth : Method} {c : Code} {T : State} {locs : List Loc} {cells slots : Nat}
theorem retI (X : Stand p l e R s m args below meth c T locs cells slots) (hx : p.tables.exec = Jvm.exec) {pc : Nat} {Ls : Array Slot} {z : Int32} {rest : List Value} (hret : meth.sig.returnType = some .int) (hd : decode c.code pc = .ok (.ireturn, 1)) {fs : List Frame}
    (hl : ∀ (f : JFrame) (acts : List Action), f.method = m → f.locked = none → f.entered = [] → (doReturn e (T.setTop f) acts (some (.int z))).1 = T.setFrames fs) : Steps p.tables e below (T.setTop (mkF m pc Ls (.int z :: rest))) (T.setFrames fs) := by
  have hm' : T.vm.method? m = some meth := X.method'
  have hn : narrow .int (.int z) = .int z := rfl
  show Steps p.tables e below (T.setTop { method := m, pc := pc, locals := Ls, stack := _ :: rest, locked := none }) _
  jvm_step X.here [X.here.top, hx, hd, hm', hret, hn]
  first | (intro acts; rw [hl _ acts rfl rfl rfl]) | rw [hl _ _ rfl rfl rfl]
  exact Steps.refl _
end New
end Jvm.RoadKit
namespace Jvm.Pilot.@@N@@
open Jvm Jvm.ClassFile Sem Op Lib Jvm.Free Jvm.Stand Jvm.LawKit Jvm.RoadKit Bundle Jvm.Pilot.@@N@@.Jvm.D
theorem own_mask (x : Int32) : ∃ n : Nat, n ≤ 7 ∧ (x &&& (7 : Int32)) = Int32.ofNat n := by
  refine ⟨(x &&& 7).toBitVec.toNat, ?_, ?_⟩
  · simp only [Int32.toBitVec_and, BitVec.toNat_and]
    exact Nat.and_le_right
  · apply Int32.toBitVec_inj.mp
    show _ = BitVec.ofNat 32 _
    rw [BitVec.ofNat_toNat]; simp
def own_n (x : Int32) : Int32 := (x &&& (7 : Int32)) - ((x &&& (7 : Int32)) / (5 : Int32)) * (5 : Int32)
theorem own_n5 (x : Int32) : own_n x = 0 ∨ own_n x = 1 ∨ own_n x = 2 ∨ own_n x = 3 ∨ own_n x = 4 := by
  obtain ⟨n, hn, e⟩ := own_mask x
  have ev : own_n x = Int32.ofNat n - (Int32.ofNat n / (5 : Int32)) * (5 : Int32) := by rw [own_n, e]
  have h : n = 0 ∨ n = 1 ∨ n = 2 ∨ n = 3 ∨ n = 4 ∨ n = 5 ∨ n = 6 ∨ n = 7 := by omega
  rw [ev]
  rcases h with rfl | rfl | rfl | rfl | rfl | rfl | rfl | rfl <;> decide
def own_b (x : Int32) : Int32 := x.toInt8.toInt32
theorem own_bb (x : Int32) : own_b (own_b x) = own_b x := by simp [own_b]
theorem d1_0 : decode method_3_code 0 = .ok (.iload_n 0, 1) := by decide +kernel
theorem d1_1 : decode method_3_code 1 = .ok (.ifCond .ne 7, 3) := by decide +kernel
theorem d1_4 : decode method_3_code 4 = .ok (.iconst 0, 1) := by decide +kernel
theorem d1_5 : decode method_3_code 5 = .ok (.newarray .byte, 2) := by decide +kernel
theorem d1_7 : decode method_3_code 7 = .ok (.areturn, 1) := by decide +kernel
theorem pn_1 : plainName "com/example/concordat/concordat/identity/MllpFramePinLaw" = true := by first | (simp [plainName, overriddenIn]; done) | decide +kernel
theorem ef_1 (m : MethodId) (x0 : Int32) (x1 : Int32) (x2 : Int32) (x3 : Int32) (x4 : Int32) : entryFrame m #[(.int x0), (.int x1), (.int x2), (.int x3), (.int x4)] 5 = mkF m 0 #[.val (.int x0), .val (.int x1), .val (.int x2), .val (.int x3), .val (.int x4)] [] := by first | (simp [entryFrame, mkF, argsToLocals, Value.category]; done) | rfl
def Q1_0 (Z : State) (p2 : Int32) (p3 : Int32) (p4 : Int32) (p5 : Int32) (h0 : Heap) (n0 : Nat) (v : Option Value) (h : Heap) (L : List Loc) : Prop := ∃ (b : Addr) (k : ClassId), v = some (.ref b) ∧ Fr n0 L ∧ Keep h0 h [] ∧ h0.size ≤ b ∧ Arv Z h b k .byte (0 : Int32) [] (.int (0 : Int32))
set_option maxRecDepth 65536 in
set_option maxHeartbeats 40000000 in
theorem rm1_0 (l : Launch) (Z : State) (a0 : Array Value) (hw : ∀ d ∈ tables_1, d.before a0 Z = true) (ws : List Jvm.Cond) (p2 : Int32) (p3 : Int32) (p4 : Int32) (p5 : Int32) (h0 : Heap) (n0 : Nat) (Z0 : n0 ≤ h0.size) :
    MetFree l (⟨"com/example/concordat/concordat/identity/MllpFramePinLaw", "make", "(IBBBB)[B"⟩ : MethodName) (head1 (Jvm.Cond.code (⟨"com/example/concordat/concordat/identity/MllpFramePinLaw", "make", "(IBBBB)[B"⟩ : MethodName) method_3_code 5 (some (.array .byte)) :: ws) ({ frames := 0, cells := 1, slots := 4, locals := 0 } : Room)) (fun a U => a = #[(.int (0 : Int32)), (.int p2), (.int p3), (.int p4), (.int p5)] ∧ Z.Warmed39 U.vm ∧ U.heap = h0) (fun _ _ _ _ _ => True) (fun _ U o U' => ∃ v L, o = .returned v ∧ Q1_0 Z p2 p3 p4 p5 h0 n0 v U'.heap L ∧ FrameEnd U o U' L ({ frames := 0, cells := 1, slots := 4, locals := 0 } : Room).cells ({ frames := 0, cells := 1, slots := 4, locals := 0 } : Room).slots) := by
  refine MetFree.of_bodySF (plainFor_of_name pn_1) hisR ?_
  intro p e s m args below meth c s₁ Bd hml0 hP hK
  obtain ⟨rfl, hZ, hh⟩ := hP
  have hx := Bd.exec
  have hby := Bd.bytes
  have hml : c.maxLocals = 5 := hml0
  have hown : s.vm.findClass "com/example/concordat/concordat/identity/MllpFramePinLaw" = some m.cls := findClass_of_methodNamed Bd.named
  have hnm := (name_of_methodNamed Bd.named Bd.method).1
  have X0 : Stand p l e ({ frames := 0, cells := 1, slots := 4, locals := 0 } : Room) s m #[(.int (0 : Int32)), (.int p2), (.int p3), (.int p4), (.int p5)] below meth c s₁ [] 0 0 := Stand.of_body Bd
  have e0 : s₁.heap = h0 := by rw [← hh, Bd.state]; rfl
  have N0 := Fr.nil n0
  have pre0 : ∀ t, Steps p.tables e below (s₁.setTop (mkF m 0 #[.val (.int (0 : Int32)), .val (.int p2), .val (.int p3), .val (.int p4), .val (.int p5)] [])) t → Steps p.tables e below (s₁.setTop (entryFrame m #[(.int (0 : Int32)), (.int p2), (.int p3), (.int p4), (.int p5)] 5)) t := fun t k => castTop (ef_1 m (0 : Int32) p2 p3 p4 p5) k
  obtain ⟨T6, h6, k6, X6, e6, E6, A6, st6⟩ := newP X0 hx hZ (hw _ (List.mem_of_getElem? (i := 4) rfl)) e0 (g := (mkF m 5 #[.val (.int (0 : Int32)), .val (.int p2), .val (.int p3), .val (.int p4), .val (.int p5)] [(.int (0 : Int32))])) rfl (hb hby d1_5) rfl (by decide) (cap := 4) (by decide) (by decide) (by decide) (by decide)
  obtain ⟨b6, g6⟩ : ∃ z, z = h0.size := ⟨_, rfl⟩
  rw [← g6] at A6 st6
  have V_b6 := Arv.new A6 (by decide)
  have g_b6 : n0 ≤ b6 := Nat.le_trans Z0 (Nat.le_of_eq g6.symm)
  have sz_b6 : h0.size ≤ b6 := (Nat.le_trans (Keep.refl h0 []).1 (Nat.le_of_eq g6.symm))
  have K6 : Keep h0 h6 [] := (Keep.refl h0 []).ext E6
  obtain ⟨fs, hr, hrun, hended, hW, hsame⟩ := X6.leave (v := some (.ref b6)) (fun h => by rw [Bd.returns] at h; cases h)
  refine ⟨_, _, pre0 _ ?_, hrun, hended, _, _, rfl, ?_, ⟨_, rfl⟩, hW, hsame.mono (by decide) (by decide)⟩
  · show Steps p.tables e below (s₁.setTop (mkF m 0 #[.val (.int (0 : Int32)), .val (.int p2), .val (.int p3), .val (.int p4), .val (.int p5)] [])) _
    refine XS.iloadN X0.here hx rfl (hb hby d1_0) rfl ?_
    show Steps p.tables e below (s₁.setTop (mkF m 1 #[.val (.int (0 : Int32)), .val (.int p2), .val (.int p3), .val (.int p4), .val (.int p5)] [(.int (0 : Int32))])) _
    refine XS.ifNo X0.here hx rfl (hb hby d1_1) rfl ((if0 _ _).trans (teq (by decide : (0 : Int32) = (0 : Int32))).2) ?_
    show Steps p.tables e below (s₁.setTop (mkF m 4 #[.val (.int (0 : Int32)), .val (.int p2), .val (.int p3), .val (.int p4), .val (.int p5)] [])) _
    refine XS.iconst X0.here hx rfl (hb hby d1_4) ?_
    show Steps p.tables e below (s₁.setTop (mkF m 5 #[.val (.int (0 : Int32)), .val (.int p2), .val (.int p3), .val (.int p4), .val (.int p5)] [(.int (0 : Int32))])) _
    refine st6 _ ?_
    show Steps p.tables e below (T6.setTop (mkF m 7 #[.val (.int (0 : Int32)), .val (.int p2), .val (.int p3), .val (.int p4), .val (.int p5)] [(.ref b6)])) _
    jvm_step X6.here [X6.here.top, hx, (hb hby d1_7), X6.method', Bd.returns, Value.isRef, FieldType.isReference]
    first | (intro acts; rw [hr _ acts rfl rfl rfl]) | rw [hr _ _ rfl rfl rfl]
    exact Steps.refl _
  · show Q1_0 Z p2 p3 p4 p5 h0 n0 _ T6.heap _
    rw [e6]
    exact ⟨b6, k6, rfl, N0, K6, sz_b6, V_b6⟩
theorem d1_8 : decode method_3_code 8 = .ok (.iload_n 0, 1) := by decide +kernel
theorem d1_9 : decode method_3_code 9 = .ok (.iconst 1, 1) := by decide +kernel
theorem d1_10 : decode method_3_code 10 = .ok (.if_icmp .ne 11, 3) := by decide +kernel
theorem d1_13 : decode method_3_code 13 = .ok (.iconst 1, 1) := by decide +kernel
theorem d1_14 : decode method_3_code 14 = .ok (.newarray .byte, 2) := by decide +kernel
theorem d1_16 : decode method_3_code 16 = .ok (.dup, 1) := by decide +kernel
theorem d1_17 : decode method_3_code 17 = .ok (.iconst 0, 1) := by decide +kernel
theorem d1_18 : decode method_3_code 18 = .ok (.iload_n 1, 1) := by decide +kernel
theorem d1_19 : decode method_3_code 19 = .ok (.bastore, 1) := by decide +kernel
theorem d1_20 : decode method_3_code 20 = .ok (.areturn, 1) := by decide +kernel
def Q1_1 (Z : State) (p2 : Int32) (p3 : Int32) (p4 : Int32) (p5 : Int32) (h0 : Heap) (n0 : Nat) (v : Option Value) (h : Heap) (L : List Loc) : Prop := ∃ (b : Addr) (k : ClassId), v = some (.ref b) ∧ Fr n0 L ∧ Keep h0 h [] ∧ h0.size ≤ b ∧ Arv Z h b k .byte (1 : Int32) [.int (own_b p2)] (.int (0 : Int32))
set_option maxRecDepth 65536 in
set_option maxHeartbeats 40000000 in
theorem rm1_1 (l : Launch) (Z : State) (a0 : Array Value) (hw : ∀ d ∈ tables_1, d.before a0 Z = true) (ws : List Jvm.Cond) (p2 : Int32) (p3 : Int32) (p4 : Int32) (p5 : Int32) (h0 : Heap) (n0 : Nat) (Z0 : n0 ≤ h0.size) :
    MetFree l (⟨"com/example/concordat/concordat/identity/MllpFramePinLaw", "make", "(IBBBB)[B"⟩ : MethodName) (head1 (Jvm.Cond.code (⟨"com/example/concordat/concordat/identity/MllpFramePinLaw", "make", "(IBBBB)[B"⟩ : MethodName) method_3_code 5 (some (.array .byte)) :: ws) ({ frames := 0, cells := 1, slots := 4, locals := 0 } : Room)) (fun a U => a = #[(.int (1 : Int32)), (.int p2), (.int p3), (.int p4), (.int p5)] ∧ Z.Warmed39 U.vm ∧ U.heap = h0) (fun _ _ _ _ _ => True) (fun _ U o U' => ∃ v L, o = .returned v ∧ Q1_1 Z p2 p3 p4 p5 h0 n0 v U'.heap L ∧ FrameEnd U o U' L ({ frames := 0, cells := 1, slots := 4, locals := 0 } : Room).cells ({ frames := 0, cells := 1, slots := 4, locals := 0 } : Room).slots) := by
  refine MetFree.of_bodySF (plainFor_of_name pn_1) hisR ?_
  intro p e s m args below meth c s₁ Bd hml0 hP hK
  obtain ⟨rfl, hZ, hh⟩ := hP
  have hx := Bd.exec
  have hby := Bd.bytes
  have hml : c.maxLocals = 5 := hml0
  have hown : s.vm.findClass "com/example/concordat/concordat/identity/MllpFramePinLaw" = some m.cls := findClass_of_methodNamed Bd.named
  have hnm := (name_of_methodNamed Bd.named Bd.method).1
  have X0 : Stand p l e ({ frames := 0, cells := 1, slots := 4, locals := 0 } : Room) s m #[(.int (1 : Int32)), (.int p2), (.int p3), (.int p4), (.int p5)] below meth c s₁ [] 0 0 := Stand.of_body Bd
  have e0 : s₁.heap = h0 := by rw [← hh, Bd.state]; rfl
  have N0 := Fr.nil n0
  have pre0 : ∀ t, Steps p.tables e below (s₁.setTop (mkF m 0 #[.val (.int (1 : Int32)), .val (.int p2), .val (.int p3), .val (.int p4), .val (.int p5)] [])) t → Steps p.tables e below (s₁.setTop (entryFrame m #[(.int (1 : Int32)), (.int p2), (.int p3), (.int p4), (.int p5)] 5)) t := fun t k => castTop (ef_1 m (1 : Int32) p2 p3 p4 p5) k
  obtain ⟨T6, h6, k6, X6, e6, E6, A6, st6⟩ := newP X0 hx hZ (hw _ (List.mem_of_getElem? (i := 4) rfl)) e0 (g := (mkF m 14 #[.val (.int (1 : Int32)), .val (.int p2), .val (.int p3), .val (.int p4), .val (.int p5)] [(.int (1 : Int32))])) rfl (hb hby d1_14) rfl (by decide) (cap := 4) (by decide) (by decide) (by decide) (by decide)
  obtain ⟨b6, g6⟩ : ∃ z, z = h0.size := ⟨_, rfl⟩
  rw [← g6] at A6 st6
  have V_b6 : Arv Z h6 b6 k6 .byte (1 : Int32) [(.int (0 : Int32))] (.int (0 : Int32)) := (Arv.new A6 (by decide)).pad (pad_rep [] (.int (0 : Int32)) 1)
  have g_b6 : n0 ≤ b6 := Nat.le_trans Z0 (Nat.le_of_eq g6.symm)
  have sz_b6 : h0.size ≤ b6 := (Nat.le_trans (Keep.refl h0 []).1 (Nat.le_of_eq g6.symm))
  have K6 : Keep h0 h6 [] := (Keep.refl h0 []).ext E6
  obtain ⟨cl_b6_19, Ar_b6, q_b6, S_b6, N_b6, H_b6, G_b6⟩ := V_b6
  have hin19 : ¬ ((0 : Int32) < 0 ∨ cl_b6_19.slots.size ≤ ((0 : Int32)).toNatClampNeg) := inb_of S_b6 ⟨by decide, by decide⟩
  obtain ⟨T7, h7, X7, e7, W7, st7⟩ := stB X6 hx hZ e6 Ar_b6 (j := (0 : Int32)) hin19 (g := (mkF m 19 #[.val (.int (1 : Int32)), .val (.int p2), .val (.int p3), .val (.int p4), .val (.int p5)] [(.int p2), (.int (0 : Int32)), (.ref b6), (.ref b6)])) rfl rfl (hb hby d1_19)
  have V_b6_7 := Arv.set Ar_b6 q_b6 S_b6 N_b6 H_b6 G_b6 (fits_nar_byte _) W7 0 rfl (Nat.le_of_ble_eq_true rfl)
  have K7 : Keep h0 h7 [] := K6.wr W7 (Or.inr sz_b6)
  have N7 := Fr.snoc X7 N0 g_b6
  obtain ⟨fs, hr, hrun, hended, hW, hsame⟩ := X7.leave (v := some (.ref b6)) (fun h => by rw [Bd.returns] at h; cases h)
  refine ⟨_, _, pre0 _ ?_, hrun, hended, _, _, rfl, ?_, ⟨_, rfl⟩, hW, hsame.mono (by decide) (by decide)⟩
  · show Steps p.tables e below (s₁.setTop (mkF m 0 #[.val (.int (1 : Int32)), .val (.int p2), .val (.int p3), .val (.int p4), .val (.int p5)] [])) _
    refine XS.iloadN X0.here hx rfl (hb hby d1_0) rfl ?_
    show Steps p.tables e below (s₁.setTop (mkF m 1 #[.val (.int (1 : Int32)), .val (.int p2), .val (.int p3), .val (.int p4), .val (.int p5)] [(.int (1 : Int32))])) _
    refine XS.ifYes X0.here hx rfl (pc0 := 1) (pc' := 8) rfl (hb hby d1_1) rfl ((if0 _ _).trans (feq (by decide : ¬ ((1 : Int32) = (0 : Int32)))).2) (by decide) (by decide) ?_
    show Steps p.tables e below (s₁.setTop (mkF m 8 #[.val (.int (1 : Int32)), .val (.int p2), .val (.int p3), .val (.int p4), .val (.int p5)] [])) _
    refine XS.iloadN X0.here hx rfl (hb hby d1_8) rfl ?_
    show Steps p.tables e below (s₁.setTop (mkF m 9 #[.val (.int (1 : Int32)), .val (.int p2), .val (.int p3), .val (.int p4), .val (.int p5)] [(.int (1 : Int32))])) _
    refine XS.iconst X0.here hx rfl (hb hby d1_9) ?_
    show Steps p.tables e below (s₁.setTop (mkF m 10 #[.val (.int (1 : Int32)), .val (.int p2), .val (.int p3), .val (.int p4), .val (.int p5)] [(.int (1 : Int32)), (.int (1 : Int32))])) _
    refine XS.icmpNo X0.here hx rfl (hb hby d1_10) rfl (teq (by decide : (1 : Int32) = (1 : Int32))).2 ?_
    show Steps p.tables e below (s₁.setTop (mkF m 13 #[.val (.int (1 : Int32)), .val (.int p2), .val (.int p3), .val (.int p4), .val (.int p5)] [])) _
    refine XS.iconst X0.here hx rfl (hb hby d1_13) ?_
    show Steps p.tables e below (s₁.setTop (mkF m 14 #[.val (.int (1 : Int32)), .val (.int p2), .val (.int p3), .val (.int p4), .val (.int p5)] [(.int (1 : Int32))])) _
    refine st6 _ ?_
    show Steps p.tables e below (T6.setTop (mkF m 16 #[.val (.int (1 : Int32)), .val (.int p2), .val (.int p3), .val (.int p4), .val (.int p5)] [(.ref b6)])) _
    refine XS.dup X6.here hx rfl (hb hby d1_16) rfl rfl ?_
    show Steps p.tables e below (T6.setTop (mkF m 17 #[.val (.int (1 : Int32)), .val (.int p2), .val (.int p3), .val (.int p4), .val (.int p5)] [(.ref b6), (.ref b6)])) _
    refine XS.iconst X6.here hx rfl (hb hby d1_17) ?_
    show Steps p.tables e below (T6.setTop (mkF m 18 #[.val (.int (1 : Int32)), .val (.int p2), .val (.int p3), .val (.int p4), .val (.int p5)] [(.int (0 : Int32)), (.ref b6), (.ref b6)])) _
    refine XS.iloadN X6.here hx rfl (hb hby d1_18) rfl ?_
    show Steps p.tables e below (T6.setTop (mkF m 19 #[.val (.int (1 : Int32)), .val (.int p2), .val (.int p3), .val (.int p4), .val (.int p5)] [(.int p2), (.int (0 : Int32)), (.ref b6), (.ref b6)])) _
    refine st7 _ ?_
    show Steps p.tables e below (T7.setTop (mkF m 20 #[.val (.int (1 : Int32)), .val (.int p2), .val (.int p3), .val (.int p4), .val (.int p5)] [(.ref b6)])) _
    jvm_step X7.here [X7.here.top, hx, (hb hby d1_20), X7.method', Bd.returns, Value.isRef, FieldType.isReference]
    first | (intro acts; rw [hr _ acts rfl rfl rfl]) | rw [hr _ _ rfl rfl rfl]
    exact Steps.refl _
  · show Q1_1 Z p2 p3 p4 p5 h0 n0 _ T7.heap _
    rw [e7]
    exact ⟨b6, k6, rfl, N7, K7, sz_b6, V_b6_7⟩
theorem d1_21 : decode method_3_code 21 = .ok (.iload_n 0, 1) := by decide +kernel
theorem d1_22 : decode method_3_code 22 = .ok (.iconst 2, 1) := by decide +kernel
theorem d1_23 : decode method_3_code 23 = .ok (.if_icmp .ne 15, 3) := by decide +kernel
theorem d1_26 : decode method_3_code 26 = .ok (.iconst 2, 1) := by decide +kernel
theorem d1_27 : decode method_3_code 27 = .ok (.newarray .byte, 2) := by decide +kernel
theorem d1_29 : decode method_3_code 29 = .ok (.dup, 1) := by decide +kernel
theorem d1_30 : decode method_3_code 30 = .ok (.iconst 0, 1) := by decide +kernel
theorem d1_31 : decode method_3_code 31 = .ok (.iload_n 1, 1) := by decide +kernel
theorem d1_32 : decode method_3_code 32 = .ok (.bastore, 1) := by decide +kernel
theorem d1_33 : decode method_3_code 33 = .ok (.dup, 1) := by decide +kernel
theorem d1_34 : decode method_3_code 34 = .ok (.iconst 1, 1) := by decide +kernel
theorem d1_35 : decode method_3_code 35 = .ok (.iload_n 2, 1) := by decide +kernel
theorem d1_36 : decode method_3_code 36 = .ok (.bastore, 1) := by decide +kernel
theorem d1_37 : decode method_3_code 37 = .ok (.areturn, 1) := by decide +kernel
def Q1_2 (Z : State) (p2 : Int32) (p3 : Int32) (p4 : Int32) (p5 : Int32) (h0 : Heap) (n0 : Nat) (v : Option Value) (h : Heap) (L : List Loc) : Prop := ∃ (b : Addr) (k : ClassId), v = some (.ref b) ∧ Fr n0 L ∧ Keep h0 h [] ∧ h0.size ≤ b ∧ Arv Z h b k .byte (2 : Int32) [.int (own_b p2), .int (own_b p3)] (.int (0 : Int32))
set_option maxRecDepth 65536 in
set_option maxHeartbeats 40000000 in
theorem rm1_2 (l : Launch) (Z : State) (a0 : Array Value) (hw : ∀ d ∈ tables_1, d.before a0 Z = true) (ws : List Jvm.Cond) (p2 : Int32) (p3 : Int32) (p4 : Int32) (p5 : Int32) (h0 : Heap) (n0 : Nat) (Z0 : n0 ≤ h0.size) :
    MetFree l (⟨"com/example/concordat/concordat/identity/MllpFramePinLaw", "make", "(IBBBB)[B"⟩ : MethodName) (head1 (Jvm.Cond.code (⟨"com/example/concordat/concordat/identity/MllpFramePinLaw", "make", "(IBBBB)[B"⟩ : MethodName) method_3_code 5 (some (.array .byte)) :: ws) ({ frames := 0, cells := 1, slots := 4, locals := 0 } : Room)) (fun a U => a = #[(.int (2 : Int32)), (.int p2), (.int p3), (.int p4), (.int p5)] ∧ Z.Warmed39 U.vm ∧ U.heap = h0) (fun _ _ _ _ _ => True) (fun _ U o U' => ∃ v L, o = .returned v ∧ Q1_2 Z p2 p3 p4 p5 h0 n0 v U'.heap L ∧ FrameEnd U o U' L ({ frames := 0, cells := 1, slots := 4, locals := 0 } : Room).cells ({ frames := 0, cells := 1, slots := 4, locals := 0 } : Room).slots) := by
  refine MetFree.of_bodySF (plainFor_of_name pn_1) hisR ?_
  intro p e s m args below meth c s₁ Bd hml0 hP hK
  obtain ⟨rfl, hZ, hh⟩ := hP
  have hx := Bd.exec
  have hby := Bd.bytes
  have hml : c.maxLocals = 5 := hml0
  have hown : s.vm.findClass "com/example/concordat/concordat/identity/MllpFramePinLaw" = some m.cls := findClass_of_methodNamed Bd.named
  have hnm := (name_of_methodNamed Bd.named Bd.method).1
  have X0 : Stand p l e ({ frames := 0, cells := 1, slots := 4, locals := 0 } : Room) s m #[(.int (2 : Int32)), (.int p2), (.int p3), (.int p4), (.int p5)] below meth c s₁ [] 0 0 := Stand.of_body Bd
  have e0 : s₁.heap = h0 := by rw [← hh, Bd.state]; rfl
  have N0 := Fr.nil n0
  have pre0 : ∀ t, Steps p.tables e below (s₁.setTop (mkF m 0 #[.val (.int (2 : Int32)), .val (.int p2), .val (.int p3), .val (.int p4), .val (.int p5)] [])) t → Steps p.tables e below (s₁.setTop (entryFrame m #[(.int (2 : Int32)), (.int p2), (.int p3), (.int p4), (.int p5)] 5)) t := fun t k => castTop (ef_1 m (2 : Int32) p2 p3 p4 p5) k
  obtain ⟨T6, h6, k6, X6, e6, E6, A6, st6⟩ := newP X0 hx hZ (hw _ (List.mem_of_getElem? (i := 4) rfl)) e0 (g := (mkF m 27 #[.val (.int (2 : Int32)), .val (.int p2), .val (.int p3), .val (.int p4), .val (.int p5)] [(.int (2 : Int32))])) rfl (hb hby d1_27) rfl (by decide) (cap := 4) (by decide) (by decide) (by decide) (by decide)
  obtain ⟨b6, g6⟩ : ∃ z, z = h0.size := ⟨_, rfl⟩
  rw [← g6] at A6 st6
  have V_b6 : Arv Z h6 b6 k6 .byte (2 : Int32) [(.int (0 : Int32)), (.int (0 : Int32))] (.int (0 : Int32)) := (Arv.new A6 (by decide)).pad (pad_rep [] (.int (0 : Int32)) 2)
  have g_b6 : n0 ≤ b6 := Nat.le_trans Z0 (Nat.le_of_eq g6.symm)
  have sz_b6 : h0.size ≤ b6 := (Nat.le_trans (Keep.refl h0 []).1 (Nat.le_of_eq g6.symm))
  have K6 : Keep h0 h6 [] := (Keep.refl h0 []).ext E6
  obtain ⟨cl_b6_32, Ar_b6, q_b6, S_b6, N_b6, H_b6, G_b6⟩ := V_b6
  have hin32 : ¬ ((0 : Int32) < 0 ∨ cl_b6_32.slots.size ≤ ((0 : Int32)).toNatClampNeg) := inb_of S_b6 ⟨by decide, by decide⟩
  obtain ⟨T7, h7, X7, e7, W7, st7⟩ := stB X6 hx hZ e6 Ar_b6 (j := (0 : Int32)) hin32 (g := (mkF m 32 #[.val (.int (2 : Int32)), .val (.int p2), .val (.int p3), .val (.int p4), .val (.int p5)] [(.int p2), (.int (0 : Int32)), (.ref b6), (.ref b6)])) rfl rfl (hb hby d1_32)
  have V_b6_7 := Arv.set Ar_b6 q_b6 S_b6 N_b6 H_b6 G_b6 (fits_nar_byte _) W7 0 rfl (Nat.le_of_ble_eq_true rfl)
  have K7 : Keep h0 h7 [] := K6.wr W7 (Or.inr sz_b6)
  have N7 := Fr.snoc X7 N0 g_b6
  obtain ⟨cl_b6_36, Ar_b6, q_b6, S_b6, N_b6, H_b6, G_b6⟩ := V_b6_7
  have hin36 : ¬ ((1 : Int32) < 0 ∨ cl_b6_36.slots.size ≤ ((1 : Int32)).toNatClampNeg) := inb_of S_b6 ⟨by decide, by decide⟩
  obtain ⟨T8, h8, X8, e8, W8, st8⟩ := stB X7 hx hZ e7 Ar_b6 (j := (1 : Int32)) hin36 (g := (mkF m 36 #[.val (.int (2 : Int32)), .val (.int p2), .val (.int p3), .val (.int p4), .val (.int p5)] [(.int p3), (.int (1 : Int32)), (.ref b6), (.ref b6)])) rfl rfl (hb hby d1_36)
  have V_b6_8 := Arv.set Ar_b6 q_b6 S_b6 N_b6 H_b6 G_b6 (fits_nar_byte _) W8 1 rfl (Nat.le_of_ble_eq_true rfl)
  have K8 : Keep h0 h8 [] := K7.wr W8 (Or.inr sz_b6)
  have N8 := Fr.snoc X8 N7 g_b6
  obtain ⟨fs, hr, hrun, hended, hW, hsame⟩ := X8.leave (v := some (.ref b6)) (fun h => by rw [Bd.returns] at h; cases h)
  refine ⟨_, _, pre0 _ ?_, hrun, hended, _, _, rfl, ?_, ⟨_, rfl⟩, hW, hsame.mono (by decide) (by decide)⟩
  · show Steps p.tables e below (s₁.setTop (mkF m 0 #[.val (.int (2 : Int32)), .val (.int p2), .val (.int p3), .val (.int p4), .val (.int p5)] [])) _
    refine XS.iloadN X0.here hx rfl (hb hby d1_0) rfl ?_
    show Steps p.tables e below (s₁.setTop (mkF m 1 #[.val (.int (2 : Int32)), .val (.int p2), .val (.int p3), .val (.int p4), .val (.int p5)] [(.int (2 : Int32))])) _
    refine XS.ifYes X0.here hx rfl (pc0 := 1) (pc' := 8) rfl (hb hby d1_1) rfl ((if0 _ _).trans (feq (by decide : ¬ ((2 : Int32) = (0 : Int32)))).2) (by decide) (by decide) ?_
    show Steps p.tables e below (s₁.setTop (mkF m 8 #[.val (.int (2 : Int32)), .val (.int p2), .val (.int p3), .val (.int p4), .val (.int p5)] [])) _
    refine XS.iloadN X0.here hx rfl (hb hby d1_8) rfl ?_
    show Steps p.tables e below (s₁.setTop (mkF m 9 #[.val (.int (2 : Int32)), .val (.int p2), .val (.int p3), .val (.int p4), .val (.int p5)] [(.int (2 : Int32))])) _
    refine XS.iconst X0.here hx rfl (hb hby d1_9) ?_
    show Steps p.tables e below (s₁.setTop (mkF m 10 #[.val (.int (2 : Int32)), .val (.int p2), .val (.int p3), .val (.int p4), .val (.int p5)] [(.int (1 : Int32)), (.int (2 : Int32))])) _
    refine XS.icmpYes X0.here hx rfl (pc0 := 10) (pc' := 21) rfl (hb hby d1_10) rfl (feq (by decide : ¬ ((2 : Int32) = (1 : Int32)))).2 (by decide) (by decide) ?_
    show Steps p.tables e below (s₁.setTop (mkF m 21 #[.val (.int (2 : Int32)), .val (.int p2), .val (.int p3), .val (.int p4), .val (.int p5)] [])) _
    refine XS.iloadN X0.here hx rfl (hb hby d1_21) rfl ?_
    show Steps p.tables e below (s₁.setTop (mkF m 22 #[.val (.int (2 : Int32)), .val (.int p2), .val (.int p3), .val (.int p4), .val (.int p5)] [(.int (2 : Int32))])) _
    refine XS.iconst X0.here hx rfl (hb hby d1_22) ?_
    show Steps p.tables e below (s₁.setTop (mkF m 23 #[.val (.int (2 : Int32)), .val (.int p2), .val (.int p3), .val (.int p4), .val (.int p5)] [(.int (2 : Int32)), (.int (2 : Int32))])) _
    refine XS.icmpNo X0.here hx rfl (hb hby d1_23) rfl (teq (by decide : (2 : Int32) = (2 : Int32))).2 ?_
    show Steps p.tables e below (s₁.setTop (mkF m 26 #[.val (.int (2 : Int32)), .val (.int p2), .val (.int p3), .val (.int p4), .val (.int p5)] [])) _
    refine XS.iconst X0.here hx rfl (hb hby d1_26) ?_
    show Steps p.tables e below (s₁.setTop (mkF m 27 #[.val (.int (2 : Int32)), .val (.int p2), .val (.int p3), .val (.int p4), .val (.int p5)] [(.int (2 : Int32))])) _
    refine st6 _ ?_
    show Steps p.tables e below (T6.setTop (mkF m 29 #[.val (.int (2 : Int32)), .val (.int p2), .val (.int p3), .val (.int p4), .val (.int p5)] [(.ref b6)])) _
    refine XS.dup X6.here hx rfl (hb hby d1_29) rfl rfl ?_
    show Steps p.tables e below (T6.setTop (mkF m 30 #[.val (.int (2 : Int32)), .val (.int p2), .val (.int p3), .val (.int p4), .val (.int p5)] [(.ref b6), (.ref b6)])) _
    refine XS.iconst X6.here hx rfl (hb hby d1_30) ?_
    show Steps p.tables e below (T6.setTop (mkF m 31 #[.val (.int (2 : Int32)), .val (.int p2), .val (.int p3), .val (.int p4), .val (.int p5)] [(.int (0 : Int32)), (.ref b6), (.ref b6)])) _
    refine XS.iloadN X6.here hx rfl (hb hby d1_31) rfl ?_
    show Steps p.tables e below (T6.setTop (mkF m 32 #[.val (.int (2 : Int32)), .val (.int p2), .val (.int p3), .val (.int p4), .val (.int p5)] [(.int p2), (.int (0 : Int32)), (.ref b6), (.ref b6)])) _
    refine st7 _ ?_
    show Steps p.tables e below (T7.setTop (mkF m 33 #[.val (.int (2 : Int32)), .val (.int p2), .val (.int p3), .val (.int p4), .val (.int p5)] [(.ref b6)])) _
    refine XS.dup X7.here hx rfl (hb hby d1_33) rfl rfl ?_
    show Steps p.tables e below (T7.setTop (mkF m 34 #[.val (.int (2 : Int32)), .val (.int p2), .val (.int p3), .val (.int p4), .val (.int p5)] [(.ref b6), (.ref b6)])) _
    refine XS.iconst X7.here hx rfl (hb hby d1_34) ?_
    show Steps p.tables e below (T7.setTop (mkF m 35 #[.val (.int (2 : Int32)), .val (.int p2), .val (.int p3), .val (.int p4), .val (.int p5)] [(.int (1 : Int32)), (.ref b6), (.ref b6)])) _
    refine XS.iloadN X7.here hx rfl (hb hby d1_35) rfl ?_
    show Steps p.tables e below (T7.setTop (mkF m 36 #[.val (.int (2 : Int32)), .val (.int p2), .val (.int p3), .val (.int p4), .val (.int p5)] [(.int p3), (.int (1 : Int32)), (.ref b6), (.ref b6)])) _
    refine st8 _ ?_
    show Steps p.tables e below (T8.setTop (mkF m 37 #[.val (.int (2 : Int32)), .val (.int p2), .val (.int p3), .val (.int p4), .val (.int p5)] [(.ref b6)])) _
    jvm_step X8.here [X8.here.top, hx, (hb hby d1_37), X8.method', Bd.returns, Value.isRef, FieldType.isReference]
    first | (intro acts; rw [hr _ acts rfl rfl rfl]) | rw [hr _ _ rfl rfl rfl]
    exact Steps.refl _
  · show Q1_2 Z p2 p3 p4 p5 h0 n0 _ T8.heap _
    rw [e8]
    exact ⟨b6, k6, rfl, N8, K8, sz_b6, V_b6_8⟩
theorem d1_38 : decode method_3_code 38 = .ok (.iload_n 0, 1) := by decide +kernel
theorem d1_39 : decode method_3_code 39 = .ok (.iconst 3, 1) := by decide +kernel
theorem d1_40 : decode method_3_code 40 = .ok (.if_icmp .ne 19, 3) := by decide +kernel
theorem d1_43 : decode method_3_code 43 = .ok (.iconst 3, 1) := by decide +kernel
theorem d1_44 : decode method_3_code 44 = .ok (.newarray .byte, 2) := by decide +kernel
theorem d1_46 : decode method_3_code 46 = .ok (.dup, 1) := by decide +kernel
theorem d1_47 : decode method_3_code 47 = .ok (.iconst 0, 1) := by decide +kernel
theorem d1_48 : decode method_3_code 48 = .ok (.iload_n 1, 1) := by decide +kernel
theorem d1_49 : decode method_3_code 49 = .ok (.bastore, 1) := by decide +kernel
theorem d1_50 : decode method_3_code 50 = .ok (.dup, 1) := by decide +kernel
theorem d1_51 : decode method_3_code 51 = .ok (.iconst 1, 1) := by decide +kernel
theorem d1_52 : decode method_3_code 52 = .ok (.iload_n 2, 1) := by decide +kernel
theorem d1_53 : decode method_3_code 53 = .ok (.bastore, 1) := by decide +kernel
theorem d1_54 : decode method_3_code 54 = .ok (.dup, 1) := by decide +kernel
theorem d1_55 : decode method_3_code 55 = .ok (.iconst 2, 1) := by decide +kernel
theorem d1_56 : decode method_3_code 56 = .ok (.iload_n 3, 1) := by decide +kernel
theorem d1_57 : decode method_3_code 57 = .ok (.bastore, 1) := by decide +kernel
theorem d1_58 : decode method_3_code 58 = .ok (.areturn, 1) := by decide +kernel
def Q1_3 (Z : State) (p2 : Int32) (p3 : Int32) (p4 : Int32) (p5 : Int32) (h0 : Heap) (n0 : Nat) (v : Option Value) (h : Heap) (L : List Loc) : Prop := ∃ (b : Addr) (k : ClassId), v = some (.ref b) ∧ Fr n0 L ∧ Keep h0 h [] ∧ h0.size ≤ b ∧ Arv Z h b k .byte (3 : Int32) [.int (own_b p2), .int (own_b p3), .int (own_b p4)] (.int (0 : Int32))
set_option maxRecDepth 65536 in
set_option maxHeartbeats 40000000 in
theorem rm1_3 (l : Launch) (Z : State) (a0 : Array Value) (hw : ∀ d ∈ tables_1, d.before a0 Z = true) (ws : List Jvm.Cond) (p2 : Int32) (p3 : Int32) (p4 : Int32) (p5 : Int32) (h0 : Heap) (n0 : Nat) (Z0 : n0 ≤ h0.size) :
    MetFree l (⟨"com/example/concordat/concordat/identity/MllpFramePinLaw", "make", "(IBBBB)[B"⟩ : MethodName) (head1 (Jvm.Cond.code (⟨"com/example/concordat/concordat/identity/MllpFramePinLaw", "make", "(IBBBB)[B"⟩ : MethodName) method_3_code 5 (some (.array .byte)) :: ws) ({ frames := 0, cells := 1, slots := 4, locals := 0 } : Room)) (fun a U => a = #[(.int (3 : Int32)), (.int p2), (.int p3), (.int p4), (.int p5)] ∧ Z.Warmed39 U.vm ∧ U.heap = h0) (fun _ _ _ _ _ => True) (fun _ U o U' => ∃ v L, o = .returned v ∧ Q1_3 Z p2 p3 p4 p5 h0 n0 v U'.heap L ∧ FrameEnd U o U' L ({ frames := 0, cells := 1, slots := 4, locals := 0 } : Room).cells ({ frames := 0, cells := 1, slots := 4, locals := 0 } : Room).slots) := by
  refine MetFree.of_bodySF (plainFor_of_name pn_1) hisR ?_
  intro p e s m args below meth c s₁ Bd hml0 hP hK
  obtain ⟨rfl, hZ, hh⟩ := hP
  have hx := Bd.exec
  have hby := Bd.bytes
  have hml : c.maxLocals = 5 := hml0
  have hown : s.vm.findClass "com/example/concordat/concordat/identity/MllpFramePinLaw" = some m.cls := findClass_of_methodNamed Bd.named
  have hnm := (name_of_methodNamed Bd.named Bd.method).1
  have X0 : Stand p l e ({ frames := 0, cells := 1, slots := 4, locals := 0 } : Room) s m #[(.int (3 : Int32)), (.int p2), (.int p3), (.int p4), (.int p5)] below meth c s₁ [] 0 0 := Stand.of_body Bd
  have e0 : s₁.heap = h0 := by rw [← hh, Bd.state]; rfl
  have N0 := Fr.nil n0
  have pre0 : ∀ t, Steps p.tables e below (s₁.setTop (mkF m 0 #[.val (.int (3 : Int32)), .val (.int p2), .val (.int p3), .val (.int p4), .val (.int p5)] [])) t → Steps p.tables e below (s₁.setTop (entryFrame m #[(.int (3 : Int32)), (.int p2), (.int p3), (.int p4), (.int p5)] 5)) t := fun t k => castTop (ef_1 m (3 : Int32) p2 p3 p4 p5) k
  obtain ⟨T6, h6, k6, X6, e6, E6, A6, st6⟩ := newP X0 hx hZ (hw _ (List.mem_of_getElem? (i := 4) rfl)) e0 (g := (mkF m 44 #[.val (.int (3 : Int32)), .val (.int p2), .val (.int p3), .val (.int p4), .val (.int p5)] [(.int (3 : Int32))])) rfl (hb hby d1_44) rfl (by decide) (cap := 4) (by decide) (by decide) (by decide) (by decide)
  obtain ⟨b6, g6⟩ : ∃ z, z = h0.size := ⟨_, rfl⟩
  rw [← g6] at A6 st6
  have V_b6 : Arv Z h6 b6 k6 .byte (3 : Int32) [(.int (0 : Int32)), (.int (0 : Int32)), (.int (0 : Int32))] (.int (0 : Int32)) := (Arv.new A6 (by decide)).pad (pad_rep [] (.int (0 : Int32)) 3)
  have g_b6 : n0 ≤ b6 := Nat.le_trans Z0 (Nat.le_of_eq g6.symm)
  have sz_b6 : h0.size ≤ b6 := (Nat.le_trans (Keep.refl h0 []).1 (Nat.le_of_eq g6.symm))
  have K6 : Keep h0 h6 [] := (Keep.refl h0 []).ext E6
  obtain ⟨cl_b6_49, Ar_b6, q_b6, S_b6, N_b6, H_b6, G_b6⟩ := V_b6
  have hin49 : ¬ ((0 : Int32) < 0 ∨ cl_b6_49.slots.size ≤ ((0 : Int32)).toNatClampNeg) := inb_of S_b6 ⟨by decide, by decide⟩
  obtain ⟨T7, h7, X7, e7, W7, st7⟩ := stB X6 hx hZ e6 Ar_b6 (j := (0 : Int32)) hin49 (g := (mkF m 49 #[.val (.int (3 : Int32)), .val (.int p2), .val (.int p3), .val (.int p4), .val (.int p5)] [(.int p2), (.int (0 : Int32)), (.ref b6), (.ref b6)])) rfl rfl (hb hby d1_49)
  have V_b6_7 := Arv.set Ar_b6 q_b6 S_b6 N_b6 H_b6 G_b6 (fits_nar_byte _) W7 0 rfl (Nat.le_of_ble_eq_true rfl)
  have K7 : Keep h0 h7 [] := K6.wr W7 (Or.inr sz_b6)
  have N7 := Fr.snoc X7 N0 g_b6
  obtain ⟨cl_b6_53, Ar_b6, q_b6, S_b6, N_b6, H_b6, G_b6⟩ := V_b6_7
  have hin53 : ¬ ((1 : Int32) < 0 ∨ cl_b6_53.slots.size ≤ ((1 : Int32)).toNatClampNeg) := inb_of S_b6 ⟨by decide, by decide⟩
  obtain ⟨T8, h8, X8, e8, W8, st8⟩ := stB X7 hx hZ e7 Ar_b6 (j := (1 : Int32)) hin53 (g := (mkF m 53 #[.val (.int (3 : Int32)), .val (.int p2), .val (.int p3), .val (.int p4), .val (.int p5)] [(.int p3), (.int (1 : Int32)), (.ref b6), (.ref b6)])) rfl rfl (hb hby d1_53)
  have V_b6_8 := Arv.set Ar_b6 q_b6 S_b6 N_b6 H_b6 G_b6 (fits_nar_byte _) W8 1 rfl (Nat.le_of_ble_eq_true rfl)
  have K8 : Keep h0 h8 [] := K7.wr W8 (Or.inr sz_b6)
  have N8 := Fr.snoc X8 N7 g_b6
  obtain ⟨cl_b6_57, Ar_b6, q_b6, S_b6, N_b6, H_b6, G_b6⟩ := V_b6_8
  have hin57 : ¬ ((2 : Int32) < 0 ∨ cl_b6_57.slots.size ≤ ((2 : Int32)).toNatClampNeg) := inb_of S_b6 ⟨by decide, by decide⟩
  obtain ⟨T9, h9, X9, e9, W9, st9⟩ := stB X8 hx hZ e8 Ar_b6 (j := (2 : Int32)) hin57 (g := (mkF m 57 #[.val (.int (3 : Int32)), .val (.int p2), .val (.int p3), .val (.int p4), .val (.int p5)] [(.int p4), (.int (2 : Int32)), (.ref b6), (.ref b6)])) rfl rfl (hb hby d1_57)
  have V_b6_9 := Arv.set Ar_b6 q_b6 S_b6 N_b6 H_b6 G_b6 (fits_nar_byte _) W9 2 rfl (Nat.le_of_ble_eq_true rfl)
  have K9 : Keep h0 h9 [] := K8.wr W9 (Or.inr sz_b6)
  have N9 := Fr.snoc X9 N8 g_b6
  obtain ⟨fs, hr, hrun, hended, hW, hsame⟩ := X9.leave (v := some (.ref b6)) (fun h => by rw [Bd.returns] at h; cases h)
  refine ⟨_, _, pre0 _ ?_, hrun, hended, _, _, rfl, ?_, ⟨_, rfl⟩, hW, hsame.mono (by decide) (by decide)⟩
  · show Steps p.tables e below (s₁.setTop (mkF m 0 #[.val (.int (3 : Int32)), .val (.int p2), .val (.int p3), .val (.int p4), .val (.int p5)] [])) _
    refine XS.iloadN X0.here hx rfl (hb hby d1_0) rfl ?_
    show Steps p.tables e below (s₁.setTop (mkF m 1 #[.val (.int (3 : Int32)), .val (.int p2), .val (.int p3), .val (.int p4), .val (.int p5)] [(.int (3 : Int32))])) _
    refine XS.ifYes X0.here hx rfl (pc0 := 1) (pc' := 8) rfl (hb hby d1_1) rfl ((if0 _ _).trans (feq (by decide : ¬ ((3 : Int32) = (0 : Int32)))).2) (by decide) (by decide) ?_
    show Steps p.tables e below (s₁.setTop (mkF m 8 #[.val (.int (3 : Int32)), .val (.int p2), .val (.int p3), .val (.int p4), .val (.int p5)] [])) _
    refine XS.iloadN X0.here hx rfl (hb hby d1_8) rfl ?_
    show Steps p.tables e below (s₁.setTop (mkF m 9 #[.val (.int (3 : Int32)), .val (.int p2), .val (.int p3), .val (.int p4), .val (.int p5)] [(.int (3 : Int32))])) _
    refine XS.iconst X0.here hx rfl (hb hby d1_9) ?_
    show Steps p.tables e below (s₁.setTop (mkF m 10 #[.val (.int (3 : Int32)), .val (.int p2), .val (.int p3), .val (.int p4), .val (.int p5)] [(.int (1 : Int32)), (.int (3 : Int32))])) _
    refine XS.icmpYes X0.here hx rfl (pc0 := 10) (pc' := 21) rfl (hb hby d1_10) rfl (feq (by decide : ¬ ((3 : Int32) = (1 : Int32)))).2 (by decide) (by decide) ?_
    show Steps p.tables e below (s₁.setTop (mkF m 21 #[.val (.int (3 : Int32)), .val (.int p2), .val (.int p3), .val (.int p4), .val (.int p5)] [])) _
    refine XS.iloadN X0.here hx rfl (hb hby d1_21) rfl ?_
    show Steps p.tables e below (s₁.setTop (mkF m 22 #[.val (.int (3 : Int32)), .val (.int p2), .val (.int p3), .val (.int p4), .val (.int p5)] [(.int (3 : Int32))])) _
    refine XS.iconst X0.here hx rfl (hb hby d1_22) ?_
    show Steps p.tables e below (s₁.setTop (mkF m 23 #[.val (.int (3 : Int32)), .val (.int p2), .val (.int p3), .val (.int p4), .val (.int p5)] [(.int (2 : Int32)), (.int (3 : Int32))])) _
    refine XS.icmpYes X0.here hx rfl (pc0 := 23) (pc' := 38) rfl (hb hby d1_23) rfl (feq (by decide : ¬ ((3 : Int32) = (2 : Int32)))).2 (by decide) (by decide) ?_
    show Steps p.tables e below (s₁.setTop (mkF m 38 #[.val (.int (3 : Int32)), .val (.int p2), .val (.int p3), .val (.int p4), .val (.int p5)] [])) _
    refine XS.iloadN X0.here hx rfl (hb hby d1_38) rfl ?_
    show Steps p.tables e below (s₁.setTop (mkF m 39 #[.val (.int (3 : Int32)), .val (.int p2), .val (.int p3), .val (.int p4), .val (.int p5)] [(.int (3 : Int32))])) _
    refine XS.iconst X0.here hx rfl (hb hby d1_39) ?_
    show Steps p.tables e below (s₁.setTop (mkF m 40 #[.val (.int (3 : Int32)), .val (.int p2), .val (.int p3), .val (.int p4), .val (.int p5)] [(.int (3 : Int32)), (.int (3 : Int32))])) _
    refine XS.icmpNo X0.here hx rfl (hb hby d1_40) rfl (teq (by decide : (3 : Int32) = (3 : Int32))).2 ?_
    show Steps p.tables e below (s₁.setTop (mkF m 43 #[.val (.int (3 : Int32)), .val (.int p2), .val (.int p3), .val (.int p4), .val (.int p5)] [])) _
    refine XS.iconst X0.here hx rfl (hb hby d1_43) ?_
    show Steps p.tables e below (s₁.setTop (mkF m 44 #[.val (.int (3 : Int32)), .val (.int p2), .val (.int p3), .val (.int p4), .val (.int p5)] [(.int (3 : Int32))])) _
    refine st6 _ ?_
    show Steps p.tables e below (T6.setTop (mkF m 46 #[.val (.int (3 : Int32)), .val (.int p2), .val (.int p3), .val (.int p4), .val (.int p5)] [(.ref b6)])) _
    refine XS.dup X6.here hx rfl (hb hby d1_46) rfl rfl ?_
    show Steps p.tables e below (T6.setTop (mkF m 47 #[.val (.int (3 : Int32)), .val (.int p2), .val (.int p3), .val (.int p4), .val (.int p5)] [(.ref b6), (.ref b6)])) _
    refine XS.iconst X6.here hx rfl (hb hby d1_47) ?_
    show Steps p.tables e below (T6.setTop (mkF m 48 #[.val (.int (3 : Int32)), .val (.int p2), .val (.int p3), .val (.int p4), .val (.int p5)] [(.int (0 : Int32)), (.ref b6), (.ref b6)])) _
    refine XS.iloadN X6.here hx rfl (hb hby d1_48) rfl ?_
    show Steps p.tables e below (T6.setTop (mkF m 49 #[.val (.int (3 : Int32)), .val (.int p2), .val (.int p3), .val (.int p4), .val (.int p5)] [(.int p2), (.int (0 : Int32)), (.ref b6), (.ref b6)])) _
    refine st7 _ ?_
    show Steps p.tables e below (T7.setTop (mkF m 50 #[.val (.int (3 : Int32)), .val (.int p2), .val (.int p3), .val (.int p4), .val (.int p5)] [(.ref b6)])) _
    refine XS.dup X7.here hx rfl (hb hby d1_50) rfl rfl ?_
    show Steps p.tables e below (T7.setTop (mkF m 51 #[.val (.int (3 : Int32)), .val (.int p2), .val (.int p3), .val (.int p4), .val (.int p5)] [(.ref b6), (.ref b6)])) _
    refine XS.iconst X7.here hx rfl (hb hby d1_51) ?_
    show Steps p.tables e below (T7.setTop (mkF m 52 #[.val (.int (3 : Int32)), .val (.int p2), .val (.int p3), .val (.int p4), .val (.int p5)] [(.int (1 : Int32)), (.ref b6), (.ref b6)])) _
    refine XS.iloadN X7.here hx rfl (hb hby d1_52) rfl ?_
    show Steps p.tables e below (T7.setTop (mkF m 53 #[.val (.int (3 : Int32)), .val (.int p2), .val (.int p3), .val (.int p4), .val (.int p5)] [(.int p3), (.int (1 : Int32)), (.ref b6), (.ref b6)])) _
    refine st8 _ ?_
    show Steps p.tables e below (T8.setTop (mkF m 54 #[.val (.int (3 : Int32)), .val (.int p2), .val (.int p3), .val (.int p4), .val (.int p5)] [(.ref b6)])) _
    refine XS.dup X8.here hx rfl (hb hby d1_54) rfl rfl ?_
    show Steps p.tables e below (T8.setTop (mkF m 55 #[.val (.int (3 : Int32)), .val (.int p2), .val (.int p3), .val (.int p4), .val (.int p5)] [(.ref b6), (.ref b6)])) _
    refine XS.iconst X8.here hx rfl (hb hby d1_55) ?_
    show Steps p.tables e below (T8.setTop (mkF m 56 #[.val (.int (3 : Int32)), .val (.int p2), .val (.int p3), .val (.int p4), .val (.int p5)] [(.int (2 : Int32)), (.ref b6), (.ref b6)])) _
    refine XS.iloadN X8.here hx rfl (hb hby d1_56) rfl ?_
    show Steps p.tables e below (T8.setTop (mkF m 57 #[.val (.int (3 : Int32)), .val (.int p2), .val (.int p3), .val (.int p4), .val (.int p5)] [(.int p4), (.int (2 : Int32)), (.ref b6), (.ref b6)])) _
    refine st9 _ ?_
    show Steps p.tables e below (T9.setTop (mkF m 58 #[.val (.int (3 : Int32)), .val (.int p2), .val (.int p3), .val (.int p4), .val (.int p5)] [(.ref b6)])) _
    jvm_step X9.here [X9.here.top, hx, (hb hby d1_58), X9.method', Bd.returns, Value.isRef, FieldType.isReference]
    first | (intro acts; rw [hr _ acts rfl rfl rfl]) | rw [hr _ _ rfl rfl rfl]
    exact Steps.refl _
  · show Q1_3 Z p2 p3 p4 p5 h0 n0 _ T9.heap _
    rw [e9]
    exact ⟨b6, k6, rfl, N9, K9, sz_b6, V_b6_9⟩
theorem d1_59 : decode method_3_code 59 = .ok (.iconst 4, 1) := by decide +kernel
theorem d1_60 : decode method_3_code 60 = .ok (.newarray .byte, 2) := by decide +kernel
theorem d1_62 : decode method_3_code 62 = .ok (.dup, 1) := by decide +kernel
theorem d1_63 : decode method_3_code 63 = .ok (.iconst 0, 1) := by decide +kernel
theorem d1_64 : decode method_3_code 64 = .ok (.iload_n 1, 1) := by decide +kernel
theorem d1_65 : decode method_3_code 65 = .ok (.bastore, 1) := by decide +kernel
theorem d1_66 : decode method_3_code 66 = .ok (.dup, 1) := by decide +kernel
theorem d1_67 : decode method_3_code 67 = .ok (.iconst 1, 1) := by decide +kernel
theorem d1_68 : decode method_3_code 68 = .ok (.iload_n 2, 1) := by decide +kernel
theorem d1_69 : decode method_3_code 69 = .ok (.bastore, 1) := by decide +kernel
theorem d1_70 : decode method_3_code 70 = .ok (.dup, 1) := by decide +kernel
theorem d1_71 : decode method_3_code 71 = .ok (.iconst 2, 1) := by decide +kernel
theorem d1_72 : decode method_3_code 72 = .ok (.iload_n 3, 1) := by decide +kernel
theorem d1_73 : decode method_3_code 73 = .ok (.bastore, 1) := by decide +kernel
theorem d1_74 : decode method_3_code 74 = .ok (.dup, 1) := by decide +kernel
theorem d1_75 : decode method_3_code 75 = .ok (.iconst 3, 1) := by decide +kernel
theorem d1_76 : decode method_3_code 76 = .ok (.iload 4, 2) := by decide +kernel
theorem d1_78 : decode method_3_code 78 = .ok (.bastore, 1) := by decide +kernel
theorem d1_79 : decode method_3_code 79 = .ok (.areturn, 1) := by decide +kernel
def Q1_4 (Z : State) (p2 : Int32) (p3 : Int32) (p4 : Int32) (p5 : Int32) (h0 : Heap) (n0 : Nat) (v : Option Value) (h : Heap) (L : List Loc) : Prop := ∃ (b : Addr) (k : ClassId), v = some (.ref b) ∧ Fr n0 L ∧ Keep h0 h [] ∧ h0.size ≤ b ∧ Arv Z h b k .byte (4 : Int32) [.int (own_b p2), .int (own_b p3), .int (own_b p4), .int (own_b p5)] (.int (0 : Int32))
set_option maxRecDepth 65536 in
set_option maxHeartbeats 40000000 in
theorem rm1_4 (l : Launch) (Z : State) (a0 : Array Value) (hw : ∀ d ∈ tables_1, d.before a0 Z = true) (ws : List Jvm.Cond) (p2 : Int32) (p3 : Int32) (p4 : Int32) (p5 : Int32) (h0 : Heap) (n0 : Nat) (Z0 : n0 ≤ h0.size) :
    MetFree l (⟨"com/example/concordat/concordat/identity/MllpFramePinLaw", "make", "(IBBBB)[B"⟩ : MethodName) (head1 (Jvm.Cond.code (⟨"com/example/concordat/concordat/identity/MllpFramePinLaw", "make", "(IBBBB)[B"⟩ : MethodName) method_3_code 5 (some (.array .byte)) :: ws) ({ frames := 0, cells := 1, slots := 4, locals := 0 } : Room)) (fun a U => a = #[(.int (4 : Int32)), (.int p2), (.int p3), (.int p4), (.int p5)] ∧ Z.Warmed39 U.vm ∧ U.heap = h0) (fun _ _ _ _ _ => True) (fun _ U o U' => ∃ v L, o = .returned v ∧ Q1_4 Z p2 p3 p4 p5 h0 n0 v U'.heap L ∧ FrameEnd U o U' L ({ frames := 0, cells := 1, slots := 4, locals := 0 } : Room).cells ({ frames := 0, cells := 1, slots := 4, locals := 0 } : Room).slots) := by
  refine MetFree.of_bodySF (plainFor_of_name pn_1) hisR ?_
  intro p e s m args below meth c s₁ Bd hml0 hP hK
  obtain ⟨rfl, hZ, hh⟩ := hP
  have hx := Bd.exec
  have hby := Bd.bytes
  have hml : c.maxLocals = 5 := hml0
  have hown : s.vm.findClass "com/example/concordat/concordat/identity/MllpFramePinLaw" = some m.cls := findClass_of_methodNamed Bd.named
  have hnm := (name_of_methodNamed Bd.named Bd.method).1
  have X0 : Stand p l e ({ frames := 0, cells := 1, slots := 4, locals := 0 } : Room) s m #[(.int (4 : Int32)), (.int p2), (.int p3), (.int p4), (.int p5)] below meth c s₁ [] 0 0 := Stand.of_body Bd
  have e0 : s₁.heap = h0 := by rw [← hh, Bd.state]; rfl
  have N0 := Fr.nil n0
  have pre0 : ∀ t, Steps p.tables e below (s₁.setTop (mkF m 0 #[.val (.int (4 : Int32)), .val (.int p2), .val (.int p3), .val (.int p4), .val (.int p5)] [])) t → Steps p.tables e below (s₁.setTop (entryFrame m #[(.int (4 : Int32)), (.int p2), (.int p3), (.int p4), (.int p5)] 5)) t := fun t k => castTop (ef_1 m (4 : Int32) p2 p3 p4 p5) k
  obtain ⟨T6, h6, k6, X6, e6, E6, A6, st6⟩ := newP X0 hx hZ (hw _ (List.mem_of_getElem? (i := 4) rfl)) e0 (g := (mkF m 60 #[.val (.int (4 : Int32)), .val (.int p2), .val (.int p3), .val (.int p4), .val (.int p5)] [(.int (4 : Int32))])) rfl (hb hby d1_60) rfl (by decide) (cap := 4) (by decide) (by decide) (by decide) (by decide)
  obtain ⟨b6, g6⟩ : ∃ z, z = h0.size := ⟨_, rfl⟩
  rw [← g6] at A6 st6
  have V_b6 : Arv Z h6 b6 k6 .byte (4 : Int32) [(.int (0 : Int32)), (.int (0 : Int32)), (.int (0 : Int32)), (.int (0 : Int32))] (.int (0 : Int32)) := (Arv.new A6 (by decide)).pad (pad_rep [] (.int (0 : Int32)) 4)
  have g_b6 : n0 ≤ b6 := Nat.le_trans Z0 (Nat.le_of_eq g6.symm)
  have sz_b6 : h0.size ≤ b6 := (Nat.le_trans (Keep.refl h0 []).1 (Nat.le_of_eq g6.symm))
  have K6 : Keep h0 h6 [] := (Keep.refl h0 []).ext E6
  obtain ⟨cl_b6_65, Ar_b6, q_b6, S_b6, N_b6, H_b6, G_b6⟩ := V_b6
  have hin65 : ¬ ((0 : Int32) < 0 ∨ cl_b6_65.slots.size ≤ ((0 : Int32)).toNatClampNeg) := inb_of S_b6 ⟨by decide, by decide⟩
  obtain ⟨T7, h7, X7, e7, W7, st7⟩ := stB X6 hx hZ e6 Ar_b6 (j := (0 : Int32)) hin65 (g := (mkF m 65 #[.val (.int (4 : Int32)), .val (.int p2), .val (.int p3), .val (.int p4), .val (.int p5)] [(.int p2), (.int (0 : Int32)), (.ref b6), (.ref b6)])) rfl rfl (hb hby d1_65)
  have V_b6_7 := Arv.set Ar_b6 q_b6 S_b6 N_b6 H_b6 G_b6 (fits_nar_byte _) W7 0 rfl (Nat.le_of_ble_eq_true rfl)
  have K7 : Keep h0 h7 [] := K6.wr W7 (Or.inr sz_b6)
  have N7 := Fr.snoc X7 N0 g_b6
  obtain ⟨cl_b6_69, Ar_b6, q_b6, S_b6, N_b6, H_b6, G_b6⟩ := V_b6_7
  have hin69 : ¬ ((1 : Int32) < 0 ∨ cl_b6_69.slots.size ≤ ((1 : Int32)).toNatClampNeg) := inb_of S_b6 ⟨by decide, by decide⟩
  obtain ⟨T8, h8, X8, e8, W8, st8⟩ := stB X7 hx hZ e7 Ar_b6 (j := (1 : Int32)) hin69 (g := (mkF m 69 #[.val (.int (4 : Int32)), .val (.int p2), .val (.int p3), .val (.int p4), .val (.int p5)] [(.int p3), (.int (1 : Int32)), (.ref b6), (.ref b6)])) rfl rfl (hb hby d1_69)
  have V_b6_8 := Arv.set Ar_b6 q_b6 S_b6 N_b6 H_b6 G_b6 (fits_nar_byte _) W8 1 rfl (Nat.le_of_ble_eq_true rfl)
  have K8 : Keep h0 h8 [] := K7.wr W8 (Or.inr sz_b6)
  have N8 := Fr.snoc X8 N7 g_b6
  obtain ⟨cl_b6_73, Ar_b6, q_b6, S_b6, N_b6, H_b6, G_b6⟩ := V_b6_8
  have hin73 : ¬ ((2 : Int32) < 0 ∨ cl_b6_73.slots.size ≤ ((2 : Int32)).toNatClampNeg) := inb_of S_b6 ⟨by decide, by decide⟩
  obtain ⟨T9, h9, X9, e9, W9, st9⟩ := stB X8 hx hZ e8 Ar_b6 (j := (2 : Int32)) hin73 (g := (mkF m 73 #[.val (.int (4 : Int32)), .val (.int p2), .val (.int p3), .val (.int p4), .val (.int p5)] [(.int p4), (.int (2 : Int32)), (.ref b6), (.ref b6)])) rfl rfl (hb hby d1_73)
  have V_b6_9 := Arv.set Ar_b6 q_b6 S_b6 N_b6 H_b6 G_b6 (fits_nar_byte _) W9 2 rfl (Nat.le_of_ble_eq_true rfl)
  have K9 : Keep h0 h9 [] := K8.wr W9 (Or.inr sz_b6)
  have N9 := Fr.snoc X9 N8 g_b6
  obtain ⟨cl_b6_78, Ar_b6, q_b6, S_b6, N_b6, H_b6, G_b6⟩ := V_b6_9
  have hin78 : ¬ ((3 : Int32) < 0 ∨ cl_b6_78.slots.size ≤ ((3 : Int32)).toNatClampNeg) := inb_of S_b6 ⟨by decide, by decide⟩
  obtain ⟨T10, h10, X10, e10, W10, st10⟩ := stB X9 hx hZ e9 Ar_b6 (j := (3 : Int32)) hin78 (g := (mkF m 78 #[.val (.int (4 : Int32)), .val (.int p2), .val (.int p3), .val (.int p4), .val (.int p5)] [(.int p5), (.int (3 : Int32)), (.ref b6), (.ref b6)])) rfl rfl (hb hby d1_78)
  have V_b6_10 := Arv.set Ar_b6 q_b6 S_b6 N_b6 H_b6 G_b6 (fits_nar_byte _) W10 3 rfl (Nat.le_of_ble_eq_true rfl)
  have K10 : Keep h0 h10 [] := K9.wr W10 (Or.inr sz_b6)
  have N10 := Fr.snoc X10 N9 g_b6
  obtain ⟨fs, hr, hrun, hended, hW, hsame⟩ := X10.leave (v := some (.ref b6)) (fun h => by rw [Bd.returns] at h; cases h)
  refine ⟨_, _, pre0 _ ?_, hrun, hended, _, _, rfl, ?_, ⟨_, rfl⟩, hW, hsame.mono (by decide) (by decide)⟩
  · show Steps p.tables e below (s₁.setTop (mkF m 0 #[.val (.int (4 : Int32)), .val (.int p2), .val (.int p3), .val (.int p4), .val (.int p5)] [])) _
    refine XS.iloadN X0.here hx rfl (hb hby d1_0) rfl ?_
    show Steps p.tables e below (s₁.setTop (mkF m 1 #[.val (.int (4 : Int32)), .val (.int p2), .val (.int p3), .val (.int p4), .val (.int p5)] [(.int (4 : Int32))])) _
    refine XS.ifYes X0.here hx rfl (pc0 := 1) (pc' := 8) rfl (hb hby d1_1) rfl ((if0 _ _).trans (feq (by decide : ¬ ((4 : Int32) = (0 : Int32)))).2) (by decide) (by decide) ?_
    show Steps p.tables e below (s₁.setTop (mkF m 8 #[.val (.int (4 : Int32)), .val (.int p2), .val (.int p3), .val (.int p4), .val (.int p5)] [])) _
    refine XS.iloadN X0.here hx rfl (hb hby d1_8) rfl ?_
    show Steps p.tables e below (s₁.setTop (mkF m 9 #[.val (.int (4 : Int32)), .val (.int p2), .val (.int p3), .val (.int p4), .val (.int p5)] [(.int (4 : Int32))])) _
    refine XS.iconst X0.here hx rfl (hb hby d1_9) ?_
    show Steps p.tables e below (s₁.setTop (mkF m 10 #[.val (.int (4 : Int32)), .val (.int p2), .val (.int p3), .val (.int p4), .val (.int p5)] [(.int (1 : Int32)), (.int (4 : Int32))])) _
    refine XS.icmpYes X0.here hx rfl (pc0 := 10) (pc' := 21) rfl (hb hby d1_10) rfl (feq (by decide : ¬ ((4 : Int32) = (1 : Int32)))).2 (by decide) (by decide) ?_
    show Steps p.tables e below (s₁.setTop (mkF m 21 #[.val (.int (4 : Int32)), .val (.int p2), .val (.int p3), .val (.int p4), .val (.int p5)] [])) _
    refine XS.iloadN X0.here hx rfl (hb hby d1_21) rfl ?_
    show Steps p.tables e below (s₁.setTop (mkF m 22 #[.val (.int (4 : Int32)), .val (.int p2), .val (.int p3), .val (.int p4), .val (.int p5)] [(.int (4 : Int32))])) _
    refine XS.iconst X0.here hx rfl (hb hby d1_22) ?_
    show Steps p.tables e below (s₁.setTop (mkF m 23 #[.val (.int (4 : Int32)), .val (.int p2), .val (.int p3), .val (.int p4), .val (.int p5)] [(.int (2 : Int32)), (.int (4 : Int32))])) _
    refine XS.icmpYes X0.here hx rfl (pc0 := 23) (pc' := 38) rfl (hb hby d1_23) rfl (feq (by decide : ¬ ((4 : Int32) = (2 : Int32)))).2 (by decide) (by decide) ?_
    show Steps p.tables e below (s₁.setTop (mkF m 38 #[.val (.int (4 : Int32)), .val (.int p2), .val (.int p3), .val (.int p4), .val (.int p5)] [])) _
    refine XS.iloadN X0.here hx rfl (hb hby d1_38) rfl ?_
    show Steps p.tables e below (s₁.setTop (mkF m 39 #[.val (.int (4 : Int32)), .val (.int p2), .val (.int p3), .val (.int p4), .val (.int p5)] [(.int (4 : Int32))])) _
    refine XS.iconst X0.here hx rfl (hb hby d1_39) ?_
    show Steps p.tables e below (s₁.setTop (mkF m 40 #[.val (.int (4 : Int32)), .val (.int p2), .val (.int p3), .val (.int p4), .val (.int p5)] [(.int (3 : Int32)), (.int (4 : Int32))])) _
    refine XS.icmpYes X0.here hx rfl (pc0 := 40) (pc' := 59) rfl (hb hby d1_40) rfl (feq (by decide : ¬ ((4 : Int32) = (3 : Int32)))).2 (by decide) (by decide) ?_
    show Steps p.tables e below (s₁.setTop (mkF m 59 #[.val (.int (4 : Int32)), .val (.int p2), .val (.int p3), .val (.int p4), .val (.int p5)] [])) _
    refine XS.iconst X0.here hx rfl (hb hby d1_59) ?_
    show Steps p.tables e below (s₁.setTop (mkF m 60 #[.val (.int (4 : Int32)), .val (.int p2), .val (.int p3), .val (.int p4), .val (.int p5)] [(.int (4 : Int32))])) _
    refine st6 _ ?_
    show Steps p.tables e below (T6.setTop (mkF m 62 #[.val (.int (4 : Int32)), .val (.int p2), .val (.int p3), .val (.int p4), .val (.int p5)] [(.ref b6)])) _
    refine XS.dup X6.here hx rfl (hb hby d1_62) rfl rfl ?_
    show Steps p.tables e below (T6.setTop (mkF m 63 #[.val (.int (4 : Int32)), .val (.int p2), .val (.int p3), .val (.int p4), .val (.int p5)] [(.ref b6), (.ref b6)])) _
    refine XS.iconst X6.here hx rfl (hb hby d1_63) ?_
    show Steps p.tables e below (T6.setTop (mkF m 64 #[.val (.int (4 : Int32)), .val (.int p2), .val (.int p3), .val (.int p4), .val (.int p5)] [(.int (0 : Int32)), (.ref b6), (.ref b6)])) _
    refine XS.iloadN X6.here hx rfl (hb hby d1_64) rfl ?_
    show Steps p.tables e below (T6.setTop (mkF m 65 #[.val (.int (4 : Int32)), .val (.int p2), .val (.int p3), .val (.int p4), .val (.int p5)] [(.int p2), (.int (0 : Int32)), (.ref b6), (.ref b6)])) _
    refine st7 _ ?_
    show Steps p.tables e below (T7.setTop (mkF m 66 #[.val (.int (4 : Int32)), .val (.int p2), .val (.int p3), .val (.int p4), .val (.int p5)] [(.ref b6)])) _
    refine XS.dup X7.here hx rfl (hb hby d1_66) rfl rfl ?_
    show Steps p.tables e below (T7.setTop (mkF m 67 #[.val (.int (4 : Int32)), .val (.int p2), .val (.int p3), .val (.int p4), .val (.int p5)] [(.ref b6), (.ref b6)])) _
    refine XS.iconst X7.here hx rfl (hb hby d1_67) ?_
    show Steps p.tables e below (T7.setTop (mkF m 68 #[.val (.int (4 : Int32)), .val (.int p2), .val (.int p3), .val (.int p4), .val (.int p5)] [(.int (1 : Int32)), (.ref b6), (.ref b6)])) _
    refine XS.iloadN X7.here hx rfl (hb hby d1_68) rfl ?_
    show Steps p.tables e below (T7.setTop (mkF m 69 #[.val (.int (4 : Int32)), .val (.int p2), .val (.int p3), .val (.int p4), .val (.int p5)] [(.int p3), (.int (1 : Int32)), (.ref b6), (.ref b6)])) _
    refine st8 _ ?_
    show Steps p.tables e below (T8.setTop (mkF m 70 #[.val (.int (4 : Int32)), .val (.int p2), .val (.int p3), .val (.int p4), .val (.int p5)] [(.ref b6)])) _
    refine XS.dup X8.here hx rfl (hb hby d1_70) rfl rfl ?_
    show Steps p.tables e below (T8.setTop (mkF m 71 #[.val (.int (4 : Int32)), .val (.int p2), .val (.int p3), .val (.int p4), .val (.int p5)] [(.ref b6), (.ref b6)])) _
    refine XS.iconst X8.here hx rfl (hb hby d1_71) ?_
    show Steps p.tables e below (T8.setTop (mkF m 72 #[.val (.int (4 : Int32)), .val (.int p2), .val (.int p3), .val (.int p4), .val (.int p5)] [(.int (2 : Int32)), (.ref b6), (.ref b6)])) _
    refine XS.iloadN X8.here hx rfl (hb hby d1_72) rfl ?_
    show Steps p.tables e below (T8.setTop (mkF m 73 #[.val (.int (4 : Int32)), .val (.int p2), .val (.int p3), .val (.int p4), .val (.int p5)] [(.int p4), (.int (2 : Int32)), (.ref b6), (.ref b6)])) _
    refine st9 _ ?_
    show Steps p.tables e below (T9.setTop (mkF m 74 #[.val (.int (4 : Int32)), .val (.int p2), .val (.int p3), .val (.int p4), .val (.int p5)] [(.ref b6)])) _
    refine XS.dup X9.here hx rfl (hb hby d1_74) rfl rfl ?_
    show Steps p.tables e below (T9.setTop (mkF m 75 #[.val (.int (4 : Int32)), .val (.int p2), .val (.int p3), .val (.int p4), .val (.int p5)] [(.ref b6), (.ref b6)])) _
    refine XS.iconst X9.here hx rfl (hb hby d1_75) ?_
    show Steps p.tables e below (T9.setTop (mkF m 76 #[.val (.int (4 : Int32)), .val (.int p2), .val (.int p3), .val (.int p4), .val (.int p5)] [(.int (3 : Int32)), (.ref b6), (.ref b6)])) _
    refine XS.iload X9.here hx rfl (hb hby d1_76) rfl ?_
    show Steps p.tables e below (T9.setTop (mkF m 78 #[.val (.int (4 : Int32)), .val (.int p2), .val (.int p3), .val (.int p4), .val (.int p5)] [(.int p5), (.int (3 : Int32)), (.ref b6), (.ref b6)])) _
    refine st10 _ ?_
    show Steps p.tables e below (T10.setTop (mkF m 79 #[.val (.int (4 : Int32)), .val (.int p2), .val (.int p3), .val (.int p4), .val (.int p5)] [(.ref b6)])) _
    jvm_step X10.here [X10.here.top, hx, (hb hby d1_79), X10.method', Bd.returns, Value.isRef, FieldType.isReference]
    first | (intro acts; rw [hr _ acts rfl rfl rfl]) | rw [hr _ _ rfl rfl rfl]
    exact Steps.refl _
  · show Q1_4 Z p2 p3 p4 p5 h0 n0 _ T10.heap _
    rw [e10]
    exact ⟨b6, k6, rfl, N10, K10, sz_b6, V_b6_10⟩
theorem d2_0 : decode prog_50_method_3_code 0 = .ok (.aload_n 0, 1) := by decide +kernel
theorem d2_1 : decode prog_50_method_3_code 1 = .ok (.arraylength, 1) := by decide +kernel
theorem d2_2 : decode prog_50_method_3_code 2 = .ok (.iconst 3, 1) := by decide +kernel
theorem d2_3 : decode prog_50_method_3_code 3 = .ok (.iadd, 1) := by decide +kernel
theorem d2_4 : decode prog_50_method_3_code 4 = .ok (.newarray .byte, 2) := by decide +kernel
theorem d2_6 : decode prog_50_method_3_code 6 = .ok (.astore_n 1, 1) := by decide +kernel
theorem d2_7 : decode prog_50_method_3_code 7 = .ok (.aload_n 1, 1) := by decide +kernel
theorem d2_8 : decode prog_50_method_3_code 8 = .ok (.iconst 0, 1) := by decide +kernel
theorem d2_9 : decode prog_50_method_3_code 9 = .ok (.bipush 11, 2) := by decide +kernel
theorem d2_11 : decode prog_50_method_3_code 11 = .ok (.bastore, 1) := by decide +kernel
theorem d2_12 : decode prog_50_method_3_code 12 = .ok (.aload_n 0, 1) := by decide +kernel
theorem d2_13 : decode prog_50_method_3_code 13 = .ok (.iconst 0, 1) := by decide +kernel
theorem d2_14 : decode prog_50_method_3_code 14 = .ok (.aload_n 1, 1) := by decide +kernel
theorem d2_15 : decode prog_50_method_3_code 15 = .ok (.iconst 1, 1) := by decide +kernel
theorem d2_16 : decode prog_50_method_3_code 16 = .ok (.aload_n 0, 1) := by decide +kernel
theorem d2_17 : decode prog_50_method_3_code 17 = .ok (.arraylength, 1) := by decide +kernel
theorem d2_18 : decode prog_50_method_3_code 18 = .ok (.invokestatic 45, 3) := by decide +kernel
theorem d2_21 : decode prog_50_method_3_code 21 = .ok (.aload_n 1, 1) := by decide +kernel
theorem d2_22 : decode prog_50_method_3_code 22 = .ok (.aload_n 0, 1) := by decide +kernel
theorem d2_23 : decode prog_50_method_3_code 23 = .ok (.arraylength, 1) := by decide +kernel
theorem d2_24 : decode prog_50_method_3_code 24 = .ok (.iconst 1, 1) := by decide +kernel
theorem d2_25 : decode prog_50_method_3_code 25 = .ok (.iadd, 1) := by decide +kernel
theorem d2_26 : decode prog_50_method_3_code 26 = .ok (.bipush 28, 2) := by decide +kernel
theorem d2_28 : decode prog_50_method_3_code 28 = .ok (.bastore, 1) := by decide +kernel
theorem d2_29 : decode prog_50_method_3_code 29 = .ok (.aload_n 1, 1) := by decide +kernel
theorem d2_30 : decode prog_50_method_3_code 30 = .ok (.aload_n 0, 1) := by decide +kernel
theorem d2_31 : decode prog_50_method_3_code 31 = .ok (.arraylength, 1) := by decide +kernel
theorem d2_32 : decode prog_50_method_3_code 32 = .ok (.iconst 2, 1) := by decide +kernel
theorem d2_33 : decode prog_50_method_3_code 33 = .ok (.iadd, 1) := by decide +kernel
theorem d2_34 : decode prog_50_method_3_code 34 = .ok (.bipush 13, 2) := by decide +kernel
theorem d2_36 : decode prog_50_method_3_code 36 = .ok (.bastore, 1) := by decide +kernel
theorem d2_37 : decode prog_50_method_3_code 37 = .ok (.aload_n 1, 1) := by decide +kernel
theorem d2_38 : decode prog_50_method_3_code 38 = .ok (.areturn, 1) := by decide +kernel
theorem pn_2 : plainName "com/example/concordat/concordat/identity/Mllp" = true := by first | (simp [plainName, overriddenIn]; done) | decide +kernel
theorem pd_2_2 : parseMethodDescriptor "(Ljava/lang/Object;ILjava/lang/Object;II)V" = some ⟨[(.object "java/lang/Object"), .int, (.object "java/lang/Object"), .int, .int], none⟩ := by decide +kernel
theorem ef_2 (m : MethodId) (x0 : Addr) : entryFrame m #[(.ref x0)] 2 = mkF m 0 #[.val (.ref x0), .unset] [] := by first | (simp [entryFrame, mkF, argsToLocals, Value.category]; done) | rfl
def Q2_0 (Z : State) (h0 : Heap) (n0 : Nat) (v : Option Value) (h : Heap) (L : List Loc) : Prop := ∃ (b : Addr) (k : ClassId), v = some (.ref b) ∧ Fr n0 L ∧ Keep h0 h [] ∧ Arv Z h b k .byte ((0 : Int32) + (3 : Int32)) [.int (own_b (11 : Int32)), .int (own_b (28 : Int32)), .int (own_b (13 : Int32))] (.int (0 : Int32))
set_option maxRecDepth 65536 in
set_option maxHeartbeats 40000000 in
theorem rm2_0 (l : Launch) (Z : State) (a0 : Array Value) (hw : ∀ d ∈ tables_1, d.before a0 Z = true) (ws : List Jvm.Cond) (a1 : Addr) (ka : ClassId) (h0 : Heap) (n0 : Nat) (Z0 : n0 ≤ h0.size) (Va : Arv Z h0 a1 ka .byte (0 : Int32) [] (.int (0 : Int32))) :
    MetFree l (⟨"com/example/concordat/concordat/identity/Mllp", "frame", "([B)[B"⟩ : MethodName) (head1 (Jvm.Cond.code (⟨"com/example/concordat/concordat/identity/Mllp", "frame", "([B)[B"⟩ : MethodName) prog_50_method_3_code 2 (some (.array .byte)) :: ws) ({ frames := 1, cells := 1, slots := 7, locals := 40 } : Room)) (fun a U => a = #[(.ref a1)] ∧ Z.Warmed39 U.vm ∧ U.heap = h0) (fun _ _ _ _ _ => True) (fun _ U o U' => ∃ v L, o = .returned v ∧ Q2_0 Z h0 n0 v U'.heap L ∧ FrameEnd U o U' L ({ frames := 1, cells := 1, slots := 7, locals := 40 } : Room).cells ({ frames := 1, cells := 1, slots := 7, locals := 40 } : Room).slots) := by
  refine MetFree.of_bodySF (plainFor_of_name pn_2) hisR ?_
  intro p e s m args below meth c s₁ Bd hml0 hP hK
  obtain ⟨rfl, hZ, hh⟩ := hP
  have hx := Bd.exec
  have hby := Bd.bytes
  have hml : c.maxLocals = 2 := hml0
  have hown : s.vm.findClass "com/example/concordat/concordat/identity/Mllp" = some m.cls := findClass_of_methodNamed Bd.named
  have hnm := (name_of_methodNamed Bd.named Bd.method).1
  have X0 : Stand p l e ({ frames := 1, cells := 1, slots := 7, locals := 40 } : Room) s m #[(.ref a1)] below meth c s₁ [] 0 0 := Stand.of_body Bd
  have e0 : s₁.heap = h0 := by rw [← hh, Bd.state]; rfl
  have N0 := Fr.nil n0
  have pre0 : ∀ t, Steps p.tables e below (s₁.setTop (mkF m 0 #[.val (.ref a1), .unset] [])) t → Steps p.tables e below (s₁.setTop (entryFrame m #[(.ref a1)] 2)) t := fun t k => castTop (ef_2 m a1) k
  obtain ⟨cl_a1, Ar_a1, q_a1, S_a1, N_a1, H_a1, G_a1⟩ := id Va
  obtain ⟨T2, h2, k2, X2, e2, E2, A2, st2⟩ := newP X0 hx hZ (hw _ (List.mem_of_getElem? (i := 4) rfl)) e0 (g := (mkF m 4 #[.val (.ref a1), .unset] [(.int ((0 : Int32) + (3 : Int32)))])) rfl (hb hby d2_4) rfl (by decide) (cap := 7) (by decide) (by decide) (by decide) (by decide)
  obtain ⟨b2, g2⟩ : ∃ z, z = h0.size := ⟨_, rfl⟩
  rw [← g2] at A2 st2
  have V_b2 : Arv Z h2 b2 k2 .byte ((0 : Int32) + (3 : Int32)) (List.replicate 3 (.int (0 : Int32))) (.int (0 : Int32)) := (Arv.new A2 (by decide)).pad (pad_rep [] _ 3)
  have ne2 : a1 ≠ b2 := Nat.ne_of_lt (g2 ▸ Va.lt)
  have g_b2 : n0 ≤ b2 := Nat.le_trans Z0 (Nat.le_of_eq g2.symm)
  have sz_b2 : h0.size ≤ b2 := (Nat.le_trans (Keep.refl h0 []).1 (Nat.le_of_eq g2.symm))
  have K2 : Keep h0 h2 [] := (Keep.refl h0 []).ext E2
  obtain ⟨cl_b2_11, Ar_b2, q_b2, S_b2, N_b2, H_b2, G_b2⟩ := V_b2
  have hin11 : ¬ ((0 : Int32) < 0 ∨ cl_b2_11.slots.size ≤ ((0 : Int32)).toNatClampNeg) := inb_of S_b2 ⟨by decide, by decide⟩
  obtain ⟨T3, h3, X3, e3, W3, st3⟩ := stB X2 hx hZ e2 Ar_b2 (j := (0 : Int32)) hin11 (g := (mkF m 11 #[.val (.ref a1), .val (.ref b2)] [(.int (11 : Int32)), (.int (0 : Int32)), (.ref b2)])) rfl rfl (hb hby d2_11)
  have V_b2_3 := Arv.set Ar_b2 q_b2 S_b2 N_b2 H_b2 G_b2 (fits_nar_byte _) W3 0 rfl (Nat.le_of_ble_eq_true rfl)
  have K3 : Keep h0 h3 [] := K2.wr W3 (Or.inr sz_b2)
  have N3 := Fr.snoc X3 N0 g_b2
  have Va3 : Arv Z h3 a1 ka .byte (0 : Int32) [] (.int (0 : Int32)) := (Va.ext E2).other W3 ne2
  have Ar3 : Arr Z h3 a1 cl_a1 .byte := Arr.other W3 (Arr.ext E2 Ar_a1) ne2
  obtain ⟨T4, h4, L4, X4, e4, N4, K4c, V4, st4⟩ := cpA X3 hx hZ hown (hw _ (List.mem_of_getElem? (i := 9) rfl)) (hw _ (List.mem_of_getElem? (i := 12) rfl)) (hw _ (List.mem_of_getElem? (i := 10) rfl)) (hw _ (List.mem_of_getElem? (i := 11) rfl)) e3 Va3 V_b2_3 (Or.inl ⟨rfl, rfl⟩) (sp := (0 : Int32)) (dp := (1 : Int32)) (nn := (0 : Int32)) (by decide) (by decide) (by decide) (by decide) (by decide) (us := []) rfl (Nat.le_of_ble_eq_true rfl) N3 g_b2 (g := (mkF m 18 #[.val (.ref a1), .val (.ref b2)] [(.int (0 : Int32)), (.int (1 : Int32)), (.ref b2), (.int (0 : Int32)), (.ref a1)])) rfl (by rw [hml]; rfl) (rest := []) rfl (hb hby d2_18) (by decide) (W := 0) (by show 2 * 0 + _ ≤ _; exact Nat.le_of_eq rfl) (by decide)
  have Ar4 : Arr Z h4 a1 cl_a1 .byte := ⟨K4c.2.1 a1 cl_a1 Ar3.1 (by simp [ne2]), Ar3.2⟩
  have K4 : Keep h0 h4 [] := K3.trans K4c (fun x hx => by cases List.mem_singleton.mp hx; exact Or.inr sz_b2)
  have V_b2_4 : Arv Z h4 b2 k2 .byte ((0 : Int32) + (3 : Int32)) [.int (own_b (11 : Int32)), .int (0 : Int32), .int (0 : Int32)] (.int (0 : Int32)) := V4
  obtain ⟨cl_b2_28, Ar_b2, q_b2, S_b2, N_b2, H_b2, G_b2⟩ := V_b2_4
  have hin28 : ¬ (((0 : Int32) + (1 : Int32)) < 0 ∨ cl_b2_28.slots.size ≤ (((0 : Int32) + (1 : Int32))).toNatClampNeg) := inb_of S_b2 ⟨by decide, by decide⟩
  obtain ⟨T5, h5, X5, e5, W5, st5⟩ := stB X4 hx hZ e4 Ar_b2 (j := ((0 : Int32) + (1 : Int32))) hin28 (g := (mkF m 28 #[.val (.ref a1), .val (.ref b2)] [(.int (28 : Int32)), (.int ((0 : Int32) + (1 : Int32))), (.ref b2)])) rfl rfl (hb hby d2_28)
  have V_b2_5 := Arv.set Ar_b2 q_b2 S_b2 N_b2 H_b2 G_b2 (fits_nar_byte _) W5 1 (by decide) (Nat.le_of_ble_eq_true rfl)
  have Ar5 : Arr Z h5 a1 cl_a1 .byte := Arr.other W5 Ar4 ne2
  have K5 : Keep h0 h5 [] := K4.wr W5 (Or.inr sz_b2)
  have N5 := Fr.snoc X5 N4 g_b2
  obtain ⟨cl_b2_36, Ar_b2, q_b2, S_b2, N_b2, H_b2, G_b2⟩ := V_b2_5
  have hin36 : ¬ (((0 : Int32) + (2 : Int32)) < 0 ∨ cl_b2_36.slots.size ≤ (((0 : Int32) + (2 : Int32))).toNatClampNeg) := inb_of S_b2 ⟨by decide, by decide⟩
  obtain ⟨T6, h6, X6, e6, W6, st6⟩ := stB X5 hx hZ e5 Ar_b2 (j := ((0 : Int32) + (2 : Int32))) hin36 (g := (mkF m 36 #[.val (.ref a1), .val (.ref b2)] [(.int (13 : Int32)), (.int ((0 : Int32) + (2 : Int32))), (.ref b2)])) rfl rfl (hb hby d2_36)
  have V_b2_6 := Arv.set Ar_b2 q_b2 S_b2 N_b2 H_b2 G_b2 (fits_nar_byte _) W6 2 (by decide) (Nat.le_of_ble_eq_true rfl)
  have K6 : Keep h0 h6 [] := K5.wr W6 (Or.inr sz_b2)
  have N6 := Fr.snoc X6 N5 g_b2
  obtain ⟨fs, hr, hrun, hended, hW, hsame⟩ := X6.leave (v := some (.ref b2)) (fun h => by rw [Bd.returns] at h; cases h)
  refine ⟨_, _, pre0 _ ?_, hrun, hended, _, _, rfl, ?_, ⟨_, rfl⟩, hW, hsame.mono (by decide) (by decide)⟩
  · show Steps p.tables e below (s₁.setTop (mkF m 0 #[.val (.ref a1), .unset] [])) _
    refine XS.aloadN X0.here hx rfl (hb hby d2_0) rfl rfl ?_
    show Steps p.tables e below (s₁.setTop (mkF m 1 #[.val (.ref a1), .unset] [(.ref a1)])) _
    refine X0.arraylength hx (cell := cl_a1) (by rw [e0]; exact Ar_a1.1) (State.isArrayOf_alike hZ.alike Ar_a1.2.1) (g := (mkF m 1 #[.val (.ref a1), .unset] [(.ref a1)])) rfl rfl (hb hby d2_1) _ ?_
    rw [len_of S_a1 N_a1]
    show Steps p.tables e below (s₁.setTop (mkF m 2 #[.val (.ref a1), .unset] [(.int (0 : Int32))])) _
    refine XS.iconst X0.here hx rfl (hb hby d2_2) ?_
    show Steps p.tables e below (s₁.setTop (mkF m 3 #[.val (.ref a1), .unset] [(.int (3 : Int32)), (.int (0 : Int32))])) _
    refine XS.iadd X0.here hx rfl (hb hby d2_3) rfl ?_
    show Steps p.tables e below (s₁.setTop (mkF m 4 #[.val (.ref a1), .unset] [(.int ((0 : Int32) + (3 : Int32)))])) _
    refine st2 _ ?_
    show Steps p.tables e below (T2.setTop (mkF m 6 #[.val (.ref a1), .unset] [(.ref b2)])) _
    refine XS.astoreN X2.here hx rfl (hb hby d2_6) rfl rfl (l' := #[.val (.ref a1), .val (.ref b2)]) rfl ?_
    show Steps p.tables e below (T2.setTop (mkF m 7 #[.val (.ref a1), .val (.ref b2)] [])) _
    refine XS.aloadN X2.here hx rfl (hb hby d2_7) rfl rfl ?_
    show Steps p.tables e below (T2.setTop (mkF m 8 #[.val (.ref a1), .val (.ref b2)] [(.ref b2)])) _
    refine XS.iconst X2.here hx rfl (hb hby d2_8) ?_
    show Steps p.tables e below (T2.setTop (mkF m 9 #[.val (.ref a1), .val (.ref b2)] [(.int (0 : Int32)), (.ref b2)])) _
    refine XS.bipush X2.here hx rfl (hb hby d2_9) ?_
    show Steps p.tables e below (T2.setTop (mkF m 11 #[.val (.ref a1), .val (.ref b2)] [(.int (11 : Int32)), (.int (0 : Int32)), (.ref b2)])) _
    refine st3 _ ?_
    show Steps p.tables e below (T3.setTop (mkF m 12 #[.val (.ref a1), .val (.ref b2)] [])) _
    refine XS.aloadN X3.here hx rfl (hb hby d2_12) rfl rfl ?_
    show Steps p.tables e below (T3.setTop (mkF m 13 #[.val (.ref a1), .val (.ref b2)] [(.ref a1)])) _
    refine XS.iconst X3.here hx rfl (hb hby d2_13) ?_
    show Steps p.tables e below (T3.setTop (mkF m 14 #[.val (.ref a1), .val (.ref b2)] [(.int (0 : Int32)), (.ref a1)])) _
    refine XS.aloadN X3.here hx rfl (hb hby d2_14) rfl rfl ?_
    show Steps p.tables e below (T3.setTop (mkF m 15 #[.val (.ref a1), .val (.ref b2)] [(.ref b2), (.int (0 : Int32)), (.ref a1)])) _
    refine XS.iconst X3.here hx rfl (hb hby d2_15) ?_
    show Steps p.tables e below (T3.setTop (mkF m 16 #[.val (.ref a1), .val (.ref b2)] [(.int (1 : Int32)), (.ref b2), (.int (0 : Int32)), (.ref a1)])) _
    refine XS.aloadN X3.here hx rfl (hb hby d2_16) rfl rfl ?_
    show Steps p.tables e below (T3.setTop (mkF m 17 #[.val (.ref a1), .val (.ref b2)] [(.ref a1), (.int (1 : Int32)), (.ref b2), (.int (0 : Int32)), (.ref a1)])) _
    refine X3.arraylength hx (cell := cl_a1) (by rw [e3]; exact Ar3.1) (State.isArrayOf_alike hZ.alike Ar3.2.1) (g := (mkF m 17 #[.val (.ref a1), .val (.ref b2)] [(.ref a1), (.int (1 : Int32)), (.ref b2), (.int (0 : Int32)), (.ref a1)])) rfl rfl (hb hby d2_17) _ ?_
    rw [len_of S_a1 N_a1]
    show Steps p.tables e below (T3.setTop (mkF m 18 #[.val (.ref a1), .val (.ref b2)] [(.int (0 : Int32)), (.int (1 : Int32)), (.ref b2), (.int (0 : Int32)), (.ref a1)])) _
    refine st4 _ ?_
    show Steps p.tables e below (T4.setTop (mkF m 21 #[.val (.ref a1), .val (.ref b2)] [])) _
    refine XS.aloadN X4.here hx rfl (hb hby d2_21) rfl rfl ?_
    show Steps p.tables e below (T4.setTop (mkF m 22 #[.val (.ref a1), .val (.ref b2)] [(.ref b2)])) _
    refine XS.aloadN X4.here hx rfl (hb hby d2_22) rfl rfl ?_
    show Steps p.tables e below (T4.setTop (mkF m 23 #[.val (.ref a1), .val (.ref b2)] [(.ref a1), (.ref b2)])) _
    refine X4.arraylength hx (cell := cl_a1) (by rw [e4]; exact Ar4.1) (State.isArrayOf_alike hZ.alike Ar4.2.1) (g := (mkF m 23 #[.val (.ref a1), .val (.ref b2)] [(.ref a1), (.ref b2)])) rfl rfl (hb hby d2_23) _ ?_
    rw [len_of S_a1 N_a1]
    show Steps p.tables e below (T4.setTop (mkF m 24 #[.val (.ref a1), .val (.ref b2)] [(.int (0 : Int32)), (.ref b2)])) _
    refine XS.iconst X4.here hx rfl (hb hby d2_24) ?_
    show Steps p.tables e below (T4.setTop (mkF m 25 #[.val (.ref a1), .val (.ref b2)] [(.int (1 : Int32)), (.int (0 : Int32)), (.ref b2)])) _
    refine XS.iadd X4.here hx rfl (hb hby d2_25) rfl ?_
    show Steps p.tables e below (T4.setTop (mkF m 26 #[.val (.ref a1), .val (.ref b2)] [(.int ((0 : Int32) + (1 : Int32))), (.ref b2)])) _
    refine XS.bipush X4.here hx rfl (hb hby d2_26) ?_
    show Steps p.tables e below (T4.setTop (mkF m 28 #[.val (.ref a1), .val (.ref b2)] [(.int (28 : Int32)), (.int ((0 : Int32) + (1 : Int32))), (.ref b2)])) _
    refine st5 _ ?_
    show Steps p.tables e below (T5.setTop (mkF m 29 #[.val (.ref a1), .val (.ref b2)] [])) _
    refine XS.aloadN X5.here hx rfl (hb hby d2_29) rfl rfl ?_
    show Steps p.tables e below (T5.setTop (mkF m 30 #[.val (.ref a1), .val (.ref b2)] [(.ref b2)])) _
    refine XS.aloadN X5.here hx rfl (hb hby d2_30) rfl rfl ?_
    show Steps p.tables e below (T5.setTop (mkF m 31 #[.val (.ref a1), .val (.ref b2)] [(.ref a1), (.ref b2)])) _
    refine X5.arraylength hx (cell := cl_a1) (by rw [e5]; exact Ar5.1) (State.isArrayOf_alike hZ.alike Ar5.2.1) (g := (mkF m 31 #[.val (.ref a1), .val (.ref b2)] [(.ref a1), (.ref b2)])) rfl rfl (hb hby d2_31) _ ?_
    rw [len_of S_a1 N_a1]
    show Steps p.tables e below (T5.setTop (mkF m 32 #[.val (.ref a1), .val (.ref b2)] [(.int (0 : Int32)), (.ref b2)])) _
    refine XS.iconst X5.here hx rfl (hb hby d2_32) ?_
    show Steps p.tables e below (T5.setTop (mkF m 33 #[.val (.ref a1), .val (.ref b2)] [(.int (2 : Int32)), (.int (0 : Int32)), (.ref b2)])) _
    refine XS.iadd X5.here hx rfl (hb hby d2_33) rfl ?_
    show Steps p.tables e below (T5.setTop (mkF m 34 #[.val (.ref a1), .val (.ref b2)] [(.int ((0 : Int32) + (2 : Int32))), (.ref b2)])) _
    refine XS.bipush X5.here hx rfl (hb hby d2_34) ?_
    show Steps p.tables e below (T5.setTop (mkF m 36 #[.val (.ref a1), .val (.ref b2)] [(.int (13 : Int32)), (.int ((0 : Int32) + (2 : Int32))), (.ref b2)])) _
    refine st6 _ ?_
    show Steps p.tables e below (T6.setTop (mkF m 37 #[.val (.ref a1), .val (.ref b2)] [])) _
    refine XS.aloadN X6.here hx rfl (hb hby d2_37) rfl rfl ?_
    show Steps p.tables e below (T6.setTop (mkF m 38 #[.val (.ref a1), .val (.ref b2)] [(.ref b2)])) _
    jvm_step X6.here [X6.here.top, hx, (hb hby d2_38), X6.method', Bd.returns, Value.isRef, FieldType.isReference]
    first | (intro acts; rw [hr _ acts rfl rfl rfl]) | rw [hr _ _ rfl rfl rfl]
    exact Steps.refl _
  · show Q2_0 Z h0 n0 _ T6.heap _
    rw [e6]
    exact ⟨b2, k2, rfl, N6, K6, V_b2_6⟩
def Q2_1 (Z : State) (u1 : Value) (h0 : Heap) (n0 : Nat) (v : Option Value) (h : Heap) (L : List Loc) : Prop := ∃ (b : Addr) (k : ClassId), v = some (.ref b) ∧ Fr n0 L ∧ Keep h0 h [] ∧ Arv Z h b k .byte ((1 : Int32) + (3 : Int32)) [.int (own_b (11 : Int32)), u1, .int (own_b (28 : Int32)), .int (own_b (13 : Int32))] (.int (0 : Int32))
set_option maxRecDepth 65536 in
set_option maxHeartbeats 40000000 in
theorem rm2_1 (l : Launch) (Z : State) (a0 : Array Value) (hw : ∀ d ∈ tables_1, d.before a0 Z = true) (ws : List Jvm.Cond) (a1 : Addr) (ka : ClassId) (u1 : Value) (h0 : Heap) (n0 : Nat) (Z0 : n0 ≤ h0.size) (Va : Arv Z h0 a1 ka .byte (1 : Int32) [u1] (.int (0 : Int32))) :
    MetFree l (⟨"com/example/concordat/concordat/identity/Mllp", "frame", "([B)[B"⟩ : MethodName) (head1 (Jvm.Cond.code (⟨"com/example/concordat/concordat/identity/Mllp", "frame", "([B)[B"⟩ : MethodName) prog_50_method_3_code 2 (some (.array .byte)) :: ws) ({ frames := 1, cells := 1, slots := 7, locals := 40 } : Room)) (fun a U => a = #[(.ref a1)] ∧ Z.Warmed39 U.vm ∧ U.heap = h0) (fun _ _ _ _ _ => True) (fun _ U o U' => ∃ v L, o = .returned v ∧ Q2_1 Z u1 h0 n0 v U'.heap L ∧ FrameEnd U o U' L ({ frames := 1, cells := 1, slots := 7, locals := 40 } : Room).cells ({ frames := 1, cells := 1, slots := 7, locals := 40 } : Room).slots) := by
  refine MetFree.of_bodySF (plainFor_of_name pn_2) hisR ?_
  intro p e s m args below meth c s₁ Bd hml0 hP hK
  obtain ⟨rfl, hZ, hh⟩ := hP
  have hx := Bd.exec
  have hby := Bd.bytes
  have hml : c.maxLocals = 2 := hml0
  have hown : s.vm.findClass "com/example/concordat/concordat/identity/Mllp" = some m.cls := findClass_of_methodNamed Bd.named
  have hnm := (name_of_methodNamed Bd.named Bd.method).1
  have X0 : Stand p l e ({ frames := 1, cells := 1, slots := 7, locals := 40 } : Room) s m #[(.ref a1)] below meth c s₁ [] 0 0 := Stand.of_body Bd
  have e0 : s₁.heap = h0 := by rw [← hh, Bd.state]; rfl
  have N0 := Fr.nil n0
  have pre0 : ∀ t, Steps p.tables e below (s₁.setTop (mkF m 0 #[.val (.ref a1), .unset] [])) t → Steps p.tables e below (s₁.setTop (entryFrame m #[(.ref a1)] 2)) t := fun t k => castTop (ef_2 m a1) k
  obtain ⟨cl_a1, Ar_a1, q_a1, S_a1, N_a1, H_a1, G_a1⟩ := id Va
  obtain ⟨T2, h2, k2, X2, e2, E2, A2, st2⟩ := newP X0 hx hZ (hw _ (List.mem_of_getElem? (i := 4) rfl)) e0 (g := (mkF m 4 #[.val (.ref a1), .unset] [(.int ((1 : Int32) + (3 : Int32)))])) rfl (hb hby d2_4) rfl (by decide) (cap := 7) (by decide) (by decide) (by decide) (by decide)
  obtain ⟨b2, g2⟩ : ∃ z, z = h0.size := ⟨_, rfl⟩
  rw [← g2] at A2 st2
  have V_b2 : Arv Z h2 b2 k2 .byte ((1 : Int32) + (3 : Int32)) (List.replicate 4 (.int (0 : Int32))) (.int (0 : Int32)) := (Arv.new A2 (by decide)).pad (pad_rep [] _ 4)
  have ne2 : a1 ≠ b2 := Nat.ne_of_lt (g2 ▸ Va.lt)
  have g_b2 : n0 ≤ b2 := Nat.le_trans Z0 (Nat.le_of_eq g2.symm)
  have sz_b2 : h0.size ≤ b2 := (Nat.le_trans (Keep.refl h0 []).1 (Nat.le_of_eq g2.symm))
  have K2 : Keep h0 h2 [] := (Keep.refl h0 []).ext E2
  obtain ⟨cl_b2_11, Ar_b2, q_b2, S_b2, N_b2, H_b2, G_b2⟩ := V_b2
  have hin11 : ¬ ((0 : Int32) < 0 ∨ cl_b2_11.slots.size ≤ ((0 : Int32)).toNatClampNeg) := inb_of S_b2 ⟨by decide, by decide⟩
  obtain ⟨T3, h3, X3, e3, W3, st3⟩ := stB X2 hx hZ e2 Ar_b2 (j := (0 : Int32)) hin11 (g := (mkF m 11 #[.val (.ref a1), .val (.ref b2)] [(.int (11 : Int32)), (.int (0 : Int32)), (.ref b2)])) rfl rfl (hb hby d2_11)
  have V_b2_3 := Arv.set Ar_b2 q_b2 S_b2 N_b2 H_b2 G_b2 (fits_nar_byte _) W3 0 rfl (Nat.le_of_ble_eq_true rfl)
  have K3 : Keep h0 h3 [] := K2.wr W3 (Or.inr sz_b2)
  have N3 := Fr.snoc X3 N0 g_b2
  have Va3 : Arv Z h3 a1 ka .byte (1 : Int32) [u1] (.int (0 : Int32)) := (Va.ext E2).other W3 ne2
  have Ar3 : Arr Z h3 a1 cl_a1 .byte := Arr.other W3 (Arr.ext E2 Ar_a1) ne2
  obtain ⟨T4, h4, L4, X4, e4, N4, K4c, V4, st4⟩ := cpA X3 hx hZ hown (hw _ (List.mem_of_getElem? (i := 9) rfl)) (hw _ (List.mem_of_getElem? (i := 12) rfl)) (hw _ (List.mem_of_getElem? (i := 10) rfl)) (hw _ (List.mem_of_getElem? (i := 11) rfl)) e3 Va3 V_b2_3 (Or.inl ⟨rfl, rfl⟩) (sp := (0 : Int32)) (dp := (1 : Int32)) (nn := (1 : Int32)) (by decide) (by decide) (by decide) (by decide) (by decide) (us := [u1]) rfl (Nat.le_of_ble_eq_true rfl) N3 g_b2 (g := (mkF m 18 #[.val (.ref a1), .val (.ref b2)] [(.int (1 : Int32)), (.int (1 : Int32)), (.ref b2), (.int (0 : Int32)), (.ref a1)])) rfl (by rw [hml]; rfl) (rest := []) rfl (hb hby d2_18) (by decide) (W := 0) (by show 2 * 0 + _ ≤ _; exact Nat.le_of_eq rfl) (by decide)
  have Ar4 : Arr Z h4 a1 cl_a1 .byte := ⟨K4c.2.1 a1 cl_a1 Ar3.1 (by simp [ne2]), Ar3.2⟩
  have K4 : Keep h0 h4 [] := K3.trans K4c (fun x hx => by cases List.mem_singleton.mp hx; exact Or.inr sz_b2)
  have V_b2_4 : Arv Z h4 b2 k2 .byte ((1 : Int32) + (3 : Int32)) [.int (own_b (11 : Int32)), u1, .int (0 : Int32), .int (0 : Int32)] (.int (0 : Int32)) := V4
  obtain ⟨cl_b2_28, Ar_b2, q_b2, S_b2, N_b2, H_b2, G_b2⟩ := V_b2_4
  have hin28 : ¬ (((1 : Int32) + (1 : Int32)) < 0 ∨ cl_b2_28.slots.size ≤ (((1 : Int32) + (1 : Int32))).toNatClampNeg) := inb_of S_b2 ⟨by decide, by decide⟩
  obtain ⟨T5, h5, X5, e5, W5, st5⟩ := stB X4 hx hZ e4 Ar_b2 (j := ((1 : Int32) + (1 : Int32))) hin28 (g := (mkF m 28 #[.val (.ref a1), .val (.ref b2)] [(.int (28 : Int32)), (.int ((1 : Int32) + (1 : Int32))), (.ref b2)])) rfl rfl (hb hby d2_28)
  have V_b2_5 := Arv.set Ar_b2 q_b2 S_b2 N_b2 H_b2 G_b2 (fits_nar_byte _) W5 2 (by decide) (Nat.le_of_ble_eq_true rfl)
  have Ar5 : Arr Z h5 a1 cl_a1 .byte := Arr.other W5 Ar4 ne2
  have K5 : Keep h0 h5 [] := K4.wr W5 (Or.inr sz_b2)
  have N5 := Fr.snoc X5 N4 g_b2
  obtain ⟨cl_b2_36, Ar_b2, q_b2, S_b2, N_b2, H_b2, G_b2⟩ := V_b2_5
  have hin36 : ¬ (((1 : Int32) + (2 : Int32)) < 0 ∨ cl_b2_36.slots.size ≤ (((1 : Int32) + (2 : Int32))).toNatClampNeg) := inb_of S_b2 ⟨by decide, by decide⟩
  obtain ⟨T6, h6, X6, e6, W6, st6⟩ := stB X5 hx hZ e5 Ar_b2 (j := ((1 : Int32) + (2 : Int32))) hin36 (g := (mkF m 36 #[.val (.ref a1), .val (.ref b2)] [(.int (13 : Int32)), (.int ((1 : Int32) + (2 : Int32))), (.ref b2)])) rfl rfl (hb hby d2_36)
  have V_b2_6 := Arv.set Ar_b2 q_b2 S_b2 N_b2 H_b2 G_b2 (fits_nar_byte _) W6 3 (by decide) (Nat.le_of_ble_eq_true rfl)
  have K6 : Keep h0 h6 [] := K5.wr W6 (Or.inr sz_b2)
  have N6 := Fr.snoc X6 N5 g_b2
  obtain ⟨fs, hr, hrun, hended, hW, hsame⟩ := X6.leave (v := some (.ref b2)) (fun h => by rw [Bd.returns] at h; cases h)
  refine ⟨_, _, pre0 _ ?_, hrun, hended, _, _, rfl, ?_, ⟨_, rfl⟩, hW, hsame.mono (by decide) (by decide)⟩
  · show Steps p.tables e below (s₁.setTop (mkF m 0 #[.val (.ref a1), .unset] [])) _
    refine XS.aloadN X0.here hx rfl (hb hby d2_0) rfl rfl ?_
    show Steps p.tables e below (s₁.setTop (mkF m 1 #[.val (.ref a1), .unset] [(.ref a1)])) _
    refine X0.arraylength hx (cell := cl_a1) (by rw [e0]; exact Ar_a1.1) (State.isArrayOf_alike hZ.alike Ar_a1.2.1) (g := (mkF m 1 #[.val (.ref a1), .unset] [(.ref a1)])) rfl rfl (hb hby d2_1) _ ?_
    rw [len_of S_a1 N_a1]
    show Steps p.tables e below (s₁.setTop (mkF m 2 #[.val (.ref a1), .unset] [(.int (1 : Int32))])) _
    refine XS.iconst X0.here hx rfl (hb hby d2_2) ?_
    show Steps p.tables e below (s₁.setTop (mkF m 3 #[.val (.ref a1), .unset] [(.int (3 : Int32)), (.int (1 : Int32))])) _
    refine XS.iadd X0.here hx rfl (hb hby d2_3) rfl ?_
    show Steps p.tables e below (s₁.setTop (mkF m 4 #[.val (.ref a1), .unset] [(.int ((1 : Int32) + (3 : Int32)))])) _
    refine st2 _ ?_
    show Steps p.tables e below (T2.setTop (mkF m 6 #[.val (.ref a1), .unset] [(.ref b2)])) _
    refine XS.astoreN X2.here hx rfl (hb hby d2_6) rfl rfl (l' := #[.val (.ref a1), .val (.ref b2)]) rfl ?_
    show Steps p.tables e below (T2.setTop (mkF m 7 #[.val (.ref a1), .val (.ref b2)] [])) _
    refine XS.aloadN X2.here hx rfl (hb hby d2_7) rfl rfl ?_
    show Steps p.tables e below (T2.setTop (mkF m 8 #[.val (.ref a1), .val (.ref b2)] [(.ref b2)])) _
    refine XS.iconst X2.here hx rfl (hb hby d2_8) ?_
    show Steps p.tables e below (T2.setTop (mkF m 9 #[.val (.ref a1), .val (.ref b2)] [(.int (0 : Int32)), (.ref b2)])) _
    refine XS.bipush X2.here hx rfl (hb hby d2_9) ?_
    show Steps p.tables e below (T2.setTop (mkF m 11 #[.val (.ref a1), .val (.ref b2)] [(.int (11 : Int32)), (.int (0 : Int32)), (.ref b2)])) _
    refine st3 _ ?_
    show Steps p.tables e below (T3.setTop (mkF m 12 #[.val (.ref a1), .val (.ref b2)] [])) _
    refine XS.aloadN X3.here hx rfl (hb hby d2_12) rfl rfl ?_
    show Steps p.tables e below (T3.setTop (mkF m 13 #[.val (.ref a1), .val (.ref b2)] [(.ref a1)])) _
    refine XS.iconst X3.here hx rfl (hb hby d2_13) ?_
    show Steps p.tables e below (T3.setTop (mkF m 14 #[.val (.ref a1), .val (.ref b2)] [(.int (0 : Int32)), (.ref a1)])) _
    refine XS.aloadN X3.here hx rfl (hb hby d2_14) rfl rfl ?_
    show Steps p.tables e below (T3.setTop (mkF m 15 #[.val (.ref a1), .val (.ref b2)] [(.ref b2), (.int (0 : Int32)), (.ref a1)])) _
    refine XS.iconst X3.here hx rfl (hb hby d2_15) ?_
    show Steps p.tables e below (T3.setTop (mkF m 16 #[.val (.ref a1), .val (.ref b2)] [(.int (1 : Int32)), (.ref b2), (.int (0 : Int32)), (.ref a1)])) _
    refine XS.aloadN X3.here hx rfl (hb hby d2_16) rfl rfl ?_
    show Steps p.tables e below (T3.setTop (mkF m 17 #[.val (.ref a1), .val (.ref b2)] [(.ref a1), (.int (1 : Int32)), (.ref b2), (.int (0 : Int32)), (.ref a1)])) _
    refine X3.arraylength hx (cell := cl_a1) (by rw [e3]; exact Ar3.1) (State.isArrayOf_alike hZ.alike Ar3.2.1) (g := (mkF m 17 #[.val (.ref a1), .val (.ref b2)] [(.ref a1), (.int (1 : Int32)), (.ref b2), (.int (0 : Int32)), (.ref a1)])) rfl rfl (hb hby d2_17) _ ?_
    rw [len_of S_a1 N_a1]
    show Steps p.tables e below (T3.setTop (mkF m 18 #[.val (.ref a1), .val (.ref b2)] [(.int (1 : Int32)), (.int (1 : Int32)), (.ref b2), (.int (0 : Int32)), (.ref a1)])) _
    refine st4 _ ?_
    show Steps p.tables e below (T4.setTop (mkF m 21 #[.val (.ref a1), .val (.ref b2)] [])) _
    refine XS.aloadN X4.here hx rfl (hb hby d2_21) rfl rfl ?_
    show Steps p.tables e below (T4.setTop (mkF m 22 #[.val (.ref a1), .val (.ref b2)] [(.ref b2)])) _
    refine XS.aloadN X4.here hx rfl (hb hby d2_22) rfl rfl ?_
    show Steps p.tables e below (T4.setTop (mkF m 23 #[.val (.ref a1), .val (.ref b2)] [(.ref a1), (.ref b2)])) _
    refine X4.arraylength hx (cell := cl_a1) (by rw [e4]; exact Ar4.1) (State.isArrayOf_alike hZ.alike Ar4.2.1) (g := (mkF m 23 #[.val (.ref a1), .val (.ref b2)] [(.ref a1), (.ref b2)])) rfl rfl (hb hby d2_23) _ ?_
    rw [len_of S_a1 N_a1]
    show Steps p.tables e below (T4.setTop (mkF m 24 #[.val (.ref a1), .val (.ref b2)] [(.int (1 : Int32)), (.ref b2)])) _
    refine XS.iconst X4.here hx rfl (hb hby d2_24) ?_
    show Steps p.tables e below (T4.setTop (mkF m 25 #[.val (.ref a1), .val (.ref b2)] [(.int (1 : Int32)), (.int (1 : Int32)), (.ref b2)])) _
    refine XS.iadd X4.here hx rfl (hb hby d2_25) rfl ?_
    show Steps p.tables e below (T4.setTop (mkF m 26 #[.val (.ref a1), .val (.ref b2)] [(.int ((1 : Int32) + (1 : Int32))), (.ref b2)])) _
    refine XS.bipush X4.here hx rfl (hb hby d2_26) ?_
    show Steps p.tables e below (T4.setTop (mkF m 28 #[.val (.ref a1), .val (.ref b2)] [(.int (28 : Int32)), (.int ((1 : Int32) + (1 : Int32))), (.ref b2)])) _
    refine st5 _ ?_
    show Steps p.tables e below (T5.setTop (mkF m 29 #[.val (.ref a1), .val (.ref b2)] [])) _
    refine XS.aloadN X5.here hx rfl (hb hby d2_29) rfl rfl ?_
    show Steps p.tables e below (T5.setTop (mkF m 30 #[.val (.ref a1), .val (.ref b2)] [(.ref b2)])) _
    refine XS.aloadN X5.here hx rfl (hb hby d2_30) rfl rfl ?_
    show Steps p.tables e below (T5.setTop (mkF m 31 #[.val (.ref a1), .val (.ref b2)] [(.ref a1), (.ref b2)])) _
    refine X5.arraylength hx (cell := cl_a1) (by rw [e5]; exact Ar5.1) (State.isArrayOf_alike hZ.alike Ar5.2.1) (g := (mkF m 31 #[.val (.ref a1), .val (.ref b2)] [(.ref a1), (.ref b2)])) rfl rfl (hb hby d2_31) _ ?_
    rw [len_of S_a1 N_a1]
    show Steps p.tables e below (T5.setTop (mkF m 32 #[.val (.ref a1), .val (.ref b2)] [(.int (1 : Int32)), (.ref b2)])) _
    refine XS.iconst X5.here hx rfl (hb hby d2_32) ?_
    show Steps p.tables e below (T5.setTop (mkF m 33 #[.val (.ref a1), .val (.ref b2)] [(.int (2 : Int32)), (.int (1 : Int32)), (.ref b2)])) _
    refine XS.iadd X5.here hx rfl (hb hby d2_33) rfl ?_
    show Steps p.tables e below (T5.setTop (mkF m 34 #[.val (.ref a1), .val (.ref b2)] [(.int ((1 : Int32) + (2 : Int32))), (.ref b2)])) _
    refine XS.bipush X5.here hx rfl (hb hby d2_34) ?_
    show Steps p.tables e below (T5.setTop (mkF m 36 #[.val (.ref a1), .val (.ref b2)] [(.int (13 : Int32)), (.int ((1 : Int32) + (2 : Int32))), (.ref b2)])) _
    refine st6 _ ?_
    show Steps p.tables e below (T6.setTop (mkF m 37 #[.val (.ref a1), .val (.ref b2)] [])) _
    refine XS.aloadN X6.here hx rfl (hb hby d2_37) rfl rfl ?_
    show Steps p.tables e below (T6.setTop (mkF m 38 #[.val (.ref a1), .val (.ref b2)] [(.ref b2)])) _
    jvm_step X6.here [X6.here.top, hx, (hb hby d2_38), X6.method', Bd.returns, Value.isRef, FieldType.isReference]
    first | (intro acts; rw [hr _ acts rfl rfl rfl]) | rw [hr _ _ rfl rfl rfl]
    exact Steps.refl _
  · show Q2_1 Z u1 h0 n0 _ T6.heap _
    rw [e6]
    exact ⟨b2, k2, rfl, N6, K6, V_b2_6⟩
def Q2_2 (Z : State) (u1 : Value) (u2 : Value) (h0 : Heap) (n0 : Nat) (v : Option Value) (h : Heap) (L : List Loc) : Prop := ∃ (b : Addr) (k : ClassId), v = some (.ref b) ∧ Fr n0 L ∧ Keep h0 h [] ∧ Arv Z h b k .byte ((2 : Int32) + (3 : Int32)) [.int (own_b (11 : Int32)), u1, u2, .int (own_b (28 : Int32)), .int (own_b (13 : Int32))] (.int (0 : Int32))
set_option maxRecDepth 65536 in
set_option maxHeartbeats 40000000 in
theorem rm2_2 (l : Launch) (Z : State) (a0 : Array Value) (hw : ∀ d ∈ tables_1, d.before a0 Z = true) (ws : List Jvm.Cond) (a1 : Addr) (ka : ClassId) (u1 : Value) (u2 : Value) (h0 : Heap) (n0 : Nat) (Z0 : n0 ≤ h0.size) (Va : Arv Z h0 a1 ka .byte (2 : Int32) [u1, u2] (.int (0 : Int32))) :
    MetFree l (⟨"com/example/concordat/concordat/identity/Mllp", "frame", "([B)[B"⟩ : MethodName) (head1 (Jvm.Cond.code (⟨"com/example/concordat/concordat/identity/Mllp", "frame", "([B)[B"⟩ : MethodName) prog_50_method_3_code 2 (some (.array .byte)) :: ws) ({ frames := 1, cells := 1, slots := 7, locals := 40 } : Room)) (fun a U => a = #[(.ref a1)] ∧ Z.Warmed39 U.vm ∧ U.heap = h0) (fun _ _ _ _ _ => True) (fun _ U o U' => ∃ v L, o = .returned v ∧ Q2_2 Z u1 u2 h0 n0 v U'.heap L ∧ FrameEnd U o U' L ({ frames := 1, cells := 1, slots := 7, locals := 40 } : Room).cells ({ frames := 1, cells := 1, slots := 7, locals := 40 } : Room).slots) := by
  refine MetFree.of_bodySF (plainFor_of_name pn_2) hisR ?_
  intro p e s m args below meth c s₁ Bd hml0 hP hK
  obtain ⟨rfl, hZ, hh⟩ := hP
  have hx := Bd.exec
  have hby := Bd.bytes
  have hml : c.maxLocals = 2 := hml0
  have hown : s.vm.findClass "com/example/concordat/concordat/identity/Mllp" = some m.cls := findClass_of_methodNamed Bd.named
  have hnm := (name_of_methodNamed Bd.named Bd.method).1
  have X0 : Stand p l e ({ frames := 1, cells := 1, slots := 7, locals := 40 } : Room) s m #[(.ref a1)] below meth c s₁ [] 0 0 := Stand.of_body Bd
  have e0 : s₁.heap = h0 := by rw [← hh, Bd.state]; rfl
  have N0 := Fr.nil n0
  have pre0 : ∀ t, Steps p.tables e below (s₁.setTop (mkF m 0 #[.val (.ref a1), .unset] [])) t → Steps p.tables e below (s₁.setTop (entryFrame m #[(.ref a1)] 2)) t := fun t k => castTop (ef_2 m a1) k
  obtain ⟨cl_a1, Ar_a1, q_a1, S_a1, N_a1, H_a1, G_a1⟩ := id Va
  obtain ⟨T2, h2, k2, X2, e2, E2, A2, st2⟩ := newP X0 hx hZ (hw _ (List.mem_of_getElem? (i := 4) rfl)) e0 (g := (mkF m 4 #[.val (.ref a1), .unset] [(.int ((2 : Int32) + (3 : Int32)))])) rfl (hb hby d2_4) rfl (by decide) (cap := 7) (by decide) (by decide) (by decide) (by decide)
  obtain ⟨b2, g2⟩ : ∃ z, z = h0.size := ⟨_, rfl⟩
  rw [← g2] at A2 st2
  have V_b2 : Arv Z h2 b2 k2 .byte ((2 : Int32) + (3 : Int32)) (List.replicate 5 (.int (0 : Int32))) (.int (0 : Int32)) := (Arv.new A2 (by decide)).pad (pad_rep [] _ 5)
  have ne2 : a1 ≠ b2 := Nat.ne_of_lt (g2 ▸ Va.lt)
  have g_b2 : n0 ≤ b2 := Nat.le_trans Z0 (Nat.le_of_eq g2.symm)
  have sz_b2 : h0.size ≤ b2 := (Nat.le_trans (Keep.refl h0 []).1 (Nat.le_of_eq g2.symm))
  have K2 : Keep h0 h2 [] := (Keep.refl h0 []).ext E2
  obtain ⟨cl_b2_11, Ar_b2, q_b2, S_b2, N_b2, H_b2, G_b2⟩ := V_b2
  have hin11 : ¬ ((0 : Int32) < 0 ∨ cl_b2_11.slots.size ≤ ((0 : Int32)).toNatClampNeg) := inb_of S_b2 ⟨by decide, by decide⟩
  obtain ⟨T3, h3, X3, e3, W3, st3⟩ := stB X2 hx hZ e2 Ar_b2 (j := (0 : Int32)) hin11 (g := (mkF m 11 #[.val (.ref a1), .val (.ref b2)] [(.int (11 : Int32)), (.int (0 : Int32)), (.ref b2)])) rfl rfl (hb hby d2_11)
  have V_b2_3 := Arv.set Ar_b2 q_b2 S_b2 N_b2 H_b2 G_b2 (fits_nar_byte _) W3 0 rfl (Nat.le_of_ble_eq_true rfl)
  have K3 : Keep h0 h3 [] := K2.wr W3 (Or.inr sz_b2)
  have N3 := Fr.snoc X3 N0 g_b2
  have Va3 : Arv Z h3 a1 ka .byte (2 : Int32) [u1, u2] (.int (0 : Int32)) := (Va.ext E2).other W3 ne2
  have Ar3 : Arr Z h3 a1 cl_a1 .byte := Arr.other W3 (Arr.ext E2 Ar_a1) ne2
  obtain ⟨T4, h4, L4, X4, e4, N4, K4c, V4, st4⟩ := cpA X3 hx hZ hown (hw _ (List.mem_of_getElem? (i := 9) rfl)) (hw _ (List.mem_of_getElem? (i := 12) rfl)) (hw _ (List.mem_of_getElem? (i := 10) rfl)) (hw _ (List.mem_of_getElem? (i := 11) rfl)) e3 Va3 V_b2_3 (Or.inl ⟨rfl, rfl⟩) (sp := (0 : Int32)) (dp := (1 : Int32)) (nn := (2 : Int32)) (by decide) (by decide) (by decide) (by decide) (by decide) (us := [u1, u2]) rfl (Nat.le_of_ble_eq_true rfl) N3 g_b2 (g := (mkF m 18 #[.val (.ref a1), .val (.ref b2)] [(.int (2 : Int32)), (.int (1 : Int32)), (.ref b2), (.int (0 : Int32)), (.ref a1)])) rfl (by rw [hml]; rfl) (rest := []) rfl (hb hby d2_18) (by decide) (W := 0) (by show 2 * 0 + _ ≤ _; exact Nat.le_of_eq rfl) (by decide)
  have Ar4 : Arr Z h4 a1 cl_a1 .byte := ⟨K4c.2.1 a1 cl_a1 Ar3.1 (by simp [ne2]), Ar3.2⟩
  have K4 : Keep h0 h4 [] := K3.trans K4c (fun x hx => by cases List.mem_singleton.mp hx; exact Or.inr sz_b2)
  have V_b2_4 : Arv Z h4 b2 k2 .byte ((2 : Int32) + (3 : Int32)) [.int (own_b (11 : Int32)), u1, u2, .int (0 : Int32), .int (0 : Int32)] (.int (0 : Int32)) := V4
  obtain ⟨cl_b2_28, Ar_b2, q_b2, S_b2, N_b2, H_b2, G_b2⟩ := V_b2_4
  have hin28 : ¬ (((2 : Int32) + (1 : Int32)) < 0 ∨ cl_b2_28.slots.size ≤ (((2 : Int32) + (1 : Int32))).toNatClampNeg) := inb_of S_b2 ⟨by decide, by decide⟩
  obtain ⟨T5, h5, X5, e5, W5, st5⟩ := stB X4 hx hZ e4 Ar_b2 (j := ((2 : Int32) + (1 : Int32))) hin28 (g := (mkF m 28 #[.val (.ref a1), .val (.ref b2)] [(.int (28 : Int32)), (.int ((2 : Int32) + (1 : Int32))), (.ref b2)])) rfl rfl (hb hby d2_28)
  have V_b2_5 := Arv.set Ar_b2 q_b2 S_b2 N_b2 H_b2 G_b2 (fits_nar_byte _) W5 3 (by decide) (Nat.le_of_ble_eq_true rfl)
  have Ar5 : Arr Z h5 a1 cl_a1 .byte := Arr.other W5 Ar4 ne2
  have K5 : Keep h0 h5 [] := K4.wr W5 (Or.inr sz_b2)
  have N5 := Fr.snoc X5 N4 g_b2
  obtain ⟨cl_b2_36, Ar_b2, q_b2, S_b2, N_b2, H_b2, G_b2⟩ := V_b2_5
  have hin36 : ¬ (((2 : Int32) + (2 : Int32)) < 0 ∨ cl_b2_36.slots.size ≤ (((2 : Int32) + (2 : Int32))).toNatClampNeg) := inb_of S_b2 ⟨by decide, by decide⟩
  obtain ⟨T6, h6, X6, e6, W6, st6⟩ := stB X5 hx hZ e5 Ar_b2 (j := ((2 : Int32) + (2 : Int32))) hin36 (g := (mkF m 36 #[.val (.ref a1), .val (.ref b2)] [(.int (13 : Int32)), (.int ((2 : Int32) + (2 : Int32))), (.ref b2)])) rfl rfl (hb hby d2_36)
  have V_b2_6 := Arv.set Ar_b2 q_b2 S_b2 N_b2 H_b2 G_b2 (fits_nar_byte _) W6 4 (by decide) (Nat.le_of_ble_eq_true rfl)
  have K6 : Keep h0 h6 [] := K5.wr W6 (Or.inr sz_b2)
  have N6 := Fr.snoc X6 N5 g_b2
  obtain ⟨fs, hr, hrun, hended, hW, hsame⟩ := X6.leave (v := some (.ref b2)) (fun h => by rw [Bd.returns] at h; cases h)
  refine ⟨_, _, pre0 _ ?_, hrun, hended, _, _, rfl, ?_, ⟨_, rfl⟩, hW, hsame.mono (by decide) (by decide)⟩
  · show Steps p.tables e below (s₁.setTop (mkF m 0 #[.val (.ref a1), .unset] [])) _
    refine XS.aloadN X0.here hx rfl (hb hby d2_0) rfl rfl ?_
    show Steps p.tables e below (s₁.setTop (mkF m 1 #[.val (.ref a1), .unset] [(.ref a1)])) _
    refine X0.arraylength hx (cell := cl_a1) (by rw [e0]; exact Ar_a1.1) (State.isArrayOf_alike hZ.alike Ar_a1.2.1) (g := (mkF m 1 #[.val (.ref a1), .unset] [(.ref a1)])) rfl rfl (hb hby d2_1) _ ?_
    rw [len_of S_a1 N_a1]
    show Steps p.tables e below (s₁.setTop (mkF m 2 #[.val (.ref a1), .unset] [(.int (2 : Int32))])) _
    refine XS.iconst X0.here hx rfl (hb hby d2_2) ?_
    show Steps p.tables e below (s₁.setTop (mkF m 3 #[.val (.ref a1), .unset] [(.int (3 : Int32)), (.int (2 : Int32))])) _
    refine XS.iadd X0.here hx rfl (hb hby d2_3) rfl ?_
    show Steps p.tables e below (s₁.setTop (mkF m 4 #[.val (.ref a1), .unset] [(.int ((2 : Int32) + (3 : Int32)))])) _
    refine st2 _ ?_
    show Steps p.tables e below (T2.setTop (mkF m 6 #[.val (.ref a1), .unset] [(.ref b2)])) _
    refine XS.astoreN X2.here hx rfl (hb hby d2_6) rfl rfl (l' := #[.val (.ref a1), .val (.ref b2)]) rfl ?_
    show Steps p.tables e below (T2.setTop (mkF m 7 #[.val (.ref a1), .val (.ref b2)] [])) _
    refine XS.aloadN X2.here hx rfl (hb hby d2_7) rfl rfl ?_
    show Steps p.tables e below (T2.setTop (mkF m 8 #[.val (.ref a1), .val (.ref b2)] [(.ref b2)])) _
    refine XS.iconst X2.here hx rfl (hb hby d2_8) ?_
    show Steps p.tables e below (T2.setTop (mkF m 9 #[.val (.ref a1), .val (.ref b2)] [(.int (0 : Int32)), (.ref b2)])) _
    refine XS.bipush X2.here hx rfl (hb hby d2_9) ?_
    show Steps p.tables e below (T2.setTop (mkF m 11 #[.val (.ref a1), .val (.ref b2)] [(.int (11 : Int32)), (.int (0 : Int32)), (.ref b2)])) _
    refine st3 _ ?_
    show Steps p.tables e below (T3.setTop (mkF m 12 #[.val (.ref a1), .val (.ref b2)] [])) _
    refine XS.aloadN X3.here hx rfl (hb hby d2_12) rfl rfl ?_
    show Steps p.tables e below (T3.setTop (mkF m 13 #[.val (.ref a1), .val (.ref b2)] [(.ref a1)])) _
    refine XS.iconst X3.here hx rfl (hb hby d2_13) ?_
    show Steps p.tables e below (T3.setTop (mkF m 14 #[.val (.ref a1), .val (.ref b2)] [(.int (0 : Int32)), (.ref a1)])) _
    refine XS.aloadN X3.here hx rfl (hb hby d2_14) rfl rfl ?_
    show Steps p.tables e below (T3.setTop (mkF m 15 #[.val (.ref a1), .val (.ref b2)] [(.ref b2), (.int (0 : Int32)), (.ref a1)])) _
    refine XS.iconst X3.here hx rfl (hb hby d2_15) ?_
    show Steps p.tables e below (T3.setTop (mkF m 16 #[.val (.ref a1), .val (.ref b2)] [(.int (1 : Int32)), (.ref b2), (.int (0 : Int32)), (.ref a1)])) _
    refine XS.aloadN X3.here hx rfl (hb hby d2_16) rfl rfl ?_
    show Steps p.tables e below (T3.setTop (mkF m 17 #[.val (.ref a1), .val (.ref b2)] [(.ref a1), (.int (1 : Int32)), (.ref b2), (.int (0 : Int32)), (.ref a1)])) _
    refine X3.arraylength hx (cell := cl_a1) (by rw [e3]; exact Ar3.1) (State.isArrayOf_alike hZ.alike Ar3.2.1) (g := (mkF m 17 #[.val (.ref a1), .val (.ref b2)] [(.ref a1), (.int (1 : Int32)), (.ref b2), (.int (0 : Int32)), (.ref a1)])) rfl rfl (hb hby d2_17) _ ?_
    rw [len_of S_a1 N_a1]
    show Steps p.tables e below (T3.setTop (mkF m 18 #[.val (.ref a1), .val (.ref b2)] [(.int (2 : Int32)), (.int (1 : Int32)), (.ref b2), (.int (0 : Int32)), (.ref a1)])) _
    refine st4 _ ?_
    show Steps p.tables e below (T4.setTop (mkF m 21 #[.val (.ref a1), .val (.ref b2)] [])) _
    refine XS.aloadN X4.here hx rfl (hb hby d2_21) rfl rfl ?_
    show Steps p.tables e below (T4.setTop (mkF m 22 #[.val (.ref a1), .val (.ref b2)] [(.ref b2)])) _
    refine XS.aloadN X4.here hx rfl (hb hby d2_22) rfl rfl ?_
    show Steps p.tables e below (T4.setTop (mkF m 23 #[.val (.ref a1), .val (.ref b2)] [(.ref a1), (.ref b2)])) _
    refine X4.arraylength hx (cell := cl_a1) (by rw [e4]; exact Ar4.1) (State.isArrayOf_alike hZ.alike Ar4.2.1) (g := (mkF m 23 #[.val (.ref a1), .val (.ref b2)] [(.ref a1), (.ref b2)])) rfl rfl (hb hby d2_23) _ ?_
    rw [len_of S_a1 N_a1]
    show Steps p.tables e below (T4.setTop (mkF m 24 #[.val (.ref a1), .val (.ref b2)] [(.int (2 : Int32)), (.ref b2)])) _
    refine XS.iconst X4.here hx rfl (hb hby d2_24) ?_
    show Steps p.tables e below (T4.setTop (mkF m 25 #[.val (.ref a1), .val (.ref b2)] [(.int (1 : Int32)), (.int (2 : Int32)), (.ref b2)])) _
    refine XS.iadd X4.here hx rfl (hb hby d2_25) rfl ?_
    show Steps p.tables e below (T4.setTop (mkF m 26 #[.val (.ref a1), .val (.ref b2)] [(.int ((2 : Int32) + (1 : Int32))), (.ref b2)])) _
    refine XS.bipush X4.here hx rfl (hb hby d2_26) ?_
    show Steps p.tables e below (T4.setTop (mkF m 28 #[.val (.ref a1), .val (.ref b2)] [(.int (28 : Int32)), (.int ((2 : Int32) + (1 : Int32))), (.ref b2)])) _
    refine st5 _ ?_
    show Steps p.tables e below (T5.setTop (mkF m 29 #[.val (.ref a1), .val (.ref b2)] [])) _
    refine XS.aloadN X5.here hx rfl (hb hby d2_29) rfl rfl ?_
    show Steps p.tables e below (T5.setTop (mkF m 30 #[.val (.ref a1), .val (.ref b2)] [(.ref b2)])) _
    refine XS.aloadN X5.here hx rfl (hb hby d2_30) rfl rfl ?_
    show Steps p.tables e below (T5.setTop (mkF m 31 #[.val (.ref a1), .val (.ref b2)] [(.ref a1), (.ref b2)])) _
    refine X5.arraylength hx (cell := cl_a1) (by rw [e5]; exact Ar5.1) (State.isArrayOf_alike hZ.alike Ar5.2.1) (g := (mkF m 31 #[.val (.ref a1), .val (.ref b2)] [(.ref a1), (.ref b2)])) rfl rfl (hb hby d2_31) _ ?_
    rw [len_of S_a1 N_a1]
    show Steps p.tables e below (T5.setTop (mkF m 32 #[.val (.ref a1), .val (.ref b2)] [(.int (2 : Int32)), (.ref b2)])) _
    refine XS.iconst X5.here hx rfl (hb hby d2_32) ?_
    show Steps p.tables e below (T5.setTop (mkF m 33 #[.val (.ref a1), .val (.ref b2)] [(.int (2 : Int32)), (.int (2 : Int32)), (.ref b2)])) _
    refine XS.iadd X5.here hx rfl (hb hby d2_33) rfl ?_
    show Steps p.tables e below (T5.setTop (mkF m 34 #[.val (.ref a1), .val (.ref b2)] [(.int ((2 : Int32) + (2 : Int32))), (.ref b2)])) _
    refine XS.bipush X5.here hx rfl (hb hby d2_34) ?_
    show Steps p.tables e below (T5.setTop (mkF m 36 #[.val (.ref a1), .val (.ref b2)] [(.int (13 : Int32)), (.int ((2 : Int32) + (2 : Int32))), (.ref b2)])) _
    refine st6 _ ?_
    show Steps p.tables e below (T6.setTop (mkF m 37 #[.val (.ref a1), .val (.ref b2)] [])) _
    refine XS.aloadN X6.here hx rfl (hb hby d2_37) rfl rfl ?_
    show Steps p.tables e below (T6.setTop (mkF m 38 #[.val (.ref a1), .val (.ref b2)] [(.ref b2)])) _
    jvm_step X6.here [X6.here.top, hx, (hb hby d2_38), X6.method', Bd.returns, Value.isRef, FieldType.isReference]
    first | (intro acts; rw [hr _ acts rfl rfl rfl]) | rw [hr _ _ rfl rfl rfl]
    exact Steps.refl _
  · show Q2_2 Z u1 u2 h0 n0 _ T6.heap _
    rw [e6]
    exact ⟨b2, k2, rfl, N6, K6, V_b2_6⟩
def Q2_3 (Z : State) (u1 : Value) (u2 : Value) (u3 : Value) (h0 : Heap) (n0 : Nat) (v : Option Value) (h : Heap) (L : List Loc) : Prop := ∃ (b : Addr) (k : ClassId), v = some (.ref b) ∧ Fr n0 L ∧ Keep h0 h [] ∧ Arv Z h b k .byte ((3 : Int32) + (3 : Int32)) [.int (own_b (11 : Int32)), u1, u2, u3, .int (own_b (28 : Int32)), .int (own_b (13 : Int32))] (.int (0 : Int32))
set_option maxRecDepth 65536 in
set_option maxHeartbeats 40000000 in
theorem rm2_3 (l : Launch) (Z : State) (a0 : Array Value) (hw : ∀ d ∈ tables_1, d.before a0 Z = true) (ws : List Jvm.Cond) (a1 : Addr) (ka : ClassId) (u1 : Value) (u2 : Value) (u3 : Value) (h0 : Heap) (n0 : Nat) (Z0 : n0 ≤ h0.size) (Va : Arv Z h0 a1 ka .byte (3 : Int32) [u1, u2, u3] (.int (0 : Int32))) :
    MetFree l (⟨"com/example/concordat/concordat/identity/Mllp", "frame", "([B)[B"⟩ : MethodName) (head1 (Jvm.Cond.code (⟨"com/example/concordat/concordat/identity/Mllp", "frame", "([B)[B"⟩ : MethodName) prog_50_method_3_code 2 (some (.array .byte)) :: ws) ({ frames := 1, cells := 1, slots := 7, locals := 40 } : Room)) (fun a U => a = #[(.ref a1)] ∧ Z.Warmed39 U.vm ∧ U.heap = h0) (fun _ _ _ _ _ => True) (fun _ U o U' => ∃ v L, o = .returned v ∧ Q2_3 Z u1 u2 u3 h0 n0 v U'.heap L ∧ FrameEnd U o U' L ({ frames := 1, cells := 1, slots := 7, locals := 40 } : Room).cells ({ frames := 1, cells := 1, slots := 7, locals := 40 } : Room).slots) := by
  refine MetFree.of_bodySF (plainFor_of_name pn_2) hisR ?_
  intro p e s m args below meth c s₁ Bd hml0 hP hK
  obtain ⟨rfl, hZ, hh⟩ := hP
  have hx := Bd.exec
  have hby := Bd.bytes
  have hml : c.maxLocals = 2 := hml0
  have hown : s.vm.findClass "com/example/concordat/concordat/identity/Mllp" = some m.cls := findClass_of_methodNamed Bd.named
  have hnm := (name_of_methodNamed Bd.named Bd.method).1
  have X0 : Stand p l e ({ frames := 1, cells := 1, slots := 7, locals := 40 } : Room) s m #[(.ref a1)] below meth c s₁ [] 0 0 := Stand.of_body Bd
  have e0 : s₁.heap = h0 := by rw [← hh, Bd.state]; rfl
  have N0 := Fr.nil n0
  have pre0 : ∀ t, Steps p.tables e below (s₁.setTop (mkF m 0 #[.val (.ref a1), .unset] [])) t → Steps p.tables e below (s₁.setTop (entryFrame m #[(.ref a1)] 2)) t := fun t k => castTop (ef_2 m a1) k
  obtain ⟨cl_a1, Ar_a1, q_a1, S_a1, N_a1, H_a1, G_a1⟩ := id Va
  obtain ⟨T2, h2, k2, X2, e2, E2, A2, st2⟩ := newP X0 hx hZ (hw _ (List.mem_of_getElem? (i := 4) rfl)) e0 (g := (mkF m 4 #[.val (.ref a1), .unset] [(.int ((3 : Int32) + (3 : Int32)))])) rfl (hb hby d2_4) rfl (by decide) (cap := 7) (by decide) (by decide) (by decide) (by decide)
  obtain ⟨b2, g2⟩ : ∃ z, z = h0.size := ⟨_, rfl⟩
  rw [← g2] at A2 st2
  have V_b2 : Arv Z h2 b2 k2 .byte ((3 : Int32) + (3 : Int32)) (List.replicate 6 (.int (0 : Int32))) (.int (0 : Int32)) := (Arv.new A2 (by decide)).pad (pad_rep [] _ 6)
  have ne2 : a1 ≠ b2 := Nat.ne_of_lt (g2 ▸ Va.lt)
  have g_b2 : n0 ≤ b2 := Nat.le_trans Z0 (Nat.le_of_eq g2.symm)
  have sz_b2 : h0.size ≤ b2 := (Nat.le_trans (Keep.refl h0 []).1 (Nat.le_of_eq g2.symm))
  have K2 : Keep h0 h2 [] := (Keep.refl h0 []).ext E2
  obtain ⟨cl_b2_11, Ar_b2, q_b2, S_b2, N_b2, H_b2, G_b2⟩ := V_b2
  have hin11 : ¬ ((0 : Int32) < 0 ∨ cl_b2_11.slots.size ≤ ((0 : Int32)).toNatClampNeg) := inb_of S_b2 ⟨by decide, by decide⟩
  obtain ⟨T3, h3, X3, e3, W3, st3⟩ := stB X2 hx hZ e2 Ar_b2 (j := (0 : Int32)) hin11 (g := (mkF m 11 #[.val (.ref a1), .val (.ref b2)] [(.int (11 : Int32)), (.int (0 : Int32)), (.ref b2)])) rfl rfl (hb hby d2_11)
  have V_b2_3 := Arv.set Ar_b2 q_b2 S_b2 N_b2 H_b2 G_b2 (fits_nar_byte _) W3 0 rfl (Nat.le_of_ble_eq_true rfl)
  have K3 : Keep h0 h3 [] := K2.wr W3 (Or.inr sz_b2)
  have N3 := Fr.snoc X3 N0 g_b2
  have Va3 : Arv Z h3 a1 ka .byte (3 : Int32) [u1, u2, u3] (.int (0 : Int32)) := (Va.ext E2).other W3 ne2
  have Ar3 : Arr Z h3 a1 cl_a1 .byte := Arr.other W3 (Arr.ext E2 Ar_a1) ne2
  obtain ⟨T4, h4, L4, X4, e4, N4, K4c, V4, st4⟩ := cpA X3 hx hZ hown (hw _ (List.mem_of_getElem? (i := 9) rfl)) (hw _ (List.mem_of_getElem? (i := 12) rfl)) (hw _ (List.mem_of_getElem? (i := 10) rfl)) (hw _ (List.mem_of_getElem? (i := 11) rfl)) e3 Va3 V_b2_3 (Or.inl ⟨rfl, rfl⟩) (sp := (0 : Int32)) (dp := (1 : Int32)) (nn := (3 : Int32)) (by decide) (by decide) (by decide) (by decide) (by decide) (us := [u1, u2, u3]) rfl (Nat.le_of_ble_eq_true rfl) N3 g_b2 (g := (mkF m 18 #[.val (.ref a1), .val (.ref b2)] [(.int (3 : Int32)), (.int (1 : Int32)), (.ref b2), (.int (0 : Int32)), (.ref a1)])) rfl (by rw [hml]; rfl) (rest := []) rfl (hb hby d2_18) (by decide) (W := 0) (by show 2 * 0 + _ ≤ _; exact Nat.le_of_eq rfl) (by decide)
  have Ar4 : Arr Z h4 a1 cl_a1 .byte := ⟨K4c.2.1 a1 cl_a1 Ar3.1 (by simp [ne2]), Ar3.2⟩
  have K4 : Keep h0 h4 [] := K3.trans K4c (fun x hx => by cases List.mem_singleton.mp hx; exact Or.inr sz_b2)
  have V_b2_4 : Arv Z h4 b2 k2 .byte ((3 : Int32) + (3 : Int32)) [.int (own_b (11 : Int32)), u1, u2, u3, .int (0 : Int32), .int (0 : Int32)] (.int (0 : Int32)) := V4
  obtain ⟨cl_b2_28, Ar_b2, q_b2, S_b2, N_b2, H_b2, G_b2⟩ := V_b2_4
  have hin28 : ¬ (((3 : Int32) + (1 : Int32)) < 0 ∨ cl_b2_28.slots.size ≤ (((3 : Int32) + (1 : Int32))).toNatClampNeg) := inb_of S_b2 ⟨by decide, by decide⟩
  obtain ⟨T5, h5, X5, e5, W5, st5⟩ := stB X4 hx hZ e4 Ar_b2 (j := ((3 : Int32) + (1 : Int32))) hin28 (g := (mkF m 28 #[.val (.ref a1), .val (.ref b2)] [(.int (28 : Int32)), (.int ((3 : Int32) + (1 : Int32))), (.ref b2)])) rfl rfl (hb hby d2_28)
  have V_b2_5 := Arv.set Ar_b2 q_b2 S_b2 N_b2 H_b2 G_b2 (fits_nar_byte _) W5 4 (by decide) (Nat.le_of_ble_eq_true rfl)
  have Ar5 : Arr Z h5 a1 cl_a1 .byte := Arr.other W5 Ar4 ne2
  have K5 : Keep h0 h5 [] := K4.wr W5 (Or.inr sz_b2)
  have N5 := Fr.snoc X5 N4 g_b2
  obtain ⟨cl_b2_36, Ar_b2, q_b2, S_b2, N_b2, H_b2, G_b2⟩ := V_b2_5
  have hin36 : ¬ (((3 : Int32) + (2 : Int32)) < 0 ∨ cl_b2_36.slots.size ≤ (((3 : Int32) + (2 : Int32))).toNatClampNeg) := inb_of S_b2 ⟨by decide, by decide⟩
  obtain ⟨T6, h6, X6, e6, W6, st6⟩ := stB X5 hx hZ e5 Ar_b2 (j := ((3 : Int32) + (2 : Int32))) hin36 (g := (mkF m 36 #[.val (.ref a1), .val (.ref b2)] [(.int (13 : Int32)), (.int ((3 : Int32) + (2 : Int32))), (.ref b2)])) rfl rfl (hb hby d2_36)
  have V_b2_6 := Arv.set Ar_b2 q_b2 S_b2 N_b2 H_b2 G_b2 (fits_nar_byte _) W6 5 (by decide) (Nat.le_of_ble_eq_true rfl)
  have K6 : Keep h0 h6 [] := K5.wr W6 (Or.inr sz_b2)
  have N6 := Fr.snoc X6 N5 g_b2
  obtain ⟨fs, hr, hrun, hended, hW, hsame⟩ := X6.leave (v := some (.ref b2)) (fun h => by rw [Bd.returns] at h; cases h)
  refine ⟨_, _, pre0 _ ?_, hrun, hended, _, _, rfl, ?_, ⟨_, rfl⟩, hW, hsame.mono (by decide) (by decide)⟩
  · show Steps p.tables e below (s₁.setTop (mkF m 0 #[.val (.ref a1), .unset] [])) _
    refine XS.aloadN X0.here hx rfl (hb hby d2_0) rfl rfl ?_
    show Steps p.tables e below (s₁.setTop (mkF m 1 #[.val (.ref a1), .unset] [(.ref a1)])) _
    refine X0.arraylength hx (cell := cl_a1) (by rw [e0]; exact Ar_a1.1) (State.isArrayOf_alike hZ.alike Ar_a1.2.1) (g := (mkF m 1 #[.val (.ref a1), .unset] [(.ref a1)])) rfl rfl (hb hby d2_1) _ ?_
    rw [len_of S_a1 N_a1]
    show Steps p.tables e below (s₁.setTop (mkF m 2 #[.val (.ref a1), .unset] [(.int (3 : Int32))])) _
    refine XS.iconst X0.here hx rfl (hb hby d2_2) ?_
    show Steps p.tables e below (s₁.setTop (mkF m 3 #[.val (.ref a1), .unset] [(.int (3 : Int32)), (.int (3 : Int32))])) _
    refine XS.iadd X0.here hx rfl (hb hby d2_3) rfl ?_
    show Steps p.tables e below (s₁.setTop (mkF m 4 #[.val (.ref a1), .unset] [(.int ((3 : Int32) + (3 : Int32)))])) _
    refine st2 _ ?_
    show Steps p.tables e below (T2.setTop (mkF m 6 #[.val (.ref a1), .unset] [(.ref b2)])) _
    refine XS.astoreN X2.here hx rfl (hb hby d2_6) rfl rfl (l' := #[.val (.ref a1), .val (.ref b2)]) rfl ?_
    show Steps p.tables e below (T2.setTop (mkF m 7 #[.val (.ref a1), .val (.ref b2)] [])) _
    refine XS.aloadN X2.here hx rfl (hb hby d2_7) rfl rfl ?_
    show Steps p.tables e below (T2.setTop (mkF m 8 #[.val (.ref a1), .val (.ref b2)] [(.ref b2)])) _
    refine XS.iconst X2.here hx rfl (hb hby d2_8) ?_
    show Steps p.tables e below (T2.setTop (mkF m 9 #[.val (.ref a1), .val (.ref b2)] [(.int (0 : Int32)), (.ref b2)])) _
    refine XS.bipush X2.here hx rfl (hb hby d2_9) ?_
    show Steps p.tables e below (T2.setTop (mkF m 11 #[.val (.ref a1), .val (.ref b2)] [(.int (11 : Int32)), (.int (0 : Int32)), (.ref b2)])) _
    refine st3 _ ?_
    show Steps p.tables e below (T3.setTop (mkF m 12 #[.val (.ref a1), .val (.ref b2)] [])) _
    refine XS.aloadN X3.here hx rfl (hb hby d2_12) rfl rfl ?_
    show Steps p.tables e below (T3.setTop (mkF m 13 #[.val (.ref a1), .val (.ref b2)] [(.ref a1)])) _
    refine XS.iconst X3.here hx rfl (hb hby d2_13) ?_
    show Steps p.tables e below (T3.setTop (mkF m 14 #[.val (.ref a1), .val (.ref b2)] [(.int (0 : Int32)), (.ref a1)])) _
    refine XS.aloadN X3.here hx rfl (hb hby d2_14) rfl rfl ?_
    show Steps p.tables e below (T3.setTop (mkF m 15 #[.val (.ref a1), .val (.ref b2)] [(.ref b2), (.int (0 : Int32)), (.ref a1)])) _
    refine XS.iconst X3.here hx rfl (hb hby d2_15) ?_
    show Steps p.tables e below (T3.setTop (mkF m 16 #[.val (.ref a1), .val (.ref b2)] [(.int (1 : Int32)), (.ref b2), (.int (0 : Int32)), (.ref a1)])) _
    refine XS.aloadN X3.here hx rfl (hb hby d2_16) rfl rfl ?_
    show Steps p.tables e below (T3.setTop (mkF m 17 #[.val (.ref a1), .val (.ref b2)] [(.ref a1), (.int (1 : Int32)), (.ref b2), (.int (0 : Int32)), (.ref a1)])) _
    refine X3.arraylength hx (cell := cl_a1) (by rw [e3]; exact Ar3.1) (State.isArrayOf_alike hZ.alike Ar3.2.1) (g := (mkF m 17 #[.val (.ref a1), .val (.ref b2)] [(.ref a1), (.int (1 : Int32)), (.ref b2), (.int (0 : Int32)), (.ref a1)])) rfl rfl (hb hby d2_17) _ ?_
    rw [len_of S_a1 N_a1]
    show Steps p.tables e below (T3.setTop (mkF m 18 #[.val (.ref a1), .val (.ref b2)] [(.int (3 : Int32)), (.int (1 : Int32)), (.ref b2), (.int (0 : Int32)), (.ref a1)])) _
    refine st4 _ ?_
    show Steps p.tables e below (T4.setTop (mkF m 21 #[.val (.ref a1), .val (.ref b2)] [])) _
    refine XS.aloadN X4.here hx rfl (hb hby d2_21) rfl rfl ?_
    show Steps p.tables e below (T4.setTop (mkF m 22 #[.val (.ref a1), .val (.ref b2)] [(.ref b2)])) _
    refine XS.aloadN X4.here hx rfl (hb hby d2_22) rfl rfl ?_
    show Steps p.tables e below (T4.setTop (mkF m 23 #[.val (.ref a1), .val (.ref b2)] [(.ref a1), (.ref b2)])) _
    refine X4.arraylength hx (cell := cl_a1) (by rw [e4]; exact Ar4.1) (State.isArrayOf_alike hZ.alike Ar4.2.1) (g := (mkF m 23 #[.val (.ref a1), .val (.ref b2)] [(.ref a1), (.ref b2)])) rfl rfl (hb hby d2_23) _ ?_
    rw [len_of S_a1 N_a1]
    show Steps p.tables e below (T4.setTop (mkF m 24 #[.val (.ref a1), .val (.ref b2)] [(.int (3 : Int32)), (.ref b2)])) _
    refine XS.iconst X4.here hx rfl (hb hby d2_24) ?_
    show Steps p.tables e below (T4.setTop (mkF m 25 #[.val (.ref a1), .val (.ref b2)] [(.int (1 : Int32)), (.int (3 : Int32)), (.ref b2)])) _
    refine XS.iadd X4.here hx rfl (hb hby d2_25) rfl ?_
    show Steps p.tables e below (T4.setTop (mkF m 26 #[.val (.ref a1), .val (.ref b2)] [(.int ((3 : Int32) + (1 : Int32))), (.ref b2)])) _
    refine XS.bipush X4.here hx rfl (hb hby d2_26) ?_
    show Steps p.tables e below (T4.setTop (mkF m 28 #[.val (.ref a1), .val (.ref b2)] [(.int (28 : Int32)), (.int ((3 : Int32) + (1 : Int32))), (.ref b2)])) _
    refine st5 _ ?_
    show Steps p.tables e below (T5.setTop (mkF m 29 #[.val (.ref a1), .val (.ref b2)] [])) _
    refine XS.aloadN X5.here hx rfl (hb hby d2_29) rfl rfl ?_
    show Steps p.tables e below (T5.setTop (mkF m 30 #[.val (.ref a1), .val (.ref b2)] [(.ref b2)])) _
    refine XS.aloadN X5.here hx rfl (hb hby d2_30) rfl rfl ?_
    show Steps p.tables e below (T5.setTop (mkF m 31 #[.val (.ref a1), .val (.ref b2)] [(.ref a1), (.ref b2)])) _
    refine X5.arraylength hx (cell := cl_a1) (by rw [e5]; exact Ar5.1) (State.isArrayOf_alike hZ.alike Ar5.2.1) (g := (mkF m 31 #[.val (.ref a1), .val (.ref b2)] [(.ref a1), (.ref b2)])) rfl rfl (hb hby d2_31) _ ?_
    rw [len_of S_a1 N_a1]
    show Steps p.tables e below (T5.setTop (mkF m 32 #[.val (.ref a1), .val (.ref b2)] [(.int (3 : Int32)), (.ref b2)])) _
    refine XS.iconst X5.here hx rfl (hb hby d2_32) ?_
    show Steps p.tables e below (T5.setTop (mkF m 33 #[.val (.ref a1), .val (.ref b2)] [(.int (2 : Int32)), (.int (3 : Int32)), (.ref b2)])) _
    refine XS.iadd X5.here hx rfl (hb hby d2_33) rfl ?_
    show Steps p.tables e below (T5.setTop (mkF m 34 #[.val (.ref a1), .val (.ref b2)] [(.int ((3 : Int32) + (2 : Int32))), (.ref b2)])) _
    refine XS.bipush X5.here hx rfl (hb hby d2_34) ?_
    show Steps p.tables e below (T5.setTop (mkF m 36 #[.val (.ref a1), .val (.ref b2)] [(.int (13 : Int32)), (.int ((3 : Int32) + (2 : Int32))), (.ref b2)])) _
    refine st6 _ ?_
    show Steps p.tables e below (T6.setTop (mkF m 37 #[.val (.ref a1), .val (.ref b2)] [])) _
    refine XS.aloadN X6.here hx rfl (hb hby d2_37) rfl rfl ?_
    show Steps p.tables e below (T6.setTop (mkF m 38 #[.val (.ref a1), .val (.ref b2)] [(.ref b2)])) _
    jvm_step X6.here [X6.here.top, hx, (hb hby d2_38), X6.method', Bd.returns, Value.isRef, FieldType.isReference]
    first | (intro acts; rw [hr _ acts rfl rfl rfl]) | rw [hr _ _ rfl rfl rfl]
    exact Steps.refl _
  · show Q2_3 Z u1 u2 u3 h0 n0 _ T6.heap _
    rw [e6]
    exact ⟨b2, k2, rfl, N6, K6, V_b2_6⟩
def Q2_4 (Z : State) (u1 : Value) (u2 : Value) (u3 : Value) (u4 : Value) (h0 : Heap) (n0 : Nat) (v : Option Value) (h : Heap) (L : List Loc) : Prop := ∃ (b : Addr) (k : ClassId), v = some (.ref b) ∧ Fr n0 L ∧ Keep h0 h [] ∧ Arv Z h b k .byte ((4 : Int32) + (3 : Int32)) [.int (own_b (11 : Int32)), u1, u2, u3, u4, .int (own_b (28 : Int32)), .int (own_b (13 : Int32))] (.int (0 : Int32))
set_option maxRecDepth 65536 in
set_option maxHeartbeats 40000000 in
theorem rm2_4 (l : Launch) (Z : State) (a0 : Array Value) (hw : ∀ d ∈ tables_1, d.before a0 Z = true) (ws : List Jvm.Cond) (a1 : Addr) (ka : ClassId) (u1 : Value) (u2 : Value) (u3 : Value) (u4 : Value) (h0 : Heap) (n0 : Nat) (Z0 : n0 ≤ h0.size) (Va : Arv Z h0 a1 ka .byte (4 : Int32) [u1, u2, u3, u4] (.int (0 : Int32))) :
    MetFree l (⟨"com/example/concordat/concordat/identity/Mllp", "frame", "([B)[B"⟩ : MethodName) (head1 (Jvm.Cond.code (⟨"com/example/concordat/concordat/identity/Mllp", "frame", "([B)[B"⟩ : MethodName) prog_50_method_3_code 2 (some (.array .byte)) :: ws) ({ frames := 1, cells := 1, slots := 7, locals := 40 } : Room)) (fun a U => a = #[(.ref a1)] ∧ Z.Warmed39 U.vm ∧ U.heap = h0) (fun _ _ _ _ _ => True) (fun _ U o U' => ∃ v L, o = .returned v ∧ Q2_4 Z u1 u2 u3 u4 h0 n0 v U'.heap L ∧ FrameEnd U o U' L ({ frames := 1, cells := 1, slots := 7, locals := 40 } : Room).cells ({ frames := 1, cells := 1, slots := 7, locals := 40 } : Room).slots) := by
  refine MetFree.of_bodySF (plainFor_of_name pn_2) hisR ?_
  intro p e s m args below meth c s₁ Bd hml0 hP hK
  obtain ⟨rfl, hZ, hh⟩ := hP
  have hx := Bd.exec
  have hby := Bd.bytes
  have hml : c.maxLocals = 2 := hml0
  have hown : s.vm.findClass "com/example/concordat/concordat/identity/Mllp" = some m.cls := findClass_of_methodNamed Bd.named
  have hnm := (name_of_methodNamed Bd.named Bd.method).1
  have X0 : Stand p l e ({ frames := 1, cells := 1, slots := 7, locals := 40 } : Room) s m #[(.ref a1)] below meth c s₁ [] 0 0 := Stand.of_body Bd
  have e0 : s₁.heap = h0 := by rw [← hh, Bd.state]; rfl
  have N0 := Fr.nil n0
  have pre0 : ∀ t, Steps p.tables e below (s₁.setTop (mkF m 0 #[.val (.ref a1), .unset] [])) t → Steps p.tables e below (s₁.setTop (entryFrame m #[(.ref a1)] 2)) t := fun t k => castTop (ef_2 m a1) k
  obtain ⟨cl_a1, Ar_a1, q_a1, S_a1, N_a1, H_a1, G_a1⟩ := id Va
  obtain ⟨T2, h2, k2, X2, e2, E2, A2, st2⟩ := newP X0 hx hZ (hw _ (List.mem_of_getElem? (i := 4) rfl)) e0 (g := (mkF m 4 #[.val (.ref a1), .unset] [(.int ((4 : Int32) + (3 : Int32)))])) rfl (hb hby d2_4) rfl (by decide) (cap := 7) (by decide) (by decide) (by decide) (by decide)
  obtain ⟨b2, g2⟩ : ∃ z, z = h0.size := ⟨_, rfl⟩
  rw [← g2] at A2 st2
  have V_b2 : Arv Z h2 b2 k2 .byte ((4 : Int32) + (3 : Int32)) (List.replicate 7 (.int (0 : Int32))) (.int (0 : Int32)) := (Arv.new A2 (by decide)).pad (pad_rep [] _ 7)
  have ne2 : a1 ≠ b2 := Nat.ne_of_lt (g2 ▸ Va.lt)
  have g_b2 : n0 ≤ b2 := Nat.le_trans Z0 (Nat.le_of_eq g2.symm)
  have sz_b2 : h0.size ≤ b2 := (Nat.le_trans (Keep.refl h0 []).1 (Nat.le_of_eq g2.symm))
  have K2 : Keep h0 h2 [] := (Keep.refl h0 []).ext E2
  obtain ⟨cl_b2_11, Ar_b2, q_b2, S_b2, N_b2, H_b2, G_b2⟩ := V_b2
  have hin11 : ¬ ((0 : Int32) < 0 ∨ cl_b2_11.slots.size ≤ ((0 : Int32)).toNatClampNeg) := inb_of S_b2 ⟨by decide, by decide⟩
  obtain ⟨T3, h3, X3, e3, W3, st3⟩ := stB X2 hx hZ e2 Ar_b2 (j := (0 : Int32)) hin11 (g := (mkF m 11 #[.val (.ref a1), .val (.ref b2)] [(.int (11 : Int32)), (.int (0 : Int32)), (.ref b2)])) rfl rfl (hb hby d2_11)
  have V_b2_3 := Arv.set Ar_b2 q_b2 S_b2 N_b2 H_b2 G_b2 (fits_nar_byte _) W3 0 rfl (Nat.le_of_ble_eq_true rfl)
  have K3 : Keep h0 h3 [] := K2.wr W3 (Or.inr sz_b2)
  have N3 := Fr.snoc X3 N0 g_b2
  have Va3 : Arv Z h3 a1 ka .byte (4 : Int32) [u1, u2, u3, u4] (.int (0 : Int32)) := (Va.ext E2).other W3 ne2
  have Ar3 : Arr Z h3 a1 cl_a1 .byte := Arr.other W3 (Arr.ext E2 Ar_a1) ne2
  obtain ⟨T4, h4, L4, X4, e4, N4, K4c, V4, st4⟩ := cpA X3 hx hZ hown (hw _ (List.mem_of_getElem? (i := 9) rfl)) (hw _ (List.mem_of_getElem? (i := 12) rfl)) (hw _ (List.mem_of_getElem? (i := 10) rfl)) (hw _ (List.mem_of_getElem? (i := 11) rfl)) e3 Va3 V_b2_3 (Or.inl ⟨rfl, rfl⟩) (sp := (0 : Int32)) (dp := (1 : Int32)) (nn := (4 : Int32)) (by decide) (by decide) (by decide) (by decide) (by decide) (us := [u1, u2, u3, u4]) rfl (Nat.le_of_ble_eq_true rfl) N3 g_b2 (g := (mkF m 18 #[.val (.ref a1), .val (.ref b2)] [(.int (4 : Int32)), (.int (1 : Int32)), (.ref b2), (.int (0 : Int32)), (.ref a1)])) rfl (by rw [hml]; rfl) (rest := []) rfl (hb hby d2_18) (by decide) (W := 0) (by show 2 * 0 + _ ≤ _; exact Nat.le_of_eq rfl) (by decide)
  have Ar4 : Arr Z h4 a1 cl_a1 .byte := ⟨K4c.2.1 a1 cl_a1 Ar3.1 (by simp [ne2]), Ar3.2⟩
  have K4 : Keep h0 h4 [] := K3.trans K4c (fun x hx => by cases List.mem_singleton.mp hx; exact Or.inr sz_b2)
  have V_b2_4 : Arv Z h4 b2 k2 .byte ((4 : Int32) + (3 : Int32)) [.int (own_b (11 : Int32)), u1, u2, u3, u4, .int (0 : Int32), .int (0 : Int32)] (.int (0 : Int32)) := V4
  obtain ⟨cl_b2_28, Ar_b2, q_b2, S_b2, N_b2, H_b2, G_b2⟩ := V_b2_4
  have hin28 : ¬ (((4 : Int32) + (1 : Int32)) < 0 ∨ cl_b2_28.slots.size ≤ (((4 : Int32) + (1 : Int32))).toNatClampNeg) := inb_of S_b2 ⟨by decide, by decide⟩
  obtain ⟨T5, h5, X5, e5, W5, st5⟩ := stB X4 hx hZ e4 Ar_b2 (j := ((4 : Int32) + (1 : Int32))) hin28 (g := (mkF m 28 #[.val (.ref a1), .val (.ref b2)] [(.int (28 : Int32)), (.int ((4 : Int32) + (1 : Int32))), (.ref b2)])) rfl rfl (hb hby d2_28)
  have V_b2_5 := Arv.set Ar_b2 q_b2 S_b2 N_b2 H_b2 G_b2 (fits_nar_byte _) W5 5 (by decide) (Nat.le_of_ble_eq_true rfl)
  have Ar5 : Arr Z h5 a1 cl_a1 .byte := Arr.other W5 Ar4 ne2
  have K5 : Keep h0 h5 [] := K4.wr W5 (Or.inr sz_b2)
  have N5 := Fr.snoc X5 N4 g_b2
  obtain ⟨cl_b2_36, Ar_b2, q_b2, S_b2, N_b2, H_b2, G_b2⟩ := V_b2_5
  have hin36 : ¬ (((4 : Int32) + (2 : Int32)) < 0 ∨ cl_b2_36.slots.size ≤ (((4 : Int32) + (2 : Int32))).toNatClampNeg) := inb_of S_b2 ⟨by decide, by decide⟩
  obtain ⟨T6, h6, X6, e6, W6, st6⟩ := stB X5 hx hZ e5 Ar_b2 (j := ((4 : Int32) + (2 : Int32))) hin36 (g := (mkF m 36 #[.val (.ref a1), .val (.ref b2)] [(.int (13 : Int32)), (.int ((4 : Int32) + (2 : Int32))), (.ref b2)])) rfl rfl (hb hby d2_36)
  have V_b2_6 := Arv.set Ar_b2 q_b2 S_b2 N_b2 H_b2 G_b2 (fits_nar_byte _) W6 6 (by decide) (Nat.le_of_ble_eq_true rfl)
  have K6 : Keep h0 h6 [] := K5.wr W6 (Or.inr sz_b2)
  have N6 := Fr.snoc X6 N5 g_b2
  obtain ⟨fs, hr, hrun, hended, hW, hsame⟩ := X6.leave (v := some (.ref b2)) (fun h => by rw [Bd.returns] at h; cases h)
  refine ⟨_, _, pre0 _ ?_, hrun, hended, _, _, rfl, ?_, ⟨_, rfl⟩, hW, hsame.mono (by decide) (by decide)⟩
  · show Steps p.tables e below (s₁.setTop (mkF m 0 #[.val (.ref a1), .unset] [])) _
    refine XS.aloadN X0.here hx rfl (hb hby d2_0) rfl rfl ?_
    show Steps p.tables e below (s₁.setTop (mkF m 1 #[.val (.ref a1), .unset] [(.ref a1)])) _
    refine X0.arraylength hx (cell := cl_a1) (by rw [e0]; exact Ar_a1.1) (State.isArrayOf_alike hZ.alike Ar_a1.2.1) (g := (mkF m 1 #[.val (.ref a1), .unset] [(.ref a1)])) rfl rfl (hb hby d2_1) _ ?_
    rw [len_of S_a1 N_a1]
    show Steps p.tables e below (s₁.setTop (mkF m 2 #[.val (.ref a1), .unset] [(.int (4 : Int32))])) _
    refine XS.iconst X0.here hx rfl (hb hby d2_2) ?_
    show Steps p.tables e below (s₁.setTop (mkF m 3 #[.val (.ref a1), .unset] [(.int (3 : Int32)), (.int (4 : Int32))])) _
    refine XS.iadd X0.here hx rfl (hb hby d2_3) rfl ?_
    show Steps p.tables e below (s₁.setTop (mkF m 4 #[.val (.ref a1), .unset] [(.int ((4 : Int32) + (3 : Int32)))])) _
    refine st2 _ ?_
    show Steps p.tables e below (T2.setTop (mkF m 6 #[.val (.ref a1), .unset] [(.ref b2)])) _
    refine XS.astoreN X2.here hx rfl (hb hby d2_6) rfl rfl (l' := #[.val (.ref a1), .val (.ref b2)]) rfl ?_
    show Steps p.tables e below (T2.setTop (mkF m 7 #[.val (.ref a1), .val (.ref b2)] [])) _
    refine XS.aloadN X2.here hx rfl (hb hby d2_7) rfl rfl ?_
    show Steps p.tables e below (T2.setTop (mkF m 8 #[.val (.ref a1), .val (.ref b2)] [(.ref b2)])) _
    refine XS.iconst X2.here hx rfl (hb hby d2_8) ?_
    show Steps p.tables e below (T2.setTop (mkF m 9 #[.val (.ref a1), .val (.ref b2)] [(.int (0 : Int32)), (.ref b2)])) _
    refine XS.bipush X2.here hx rfl (hb hby d2_9) ?_
    show Steps p.tables e below (T2.setTop (mkF m 11 #[.val (.ref a1), .val (.ref b2)] [(.int (11 : Int32)), (.int (0 : Int32)), (.ref b2)])) _
    refine st3 _ ?_
    show Steps p.tables e below (T3.setTop (mkF m 12 #[.val (.ref a1), .val (.ref b2)] [])) _
    refine XS.aloadN X3.here hx rfl (hb hby d2_12) rfl rfl ?_
    show Steps p.tables e below (T3.setTop (mkF m 13 #[.val (.ref a1), .val (.ref b2)] [(.ref a1)])) _
    refine XS.iconst X3.here hx rfl (hb hby d2_13) ?_
    show Steps p.tables e below (T3.setTop (mkF m 14 #[.val (.ref a1), .val (.ref b2)] [(.int (0 : Int32)), (.ref a1)])) _
    refine XS.aloadN X3.here hx rfl (hb hby d2_14) rfl rfl ?_
    show Steps p.tables e below (T3.setTop (mkF m 15 #[.val (.ref a1), .val (.ref b2)] [(.ref b2), (.int (0 : Int32)), (.ref a1)])) _
    refine XS.iconst X3.here hx rfl (hb hby d2_15) ?_
    show Steps p.tables e below (T3.setTop (mkF m 16 #[.val (.ref a1), .val (.ref b2)] [(.int (1 : Int32)), (.ref b2), (.int (0 : Int32)), (.ref a1)])) _
    refine XS.aloadN X3.here hx rfl (hb hby d2_16) rfl rfl ?_
    show Steps p.tables e below (T3.setTop (mkF m 17 #[.val (.ref a1), .val (.ref b2)] [(.ref a1), (.int (1 : Int32)), (.ref b2), (.int (0 : Int32)), (.ref a1)])) _
    refine X3.arraylength hx (cell := cl_a1) (by rw [e3]; exact Ar3.1) (State.isArrayOf_alike hZ.alike Ar3.2.1) (g := (mkF m 17 #[.val (.ref a1), .val (.ref b2)] [(.ref a1), (.int (1 : Int32)), (.ref b2), (.int (0 : Int32)), (.ref a1)])) rfl rfl (hb hby d2_17) _ ?_
    rw [len_of S_a1 N_a1]
    show Steps p.tables e below (T3.setTop (mkF m 18 #[.val (.ref a1), .val (.ref b2)] [(.int (4 : Int32)), (.int (1 : Int32)), (.ref b2), (.int (0 : Int32)), (.ref a1)])) _
    refine st4 _ ?_
    show Steps p.tables e below (T4.setTop (mkF m 21 #[.val (.ref a1), .val (.ref b2)] [])) _
    refine XS.aloadN X4.here hx rfl (hb hby d2_21) rfl rfl ?_
    show Steps p.tables e below (T4.setTop (mkF m 22 #[.val (.ref a1), .val (.ref b2)] [(.ref b2)])) _
    refine XS.aloadN X4.here hx rfl (hb hby d2_22) rfl rfl ?_
    show Steps p.tables e below (T4.setTop (mkF m 23 #[.val (.ref a1), .val (.ref b2)] [(.ref a1), (.ref b2)])) _
    refine X4.arraylength hx (cell := cl_a1) (by rw [e4]; exact Ar4.1) (State.isArrayOf_alike hZ.alike Ar4.2.1) (g := (mkF m 23 #[.val (.ref a1), .val (.ref b2)] [(.ref a1), (.ref b2)])) rfl rfl (hb hby d2_23) _ ?_
    rw [len_of S_a1 N_a1]
    show Steps p.tables e below (T4.setTop (mkF m 24 #[.val (.ref a1), .val (.ref b2)] [(.int (4 : Int32)), (.ref b2)])) _
    refine XS.iconst X4.here hx rfl (hb hby d2_24) ?_
    show Steps p.tables e below (T4.setTop (mkF m 25 #[.val (.ref a1), .val (.ref b2)] [(.int (1 : Int32)), (.int (4 : Int32)), (.ref b2)])) _
    refine XS.iadd X4.here hx rfl (hb hby d2_25) rfl ?_
    show Steps p.tables e below (T4.setTop (mkF m 26 #[.val (.ref a1), .val (.ref b2)] [(.int ((4 : Int32) + (1 : Int32))), (.ref b2)])) _
    refine XS.bipush X4.here hx rfl (hb hby d2_26) ?_
    show Steps p.tables e below (T4.setTop (mkF m 28 #[.val (.ref a1), .val (.ref b2)] [(.int (28 : Int32)), (.int ((4 : Int32) + (1 : Int32))), (.ref b2)])) _
    refine st5 _ ?_
    show Steps p.tables e below (T5.setTop (mkF m 29 #[.val (.ref a1), .val (.ref b2)] [])) _
    refine XS.aloadN X5.here hx rfl (hb hby d2_29) rfl rfl ?_
    show Steps p.tables e below (T5.setTop (mkF m 30 #[.val (.ref a1), .val (.ref b2)] [(.ref b2)])) _
    refine XS.aloadN X5.here hx rfl (hb hby d2_30) rfl rfl ?_
    show Steps p.tables e below (T5.setTop (mkF m 31 #[.val (.ref a1), .val (.ref b2)] [(.ref a1), (.ref b2)])) _
    refine X5.arraylength hx (cell := cl_a1) (by rw [e5]; exact Ar5.1) (State.isArrayOf_alike hZ.alike Ar5.2.1) (g := (mkF m 31 #[.val (.ref a1), .val (.ref b2)] [(.ref a1), (.ref b2)])) rfl rfl (hb hby d2_31) _ ?_
    rw [len_of S_a1 N_a1]
    show Steps p.tables e below (T5.setTop (mkF m 32 #[.val (.ref a1), .val (.ref b2)] [(.int (4 : Int32)), (.ref b2)])) _
    refine XS.iconst X5.here hx rfl (hb hby d2_32) ?_
    show Steps p.tables e below (T5.setTop (mkF m 33 #[.val (.ref a1), .val (.ref b2)] [(.int (2 : Int32)), (.int (4 : Int32)), (.ref b2)])) _
    refine XS.iadd X5.here hx rfl (hb hby d2_33) rfl ?_
    show Steps p.tables e below (T5.setTop (mkF m 34 #[.val (.ref a1), .val (.ref b2)] [(.int ((4 : Int32) + (2 : Int32))), (.ref b2)])) _
    refine XS.bipush X5.here hx rfl (hb hby d2_34) ?_
    show Steps p.tables e below (T5.setTop (mkF m 36 #[.val (.ref a1), .val (.ref b2)] [(.int (13 : Int32)), (.int ((4 : Int32) + (2 : Int32))), (.ref b2)])) _
    refine st6 _ ?_
    show Steps p.tables e below (T6.setTop (mkF m 37 #[.val (.ref a1), .val (.ref b2)] [])) _
    refine XS.aloadN X6.here hx rfl (hb hby d2_37) rfl rfl ?_
    show Steps p.tables e below (T6.setTop (mkF m 38 #[.val (.ref a1), .val (.ref b2)] [(.ref b2)])) _
    jvm_step X6.here [X6.here.top, hx, (hb hby d2_38), X6.method', Bd.returns, Value.isRef, FieldType.isReference]
    first | (intro acts; rw [hr _ acts rfl rfl rfl]) | rw [hr _ _ rfl rfl rfl]
    exact Steps.refl _
  · show Q2_4 Z u1 u2 u3 u4 h0 n0 _ T6.heap _
    rw [e6]
    exact ⟨b2, k2, rfl, N6, K6, V_b2_6⟩
set_option maxRecDepth 65536 in
set_option maxHeartbeats 40000000 in
theorem tn0_l0 {p : Program} {l : Launch} {e : Env} {R : Room} {s : State} {m : MethodId} {args : Array Value} {below : List Frame} {meth : Method} {c : Code} {T0 : State} {locs : List Loc} {cells slots : Nat} {Z : State} {a0 : Array Value} {h0 : Heap} (s0 : Slot) (s1 : Slot) (s2 : Slot) (s3 : Slot) (s4 : Slot) (i5 : Int32) (s6 : Slot) (s7 : Slot) (s8 : Slot) (s9 : Slot) (o10 : Addr) (o11 : Addr) (cl_o11 : Cell) (z_o11 : Int32) (w6 : Int32) (w7 : Int32) (w8 : Int32) (cl_o10 : Cell) (z_o10 : Int32)
    (X0 : Stand p l e R s m args below meth c T0 locs cells slots) (hx : p.tables.exec = Jvm.exec) (hZ : Z.Warmed39 s.vm) (hw : ∀ d ∈ tables_1, d.before a0 Z = true) (hby : c.code = code) (hml : c.maxLocals = 12) (hown : s.vm.findClass "com/example/concordat/concordat/identity/MllpFramePinLaw" = some m.cls) (e0 : T0.heap = h0) (Ar_o11 : Arr Z h0 o11 cl_o11 .byte) (S_o11 : cl_o11.slots.size = z_o11.toNatClampNeg) (N_o11 : ¬ z_o11 < 0) (hin67 : ¬ ((0 : Int32) < 0 ∨ cl_o11.slots.size ≤ ((0 : Int32)).toNatClampNeg)) (hat67 : cl_o11.slots[((0 : Int32)).toNatClampNeg]? = some (.int w6)) (hin81 : ¬ ((i5 + (1 : Int32)) < 0 ∨ cl_o11.slots.size ≤ ((i5 + (1 : Int32))).toNatClampNeg)) (hat81 : cl_o11.slots[((i5 + (1 : Int32))).toNatClampNeg]? = some (.int w7)) (hin95 : ¬ ((i5 + (2 : Int32)) < 0 ∨ cl_o11.slots.size ≤ ((i5 + (2 : Int32))).toNatClampNeg)) (hat95 : cl_o11.slots[((i5 + (2 : Int32))).toNatClampNeg]? = some (.int w8)) (Ar_o10 : Arr Z h0 o10 cl_o10 .byte) (S_o10 : cl_o10.slots.size = z_o10.toNatClampNeg) (N_o10 : ¬ z_o10 < 0) (hc59 : z_o11 = (i5 + (3 : Int32))) (hc70 : w6 = (11 : Int32)) (hc84 : w7 = (28 : Int32)) (hc98 : w8 = (13 : Int32)) (hc108 : z_o10 = i5) (hc115 : ¬ ((0 : Int32) < i5)) (hc141 : ¬ ((1 : Int32) < i5)) (hc167 : ¬ ((2 : Int32) < i5)) (hc193 : ¬ ((3 : Int32) < i5)) :
    ∃ (T' : State), Stand p l e R s m args below meth c T' locs cells slots ∧ T'.heap = h0 ∧
      ∀ target, Steps p.tables e below (T'.setTop (mkF m 216 #[s0, s1, s2, s3, s4, .val (.int i5), s6, s7, s8, s9, .val (.ref o10), .val (.ref o11)] [])) target → Steps p.tables e below (T0.setTop (mkF m 47 #[s0, s1, s2, s3, s4, .val (.int i5), s6, s7, s8, s9, .val (.ref o10), .val (.ref o11)] [])) target := by
  refine ⟨T0, X0, e0, fun target kt => ?_⟩
  show Steps p.tables e below (T0.setTop (mkF m 47 #[s0, s1, s2, s3, s4, .val (.int i5), s6, s7, s8, s9, .val (.ref o10), .val (.ref o11)] [])) _
  refine XS.aload X0.here hx rfl (hb hby at_47) rfl rfl ?_
  show Steps p.tables e below (T0.setTop (mkF m 49 #[s0, s1, s2, s3, s4, .val (.int i5), s6, s7, s8, s9, .val (.ref o10), .val (.ref o11)] [(.ref o11)])) _
  refine XS.ifnullNo X0.here hx rfl (hb hby at_49) rfl ?_
  show Steps p.tables e below (T0.setTop (mkF m 52 #[s0, s1, s2, s3, s4, .val (.int i5), s6, s7, s8, s9, .val (.ref o10), .val (.ref o11)] [])) _
  refine XS.aload X0.here hx rfl (hb hby at_52) rfl rfl ?_
  show Steps p.tables e below (T0.setTop (mkF m 54 #[s0, s1, s2, s3, s4, .val (.int i5), s6, s7, s8, s9, .val (.ref o10), .val (.ref o11)] [(.ref o11)])) _
  refine X0.arraylength hx (cell := cl_o11) (by rw [e0]; exact Ar_o11.1) (State.isArrayOf_alike hZ.alike Ar_o11.2.1) (g := (mkF m 54 #[s0, s1, s2, s3, s4, .val (.int i5), s6, s7, s8, s9, .val (.ref o10), .val (.ref o11)] [(.ref o11)])) rfl rfl (hb hby at_54) _ ?_
  rw [len_of S_o11 N_o11]
  show Steps p.tables e below (T0.setTop (mkF m 55 #[s0, s1, s2, s3, s4, .val (.int i5), s6, s7, s8, s9, .val (.ref o10), .val (.ref o11)] [(.int z_o11)])) _
  refine XS.iload X0.here hx rfl (hb hby at_55) rfl ?_
  show Steps p.tables e below (T0.setTop (mkF m 57 #[s0, s1, s2, s3, s4, .val (.int i5), s6, s7, s8, s9, .val (.ref o10), .val (.ref o11)] [(.int i5), (.int z_o11)])) _
  refine XS.iconst X0.here hx rfl (hb hby at_57) ?_
  show Steps p.tables e below (T0.setTop (mkF m 58 #[s0, s1, s2, s3, s4, .val (.int i5), s6, s7, s8, s9, .val (.ref o10), .val (.ref o11)] [(.int (3 : Int32)), (.int i5), (.int z_o11)])) _
  refine XS.iadd X0.here hx rfl (hb hby at_58) rfl ?_
  show Steps p.tables e below (T0.setTop (mkF m 59 #[s0, s1, s2, s3, s4, .val (.int i5), s6, s7, s8, s9, .val (.ref o10), .val (.ref o11)] [(.int (i5 + (3 : Int32))), (.int z_o11)])) _
  refine XS.icmpYes X0.here hx rfl (pc0 := 59) (pc' := 64) rfl (hb hby at_59) rfl (teq hc59).1 (by decide) (by decide) ?_
  show Steps p.tables e below (T0.setTop (mkF m 64 #[s0, s1, s2, s3, s4, .val (.int i5), s6, s7, s8, s9, .val (.ref o10), .val (.ref o11)] [])) _
  refine XS.aload X0.here hx rfl (hb hby at_64) rfl rfl ?_
  show Steps p.tables e below (T0.setTop (mkF m 66 #[s0, s1, s2, s3, s4, .val (.int i5), s6, s7, s8, s9, .val (.ref o10), .val (.ref o11)] [(.ref o11)])) _
  refine XS.iconst X0.here hx rfl (hb hby at_66) ?_
  show Steps p.tables e below (T0.setTop (mkF m 67 #[s0, s1, s2, s3, s4, .val (.int i5), s6, s7, s8, s9, .val (.ref o10), .val (.ref o11)] [(.int (0 : Int32)), (.ref o11)])) _
  refine X0.baloadBytes hx (j := (0 : Int32)) (v := (.int w6)) (by rw [e0]; exact Ar_o11.1) (State.isArrayOf_alike hZ.alike Ar_o11.2.1) Ar_o11.2.2 hin67 hat67 (g := (mkF m 67 #[s0, s1, s2, s3, s4, .val (.int i5), s6, s7, s8, s9, .val (.ref o10), .val (.ref o11)] [(.int (0 : Int32)), (.ref o11)])) rfl rfl (hb hby at_67) _ ?_
  show Steps p.tables e below (T0.setTop (mkF m 68 #[s0, s1, s2, s3, s4, .val (.int i5), s6, s7, s8, s9, .val (.ref o10), .val (.ref o11)] [(.int w6)])) _
  refine XS.bipush X0.here hx rfl (hb hby at_68) ?_
  show Steps p.tables e below (T0.setTop (mkF m 70 #[s0, s1, s2, s3, s4, .val (.int i5), s6, s7, s8, s9, .val (.ref o10), .val (.ref o11)] [(.int (11 : Int32)), (.int w6)])) _
  refine XS.icmpYes X0.here hx rfl (pc0 := 70) (pc' := 75) rfl (hb hby at_70) rfl (teq hc70).1 (by decide) (by decide) ?_
  show Steps p.tables e below (T0.setTop (mkF m 75 #[s0, s1, s2, s3, s4, .val (.int i5), s6, s7, s8, s9, .val (.ref o10), .val (.ref o11)] [])) _
  refine XS.aload X0.here hx rfl (hb hby at_75) rfl rfl ?_
  show Steps p.tables e below (T0.setTop (mkF m 77 #[s0, s1, s2, s3, s4, .val (.int i5), s6, s7, s8, s9, .val (.ref o10), .val (.ref o11)] [(.ref o11)])) _
  refine XS.iload X0.here hx rfl (hb hby at_77) rfl ?_
  show Steps p.tables e below (T0.setTop (mkF m 79 #[s0, s1, s2, s3, s4, .val (.int i5), s6, s7, s8, s9, .val (.ref o10), .val (.ref o11)] [(.int i5), (.ref o11)])) _
  refine XS.iconst X0.here hx rfl (hb hby at_79) ?_
  show Steps p.tables e below (T0.setTop (mkF m 80 #[s0, s1, s2, s3, s4, .val (.int i5), s6, s7, s8, s9, .val (.ref o10), .val (.ref o11)] [(.int (1 : Int32)), (.int i5), (.ref o11)])) _
  refine XS.iadd X0.here hx rfl (hb hby at_80) rfl ?_
  show Steps p.tables e below (T0.setTop (mkF m 81 #[s0, s1, s2, s3, s4, .val (.int i5), s6, s7, s8, s9, .val (.ref o10), .val (.ref o11)] [(.int (i5 + (1 : Int32))), (.ref o11)])) _
  refine X0.baloadBytes hx (j := (i5 + (1 : Int32))) (v := (.int w7)) (by rw [e0]; exact Ar_o11.1) (State.isArrayOf_alike hZ.alike Ar_o11.2.1) Ar_o11.2.2 hin81 hat81 (g := (mkF m 81 #[s0, s1, s2, s3, s4, .val (.int i5), s6, s7, s8, s9, .val (.ref o10), .val (.ref o11)] [(.int (i5 + (1 : Int32))), (.ref o11)])) rfl rfl (hb hby at_81) _ ?_
  show Steps p.tables e below (T0.setTop (mkF m 82 #[s0, s1, s2, s3, s4, .val (.int i5), s6, s7, s8, s9, .val (.ref o10), .val (.ref o11)] [(.int w7)])) _
  refine XS.bipush X0.here hx rfl (hb hby at_82) ?_
  show Steps p.tables e below (T0.setTop (mkF m 84 #[s0, s1, s2, s3, s4, .val (.int i5), s6, s7, s8, s9, .val (.ref o10), .val (.ref o11)] [(.int (28 : Int32)), (.int w7)])) _
  refine XS.icmpYes X0.here hx rfl (pc0 := 84) (pc' := 89) rfl (hb hby at_84) rfl (teq hc84).1 (by decide) (by decide) ?_
  show Steps p.tables e below (T0.setTop (mkF m 89 #[s0, s1, s2, s3, s4, .val (.int i5), s6, s7, s8, s9, .val (.ref o10), .val (.ref o11)] [])) _
  refine XS.aload X0.here hx rfl (hb hby at_89) rfl rfl ?_
  show Steps p.tables e below (T0.setTop (mkF m 91 #[s0, s1, s2, s3, s4, .val (.int i5), s6, s7, s8, s9, .val (.ref o10), .val (.ref o11)] [(.ref o11)])) _
  refine XS.iload X0.here hx rfl (hb hby at_91) rfl ?_
  show Steps p.tables e below (T0.setTop (mkF m 93 #[s0, s1, s2, s3, s4, .val (.int i5), s6, s7, s8, s9, .val (.ref o10), .val (.ref o11)] [(.int i5), (.ref o11)])) _
  refine XS.iconst X0.here hx rfl (hb hby at_93) ?_
  show Steps p.tables e below (T0.setTop (mkF m 94 #[s0, s1, s2, s3, s4, .val (.int i5), s6, s7, s8, s9, .val (.ref o10), .val (.ref o11)] [(.int (2 : Int32)), (.int i5), (.ref o11)])) _
  refine XS.iadd X0.here hx rfl (hb hby at_94) rfl ?_
  show Steps p.tables e below (T0.setTop (mkF m 95 #[s0, s1, s2, s3, s4, .val (.int i5), s6, s7, s8, s9, .val (.ref o10), .val (.ref o11)] [(.int (i5 + (2 : Int32))), (.ref o11)])) _
  refine X0.baloadBytes hx (j := (i5 + (2 : Int32))) (v := (.int w8)) (by rw [e0]; exact Ar_o11.1) (State.isArrayOf_alike hZ.alike Ar_o11.2.1) Ar_o11.2.2 hin95 hat95 (g := (mkF m 95 #[s0, s1, s2, s3, s4, .val (.int i5), s6, s7, s8, s9, .val (.ref o10), .val (.ref o11)] [(.int (i5 + (2 : Int32))), (.ref o11)])) rfl rfl (hb hby at_95) _ ?_
  show Steps p.tables e below (T0.setTop (mkF m 96 #[s0, s1, s2, s3, s4, .val (.int i5), s6, s7, s8, s9, .val (.ref o10), .val (.ref o11)] [(.int w8)])) _
  refine XS.bipush X0.here hx rfl (hb hby at_96) ?_
  show Steps p.tables e below (T0.setTop (mkF m 98 #[s0, s1, s2, s3, s4, .val (.int i5), s6, s7, s8, s9, .val (.ref o10), .val (.ref o11)] [(.int (13 : Int32)), (.int w8)])) _
  refine XS.icmpYes X0.here hx rfl (pc0 := 98) (pc' := 103) rfl (hb hby at_98) rfl (teq hc98).1 (by decide) (by decide) ?_
  show Steps p.tables e below (T0.setTop (mkF m 103 #[s0, s1, s2, s3, s4, .val (.int i5), s6, s7, s8, s9, .val (.ref o10), .val (.ref o11)] [])) _
  refine XS.aload X0.here hx rfl (hb hby at_103) rfl rfl ?_
  show Steps p.tables e below (T0.setTop (mkF m 105 #[s0, s1, s2, s3, s4, .val (.int i5), s6, s7, s8, s9, .val (.ref o10), .val (.ref o11)] [(.ref o10)])) _
  refine X0.arraylength hx (cell := cl_o10) (by rw [e0]; exact Ar_o10.1) (State.isArrayOf_alike hZ.alike Ar_o10.2.1) (g := (mkF m 105 #[s0, s1, s2, s3, s4, .val (.int i5), s6, s7, s8, s9, .val (.ref o10), .val (.ref o11)] [(.ref o10)])) rfl rfl (hb hby at_105) _ ?_
  rw [len_of S_o10 N_o10]
  show Steps p.tables e below (T0.setTop (mkF m 106 #[s0, s1, s2, s3, s4, .val (.int i5), s6, s7, s8, s9, .val (.ref o10), .val (.ref o11)] [(.int z_o10)])) _
  refine XS.iload X0.here hx rfl (hb hby at_106) rfl ?_
  show Steps p.tables e below (T0.setTop (mkF m 108 #[s0, s1, s2, s3, s4, .val (.int i5), s6, s7, s8, s9, .val (.ref o10), .val (.ref o11)] [(.int i5), (.int z_o10)])) _
  refine XS.icmpYes X0.here hx rfl (pc0 := 108) (pc' := 113) rfl (hb hby at_108) rfl (teq hc108).1 (by decide) (by decide) ?_
  show Steps p.tables e below (T0.setTop (mkF m 113 #[s0, s1, s2, s3, s4, .val (.int i5), s6, s7, s8, s9, .val (.ref o10), .val (.ref o11)] [])) _
  refine XS.iload X0.here hx rfl (hb hby at_113) rfl ?_
  show Steps p.tables e below (T0.setTop (mkF m 115 #[s0, s1, s2, s3, s4, .val (.int i5), s6, s7, s8, s9, .val (.ref o10), .val (.ref o11)] [(.int i5)])) _
  refine XS.ifYes X0.here hx rfl (pc0 := 115) (pc' := 138) rfl (hb hby at_115) rfl ((if0 _ _).trans (flt hc115).2.2.2) (by decide) (by decide) ?_
  show Steps p.tables e below (T0.setTop (mkF m 138 #[s0, s1, s2, s3, s4, .val (.int i5), s6, s7, s8, s9, .val (.ref o10), .val (.ref o11)] [])) _
  refine XS.iload X0.here hx rfl (hb hby at_138) rfl ?_
  show Steps p.tables e below (T0.setTop (mkF m 140 #[s0, s1, s2, s3, s4, .val (.int i5), s6, s7, s8, s9, .val (.ref o10), .val (.ref o11)] [(.int i5)])) _
  refine XS.iconst X0.here hx rfl (hb hby at_140) ?_
  show Steps p.tables e below (T0.setTop (mkF m 141 #[s0, s1, s2, s3, s4, .val (.int i5), s6, s7, s8, s9, .val (.ref o10), .val (.ref o11)] [(.int (1 : Int32)), (.int i5)])) _
  refine XS.icmpYes X0.here hx rfl (pc0 := 141) (pc' := 164) rfl (hb hby at_141) rfl (flt hc141).2.2.2 (by decide) (by decide) ?_
  show Steps p.tables e below (T0.setTop (mkF m 164 #[s0, s1, s2, s3, s4, .val (.int i5), s6, s7, s8, s9, .val (.ref o10), .val (.ref o11)] [])) _
  refine XS.iload X0.here hx rfl (hb hby at_164) rfl ?_
  show Steps p.tables e below (T0.setTop (mkF m 166 #[s0, s1, s2, s3, s4, .val (.int i5), s6, s7, s8, s9, .val (.ref o10), .val (.ref o11)] [(.int i5)])) _
  refine XS.iconst X0.here hx rfl (hb hby at_166) ?_
  show Steps p.tables e below (T0.setTop (mkF m 167 #[s0, s1, s2, s3, s4, .val (.int i5), s6, s7, s8, s9, .val (.ref o10), .val (.ref o11)] [(.int (2 : Int32)), (.int i5)])) _
  refine XS.icmpYes X0.here hx rfl (pc0 := 167) (pc' := 190) rfl (hb hby at_167) rfl (flt hc167).2.2.2 (by decide) (by decide) ?_
  show Steps p.tables e below (T0.setTop (mkF m 190 #[s0, s1, s2, s3, s4, .val (.int i5), s6, s7, s8, s9, .val (.ref o10), .val (.ref o11)] [])) _
  refine XS.iload X0.here hx rfl (hb hby at_190) rfl ?_
  show Steps p.tables e below (T0.setTop (mkF m 192 #[s0, s1, s2, s3, s4, .val (.int i5), s6, s7, s8, s9, .val (.ref o10), .val (.ref o11)] [(.int i5)])) _
  refine XS.iconst X0.here hx rfl (hb hby at_192) ?_
  show Steps p.tables e below (T0.setTop (mkF m 193 #[s0, s1, s2, s3, s4, .val (.int i5), s6, s7, s8, s9, .val (.ref o10), .val (.ref o11)] [(.int (3 : Int32)), (.int i5)])) _
  refine XS.icmpYes X0.here hx rfl (pc0 := 193) (pc' := 216) rfl (hb hby at_193) rfl (flt hc193).2.2.2 (by decide) (by decide) ?_
  exact kt
theorem pd_0_0 : parseMethodDescriptor "(IBBBB)[B" = some ⟨[.int, .byte, .byte, .byte, .byte], some (.array .byte)⟩ := by decide +kernel
theorem pd_0_1 : parseMethodDescriptor "([B)[B" = some ⟨[(.array .byte)], some (.array .byte)⟩ := by decide +kernel
set_option maxRecDepth 65536 in
set_option maxHeartbeats 40000000 in
theorem tn0_w0 {p : Program} {l : Launch} {e : Env} {s : State} {m : MethodId} {args : Array Value} {below : List Frame} {meth : Method} {c : Code} {T0 : State} {locs : List Loc} {Z : State} {a0 : Array Value} {h0 : Heap} (s0 s1 s2 s3 s4 : Slot) (y1 y2 y3 y4 : Int32) (n0 : Nat)
    (X0 : Stand p l e room_1 s m args below meth c T0 locs 0 0) (hx : p.tables.exec = Jvm.exec) (hZ : Z.Warmed39 s.vm) (hw : ∀ d ∈ tables_1, d.before a0 Z = true) (hby : c.code = code) (hml : c.maxLocals = 12) (hown : s.vm.findClass "com/example/concordat/concordat/identity/MllpFramePinLaw" = some m.cls) (e0 : T0.heap = h0) (N0 : Fr n0 locs) (Z0 : n0 ≤ h0.size) :
    ∃ (T' : State) (L : List Loc) (b6 b7 : Addr), Stand p l e room_1 s m args below meth c T' L 2 11 ∧ Fr n0 L ∧
      ∀ target, Steps p.tables e below (T'.setTop (mkF m 216 #[s0, s1, s2, s3, s4, .val (.int (0 : Int32)), .val (.int (own_b y1)), .val (.int (own_b y2)), .val (.int (own_b y3)), .val (.int (own_b y4)), .val (.ref b6), .val (.ref b7)] [])) target → Steps p.tables e below (T0.setTop (mkF m 25 #[s0, s1, s2, s3, s4, .val (.int (0 : Int32)), .val (.int (own_b y1)), .val (.int (own_b y2)), .val (.int (own_b y3)), .val (.int (own_b y4)), .unset, .unset] [])) target := by
  obtain ⟨_, _, ⟨T6, L6, k6, n6⟩, -, X6, ⟨Lc6, hQ6, l6, y6, z6⟩, st6⟩ := Jvm.LawKit.callS X0 hx (y := (⟨"com/example/concordat/concordat/identity/MllpFramePinLaw", "make", "(IBBBB)[B"⟩ : MethodName)) hown (mvT hZ (hw _ (List.mem_of_getElem? (i := 0) rfl))) (mvT hZ (hw _ (List.mem_of_getElem? (i := 1) rfl))) (mvT hZ (hw _ (List.mem_of_getElem? (i := 2) rfl))) (mvT hZ (hw _ (List.mem_of_getElem? (i := 3) rfl))) (by decide) (backOf (W := 0) (rm1_0 l Z a0 hw [] (own_b y1) (own_b y2) (own_b y3) (own_b y4) h0 n0 Z0) hZ (hw _ (List.mem_of_getElem? (i := 3) rfl)) (hw _ (List.mem_of_getElem? (i := 2) rfl)) (by decide) (by decide)) (g := (mkF m 35 #[s0, s1, s2, s3, s4, .val (.int (0 : Int32)), .val (.int (own_b y1)), .val (.int (own_b y2)), .val (.int (own_b y3)), .val (.int (own_b y4)), .unset, .unset] [(.int (own_b y4)), (.int (own_b y3)), (.int (own_b y2)), (.int (own_b y1)), (.int (0 : Int32))])) rfl (by rw [hml]; rfl) (argsL := [(.int (0 : Int32)), (.int (own_b y1)), (.int (own_b y2)), (.int (own_b y3)), (.int (own_b y4))]) (rest := []) (lenOf pd_0_0 rfl) rfl (by show 2 * 0 + _ ≤ _; exact Nat.le_of_eq rfl) (hb hby at_35) (fun _ _ => ⟨rfl, e0, (by decide : 0 + 1 ≤ _), (by decide : 0 + 4 ≤ _)⟩)
  dsimp only [Pt.U, Pt.locs, Pt.cells, Pt.slots] at X6 l6 y6 z6 st6 hQ6
  subst l6 y6 z6
  obtain ⟨b6, ka6, rfl, N6q, K6, sz6, V6⟩ := hQ6
  have N6 := Fr.app N0 N6q
  obtain ⟨_, _, ⟨T7, L7, k7, n7⟩, -, X7, ⟨Lc7, hQ7, l7, y7, z7⟩, st7⟩ := Jvm.LawKit.callS X6 hx (y := (⟨"com/example/concordat/concordat/identity/Mllp", "frame", "([B)[B"⟩ : MethodName)) hown (mvT hZ (hw _ (List.mem_of_getElem? (i := 5) rfl))) (mvT hZ (hw _ (List.mem_of_getElem? (i := 6) rfl))) (mvT hZ (hw _ (List.mem_of_getElem? (i := 7) rfl))) (mvT hZ (hw _ (List.mem_of_getElem? (i := 8) rfl))) (by decide) (backOf (W := 0) (rm2_0 l Z a0 hw [] b6 ka6  T6.heap n0 (Nat.le_trans Z0 K6.1) V6) hZ (hw _ (List.mem_of_getElem? (i := 8) rfl)) (hw _ (List.mem_of_getElem? (i := 7) rfl)) (by decide) (by decide)) (g := (mkF m 42 #[s0, s1, s2, s3, s4, .val (.int (0 : Int32)), .val (.int (own_b y1)), .val (.int (own_b y2)), .val (.int (own_b y3)), .val (.int (own_b y4)), .val (.ref b6), .unset] [(.ref b6)])) rfl (by rw [hml]; rfl) (argsL := [(.ref b6)]) (rest := []) (lenOf pd_0_1 rfl) rfl (by show 2 * 0 + _ ≤ _; exact Nat.le_of_eq rfl) (hb hby at_42) (fun _ _ => ⟨rfl, rfl, (by decide : 1 + 1 ≤ _), (by decide : 4 + 7 ≤ _)⟩)
  dsimp only [Pt.U, Pt.locs, Pt.cells, Pt.slots] at X7 l7 y7 z7 st7 hQ7
  subst l7 y7 z7
  obtain ⟨b7, ka7, rfl, N7q, K7, V7⟩ := hQ7
  obtain ⟨cl6, Ar6, -, S6, -, H6, -⟩ := V6.keep K7 (by simp)
  obtain ⟨cl7, Ar7, -, S7, -, H7, -⟩ := V7
  have N7 := Fr.app N6 N7q
  obtain ⟨T8, X8, e8, st8⟩ := tn0_l0 s0 s1 s2 s3 s4 (0 : Int32) (.val (.int (own_b y1))) (.val (.int (own_b y2))) (.val (.int (own_b y3))) (.val (.int (own_b y4))) b6 b7 cl7 ((0 : Int32) + (3 : Int32)) (own_b (11 : Int32)) (own_b (28 : Int32)) (own_b (13 : Int32)) cl6 (0 : Int32) X7 hx hZ hw hby hml hown rfl Ar7 S7 (by decide) (inb_of S7 ⟨by decide, by decide⟩) (H7 0 (by rw [S7]; decide)) (inb_of S7 ⟨by decide, by decide⟩) (H7 1 (by rw [S7]; decide)) (inb_of S7 ⟨by decide, by decide⟩) (H7 2 (by rw [S7]; decide)) Ar6 S6 (by decide) (by decide) (by decide) (by decide) (by decide) (by decide) (by decide) (by decide) (by decide) (by decide)
  refine ⟨T8, _, b6, b7, X8, N7, fun target kt => ?_⟩
  show Steps p.tables e below (T0.setTop (mkF m 25 #[s0, s1, s2, s3, s4, .val (.int (0 : Int32)), .val (.int (own_b y1)), .val (.int (own_b y2)), .val (.int (own_b y3)), .val (.int (own_b y4)), .unset, .unset] [])) _
  refine XS.iload X0.here hx rfl (hb hby at_25) rfl ?_
  show Steps p.tables e below (T0.setTop (mkF m 27 #[s0, s1, s2, s3, s4, .val (.int (0 : Int32)), .val (.int (own_b y1)), .val (.int (own_b y2)), .val (.int (own_b y3)), .val (.int (own_b y4)), .unset, .unset] [(.int (0 : Int32))])) _
  refine XS.iload X0.here hx rfl (hb hby at_27) rfl ?_
  show Steps p.tables e below (T0.setTop (mkF m 29 #[s0, s1, s2, s3, s4, .val (.int (0 : Int32)), .val (.int (own_b y1)), .val (.int (own_b y2)), .val (.int (own_b y3)), .val (.int (own_b y4)), .unset, .unset] [(.int (own_b y1)), (.int (0 : Int32))])) _
  refine XS.iload X0.here hx rfl (hb hby at_29) rfl ?_
  show Steps p.tables e below (T0.setTop (mkF m 31 #[s0, s1, s2, s3, s4, .val (.int (0 : Int32)), .val (.int (own_b y1)), .val (.int (own_b y2)), .val (.int (own_b y3)), .val (.int (own_b y4)), .unset, .unset] [(.int (own_b y2)), (.int (own_b y1)), (.int (0 : Int32))])) _
  refine XS.iload X0.here hx rfl (hb hby at_31) rfl ?_
  show Steps p.tables e below (T0.setTop (mkF m 33 #[s0, s1, s2, s3, s4, .val (.int (0 : Int32)), .val (.int (own_b y1)), .val (.int (own_b y2)), .val (.int (own_b y3)), .val (.int (own_b y4)), .unset, .unset] [(.int (own_b y3)), (.int (own_b y2)), (.int (own_b y1)), (.int (0 : Int32))])) _
  refine XS.iload X0.here hx rfl (hb hby at_33) rfl ?_
  show Steps p.tables e below (T0.setTop (mkF m 35 #[s0, s1, s2, s3, s4, .val (.int (0 : Int32)), .val (.int (own_b y1)), .val (.int (own_b y2)), .val (.int (own_b y3)), .val (.int (own_b y4)), .unset, .unset] [(.int (own_b y4)), (.int (own_b y3)), (.int (own_b y2)), (.int (own_b y1)), (.int (0 : Int32))])) _
  refine st6 _ ?_
  show Steps p.tables e below (T6.setTop (mkF m 38 #[s0, s1, s2, s3, s4, .val (.int (0 : Int32)), .val (.int (own_b y1)), .val (.int (own_b y2)), .val (.int (own_b y3)), .val (.int (own_b y4)), .unset, .unset] [(.ref b6)])) _
  refine XS.astore X6.here hx rfl (hb hby at_38) rfl rfl (l' := #[s0, s1, s2, s3, s4, .val (.int (0 : Int32)), .val (.int (own_b y1)), .val (.int (own_b y2)), .val (.int (own_b y3)), .val (.int (own_b y4)), .val (.ref b6), .unset]) rfl ?_
  show Steps p.tables e below (T6.setTop (mkF m 40 #[s0, s1, s2, s3, s4, .val (.int (0 : Int32)), .val (.int (own_b y1)), .val (.int (own_b y2)), .val (.int (own_b y3)), .val (.int (own_b y4)), .val (.ref b6), .unset] [])) _
  refine XS.aload X6.here hx rfl (hb hby at_40) rfl rfl ?_
  show Steps p.tables e below (T6.setTop (mkF m 42 #[s0, s1, s2, s3, s4, .val (.int (0 : Int32)), .val (.int (own_b y1)), .val (.int (own_b y2)), .val (.int (own_b y3)), .val (.int (own_b y4)), .val (.ref b6), .unset] [(.ref b6)])) _
  refine st7 _ ?_
  show Steps p.tables e below (T7.setTop (mkF m 45 #[s0, s1, s2, s3, s4, .val (.int (0 : Int32)), .val (.int (own_b y1)), .val (.int (own_b y2)), .val (.int (own_b y3)), .val (.int (own_b y4)), .val (.ref b6), .unset] [(.ref b7)])) _
  refine XS.astore X7.here hx rfl (hb hby at_45) rfl rfl (l' := #[s0, s1, s2, s3, s4, .val (.int (0 : Int32)), .val (.int (own_b y1)), .val (.int (own_b y2)), .val (.int (own_b y3)), .val (.int (own_b y4)), .val (.ref b6), .val (.ref b7)]) rfl ?_
  exact st8 _ kt
set_option maxRecDepth 65536 in
set_option maxHeartbeats 40000000 in
theorem tn0_l1 {p : Program} {l : Launch} {e : Env} {R : Room} {s : State} {m : MethodId} {args : Array Value} {below : List Frame} {meth : Method} {c : Code} {T0 : State} {locs : List Loc} {cells slots : Nat} {Z : State} {a0 : Array Value} {h0 : Heap} (s0 : Slot) (s1 : Slot) (s2 : Slot) (s3 : Slot) (s4 : Slot) (i5 : Int32) (i6 : Int32) (s7 : Slot) (s8 : Slot) (s9 : Slot) (o10 : Addr) (o11 : Addr) (cl_o11 : Cell) (z_o11 : Int32) (w6 : Int32) (w7 : Int32) (w8 : Int32) (cl_o10 : Cell) (z_o10 : Int32) (w9 : Int32) (w10 : Int32)
    (X0 : Stand p l e R s m args below meth c T0 locs cells slots) (hx : p.tables.exec = Jvm.exec) (hZ : Z.Warmed39 s.vm) (hw : ∀ d ∈ tables_1, d.before a0 Z = true) (hby : c.code = code) (hml : c.maxLocals = 12) (hown : s.vm.findClass "com/example/concordat/concordat/identity/MllpFramePinLaw" = some m.cls) (e0 : T0.heap = h0) (Ar_o11 : Arr Z h0 o11 cl_o11 .byte) (S_o11 : cl_o11.slots.size = z_o11.toNatClampNeg) (N_o11 : ¬ z_o11 < 0) (hin67 : ¬ ((0 : Int32) < 0 ∨ cl_o11.slots.size ≤ ((0 : Int32)).toNatClampNeg)) (hat67 : cl_o11.slots[((0 : Int32)).toNatClampNeg]? = some (.int w6)) (hin81 : ¬ ((i5 + (1 : Int32)) < 0 ∨ cl_o11.slots.size ≤ ((i5 + (1 : Int32))).toNatClampNeg)) (hat81 : cl_o11.slots[((i5 + (1 : Int32))).toNatClampNeg]? = some (.int w7)) (hin95 : ¬ ((i5 + (2 : Int32)) < 0 ∨ cl_o11.slots.size ≤ ((i5 + (2 : Int32))).toNatClampNeg)) (hat95 : cl_o11.slots[((i5 + (2 : Int32))).toNatClampNeg]? = some (.int w8)) (Ar_o10 : Arr Z h0 o10 cl_o10 .byte) (S_o10 : cl_o10.slots.size = z_o10.toNatClampNeg) (N_o10 : ¬ z_o10 < 0) (hin121 : ¬ ((1 : Int32) < 0 ∨ cl_o11.slots.size ≤ ((1 : Int32)).toNatClampNeg)) (hat121 : cl_o11.slots[((1 : Int32)).toNatClampNeg]? = some (.int w9)) (hin130 : ¬ ((0 : Int32) < 0 ∨ cl_o10.slots.size ≤ ((0 : Int32)).toNatClampNeg)) (hat130 : cl_o10.slots[((0 : Int32)).toNatClampNeg]? = some (.int w10)) (hc59 : z_o11 = (i5 + (3 : Int32))) (hc70 : w6 = (11 : Int32)) (hc84 : w7 = (28 : Int32)) (hc98 : w8 = (13 : Int32)) (hc108 : z_o10 = i5) (hc115 : (0 : Int32) < i5) (hc124 : w9 = i6) (hc133 : w10 = i6) (hc141 : ¬ ((1 : Int32) < i5)) (hc167 : ¬ ((2 : Int32) < i5)) (hc193 : ¬ ((3 : Int32) < i5)) :
    ∃ (T' : State), Stand p l e R s m args below meth c T' locs cells slots ∧ T'.heap = h0 ∧
      ∀ target, Steps p.tables e below (T'.setTop (mkF m 216 #[s0, s1, s2, s3, s4, .val (.int i5), .val (.int i6), s7, s8, s9, .val (.ref o10), .val (.ref o11)] [])) target → Steps p.tables e below (T0.setTop (mkF m 47 #[s0, s1, s2, s3, s4, .val (.int i5), .val (.int i6), s7, s8, s9, .val (.ref o10), .val (.ref o11)] [])) target := by
  refine ⟨T0, X0, e0, fun target kt => ?_⟩
  show Steps p.tables e below (T0.setTop (mkF m 47 #[s0, s1, s2, s3, s4, .val (.int i5), .val (.int i6), s7, s8, s9, .val (.ref o10), .val (.ref o11)] [])) _
  refine XS.aload X0.here hx rfl (hb hby at_47) rfl rfl ?_
  show Steps p.tables e below (T0.setTop (mkF m 49 #[s0, s1, s2, s3, s4, .val (.int i5), .val (.int i6), s7, s8, s9, .val (.ref o10), .val (.ref o11)] [(.ref o11)])) _
  refine XS.ifnullNo X0.here hx rfl (hb hby at_49) rfl ?_
  show Steps p.tables e below (T0.setTop (mkF m 52 #[s0, s1, s2, s3, s4, .val (.int i5), .val (.int i6), s7, s8, s9, .val (.ref o10), .val (.ref o11)] [])) _
  refine XS.aload X0.here hx rfl (hb hby at_52) rfl rfl ?_
  show Steps p.tables e below (T0.setTop (mkF m 54 #[s0, s1, s2, s3, s4, .val (.int i5), .val (.int i6), s7, s8, s9, .val (.ref o10), .val (.ref o11)] [(.ref o11)])) _
  refine X0.arraylength hx (cell := cl_o11) (by rw [e0]; exact Ar_o11.1) (State.isArrayOf_alike hZ.alike Ar_o11.2.1) (g := (mkF m 54 #[s0, s1, s2, s3, s4, .val (.int i5), .val (.int i6), s7, s8, s9, .val (.ref o10), .val (.ref o11)] [(.ref o11)])) rfl rfl (hb hby at_54) _ ?_
  rw [len_of S_o11 N_o11]
  show Steps p.tables e below (T0.setTop (mkF m 55 #[s0, s1, s2, s3, s4, .val (.int i5), .val (.int i6), s7, s8, s9, .val (.ref o10), .val (.ref o11)] [(.int z_o11)])) _
  refine XS.iload X0.here hx rfl (hb hby at_55) rfl ?_
  show Steps p.tables e below (T0.setTop (mkF m 57 #[s0, s1, s2, s3, s4, .val (.int i5), .val (.int i6), s7, s8, s9, .val (.ref o10), .val (.ref o11)] [(.int i5), (.int z_o11)])) _
  refine XS.iconst X0.here hx rfl (hb hby at_57) ?_
  show Steps p.tables e below (T0.setTop (mkF m 58 #[s0, s1, s2, s3, s4, .val (.int i5), .val (.int i6), s7, s8, s9, .val (.ref o10), .val (.ref o11)] [(.int (3 : Int32)), (.int i5), (.int z_o11)])) _
  refine XS.iadd X0.here hx rfl (hb hby at_58) rfl ?_
  show Steps p.tables e below (T0.setTop (mkF m 59 #[s0, s1, s2, s3, s4, .val (.int i5), .val (.int i6), s7, s8, s9, .val (.ref o10), .val (.ref o11)] [(.int (i5 + (3 : Int32))), (.int z_o11)])) _
  refine XS.icmpYes X0.here hx rfl (pc0 := 59) (pc' := 64) rfl (hb hby at_59) rfl (teq hc59).1 (by decide) (by decide) ?_
  show Steps p.tables e below (T0.setTop (mkF m 64 #[s0, s1, s2, s3, s4, .val (.int i5), .val (.int i6), s7, s8, s9, .val (.ref o10), .val (.ref o11)] [])) _
  refine XS.aload X0.here hx rfl (hb hby at_64) rfl rfl ?_
  show Steps p.tables e below (T0.setTop (mkF m 66 #[s0, s1, s2, s3, s4, .val (.int i5), .val (.int i6), s7, s8, s9, .val (.ref o10), .val (.ref o11)] [(.ref o11)])) _
  refine XS.iconst X0.here hx rfl (hb hby at_66) ?_
  show Steps p.tables e below (T0.setTop (mkF m 67 #[s0, s1, s2, s3, s4, .val (.int i5), .val (.int i6), s7, s8, s9, .val (.ref o10), .val (.ref o11)] [(.int (0 : Int32)), (.ref o11)])) _
  refine X0.baloadBytes hx (j := (0 : Int32)) (v := (.int w6)) (by rw [e0]; exact Ar_o11.1) (State.isArrayOf_alike hZ.alike Ar_o11.2.1) Ar_o11.2.2 hin67 hat67 (g := (mkF m 67 #[s0, s1, s2, s3, s4, .val (.int i5), .val (.int i6), s7, s8, s9, .val (.ref o10), .val (.ref o11)] [(.int (0 : Int32)), (.ref o11)])) rfl rfl (hb hby at_67) _ ?_
  show Steps p.tables e below (T0.setTop (mkF m 68 #[s0, s1, s2, s3, s4, .val (.int i5), .val (.int i6), s7, s8, s9, .val (.ref o10), .val (.ref o11)] [(.int w6)])) _
  refine XS.bipush X0.here hx rfl (hb hby at_68) ?_
  show Steps p.tables e below (T0.setTop (mkF m 70 #[s0, s1, s2, s3, s4, .val (.int i5), .val (.int i6), s7, s8, s9, .val (.ref o10), .val (.ref o11)] [(.int (11 : Int32)), (.int w6)])) _
  refine XS.icmpYes X0.here hx rfl (pc0 := 70) (pc' := 75) rfl (hb hby at_70) rfl (teq hc70).1 (by decide) (by decide) ?_
  show Steps p.tables e below (T0.setTop (mkF m 75 #[s0, s1, s2, s3, s4, .val (.int i5), .val (.int i6), s7, s8, s9, .val (.ref o10), .val (.ref o11)] [])) _
  refine XS.aload X0.here hx rfl (hb hby at_75) rfl rfl ?_
  show Steps p.tables e below (T0.setTop (mkF m 77 #[s0, s1, s2, s3, s4, .val (.int i5), .val (.int i6), s7, s8, s9, .val (.ref o10), .val (.ref o11)] [(.ref o11)])) _
  refine XS.iload X0.here hx rfl (hb hby at_77) rfl ?_
  show Steps p.tables e below (T0.setTop (mkF m 79 #[s0, s1, s2, s3, s4, .val (.int i5), .val (.int i6), s7, s8, s9, .val (.ref o10), .val (.ref o11)] [(.int i5), (.ref o11)])) _
  refine XS.iconst X0.here hx rfl (hb hby at_79) ?_
  show Steps p.tables e below (T0.setTop (mkF m 80 #[s0, s1, s2, s3, s4, .val (.int i5), .val (.int i6), s7, s8, s9, .val (.ref o10), .val (.ref o11)] [(.int (1 : Int32)), (.int i5), (.ref o11)])) _
  refine XS.iadd X0.here hx rfl (hb hby at_80) rfl ?_
  show Steps p.tables e below (T0.setTop (mkF m 81 #[s0, s1, s2, s3, s4, .val (.int i5), .val (.int i6), s7, s8, s9, .val (.ref o10), .val (.ref o11)] [(.int (i5 + (1 : Int32))), (.ref o11)])) _
  refine X0.baloadBytes hx (j := (i5 + (1 : Int32))) (v := (.int w7)) (by rw [e0]; exact Ar_o11.1) (State.isArrayOf_alike hZ.alike Ar_o11.2.1) Ar_o11.2.2 hin81 hat81 (g := (mkF m 81 #[s0, s1, s2, s3, s4, .val (.int i5), .val (.int i6), s7, s8, s9, .val (.ref o10), .val (.ref o11)] [(.int (i5 + (1 : Int32))), (.ref o11)])) rfl rfl (hb hby at_81) _ ?_
  show Steps p.tables e below (T0.setTop (mkF m 82 #[s0, s1, s2, s3, s4, .val (.int i5), .val (.int i6), s7, s8, s9, .val (.ref o10), .val (.ref o11)] [(.int w7)])) _
  refine XS.bipush X0.here hx rfl (hb hby at_82) ?_
  show Steps p.tables e below (T0.setTop (mkF m 84 #[s0, s1, s2, s3, s4, .val (.int i5), .val (.int i6), s7, s8, s9, .val (.ref o10), .val (.ref o11)] [(.int (28 : Int32)), (.int w7)])) _
  refine XS.icmpYes X0.here hx rfl (pc0 := 84) (pc' := 89) rfl (hb hby at_84) rfl (teq hc84).1 (by decide) (by decide) ?_
  show Steps p.tables e below (T0.setTop (mkF m 89 #[s0, s1, s2, s3, s4, .val (.int i5), .val (.int i6), s7, s8, s9, .val (.ref o10), .val (.ref o11)] [])) _
  refine XS.aload X0.here hx rfl (hb hby at_89) rfl rfl ?_
  show Steps p.tables e below (T0.setTop (mkF m 91 #[s0, s1, s2, s3, s4, .val (.int i5), .val (.int i6), s7, s8, s9, .val (.ref o10), .val (.ref o11)] [(.ref o11)])) _
  refine XS.iload X0.here hx rfl (hb hby at_91) rfl ?_
  show Steps p.tables e below (T0.setTop (mkF m 93 #[s0, s1, s2, s3, s4, .val (.int i5), .val (.int i6), s7, s8, s9, .val (.ref o10), .val (.ref o11)] [(.int i5), (.ref o11)])) _
  refine XS.iconst X0.here hx rfl (hb hby at_93) ?_
  show Steps p.tables e below (T0.setTop (mkF m 94 #[s0, s1, s2, s3, s4, .val (.int i5), .val (.int i6), s7, s8, s9, .val (.ref o10), .val (.ref o11)] [(.int (2 : Int32)), (.int i5), (.ref o11)])) _
  refine XS.iadd X0.here hx rfl (hb hby at_94) rfl ?_
  show Steps p.tables e below (T0.setTop (mkF m 95 #[s0, s1, s2, s3, s4, .val (.int i5), .val (.int i6), s7, s8, s9, .val (.ref o10), .val (.ref o11)] [(.int (i5 + (2 : Int32))), (.ref o11)])) _
  refine X0.baloadBytes hx (j := (i5 + (2 : Int32))) (v := (.int w8)) (by rw [e0]; exact Ar_o11.1) (State.isArrayOf_alike hZ.alike Ar_o11.2.1) Ar_o11.2.2 hin95 hat95 (g := (mkF m 95 #[s0, s1, s2, s3, s4, .val (.int i5), .val (.int i6), s7, s8, s9, .val (.ref o10), .val (.ref o11)] [(.int (i5 + (2 : Int32))), (.ref o11)])) rfl rfl (hb hby at_95) _ ?_
  show Steps p.tables e below (T0.setTop (mkF m 96 #[s0, s1, s2, s3, s4, .val (.int i5), .val (.int i6), s7, s8, s9, .val (.ref o10), .val (.ref o11)] [(.int w8)])) _
  refine XS.bipush X0.here hx rfl (hb hby at_96) ?_
  show Steps p.tables e below (T0.setTop (mkF m 98 #[s0, s1, s2, s3, s4, .val (.int i5), .val (.int i6), s7, s8, s9, .val (.ref o10), .val (.ref o11)] [(.int (13 : Int32)), (.int w8)])) _
  refine XS.icmpYes X0.here hx rfl (pc0 := 98) (pc' := 103) rfl (hb hby at_98) rfl (teq hc98).1 (by decide) (by decide) ?_
  show Steps p.tables e below (T0.setTop (mkF m 103 #[s0, s1, s2, s3, s4, .val (.int i5), .val (.int i6), s7, s8, s9, .val (.ref o10), .val (.ref o11)] [])) _
  refine XS.aload X0.here hx rfl (hb hby at_103) rfl rfl ?_
  show Steps p.tables e below (T0.setTop (mkF m 105 #[s0, s1, s2, s3, s4, .val (.int i5), .val (.int i6), s7, s8, s9, .val (.ref o10), .val (.ref o11)] [(.ref o10)])) _
  refine X0.arraylength hx (cell := cl_o10) (by rw [e0]; exact Ar_o10.1) (State.isArrayOf_alike hZ.alike Ar_o10.2.1) (g := (mkF m 105 #[s0, s1, s2, s3, s4, .val (.int i5), .val (.int i6), s7, s8, s9, .val (.ref o10), .val (.ref o11)] [(.ref o10)])) rfl rfl (hb hby at_105) _ ?_
  rw [len_of S_o10 N_o10]
  show Steps p.tables e below (T0.setTop (mkF m 106 #[s0, s1, s2, s3, s4, .val (.int i5), .val (.int i6), s7, s8, s9, .val (.ref o10), .val (.ref o11)] [(.int z_o10)])) _
  refine XS.iload X0.here hx rfl (hb hby at_106) rfl ?_
  show Steps p.tables e below (T0.setTop (mkF m 108 #[s0, s1, s2, s3, s4, .val (.int i5), .val (.int i6), s7, s8, s9, .val (.ref o10), .val (.ref o11)] [(.int i5), (.int z_o10)])) _
  refine XS.icmpYes X0.here hx rfl (pc0 := 108) (pc' := 113) rfl (hb hby at_108) rfl (teq hc108).1 (by decide) (by decide) ?_
  show Steps p.tables e below (T0.setTop (mkF m 113 #[s0, s1, s2, s3, s4, .val (.int i5), .val (.int i6), s7, s8, s9, .val (.ref o10), .val (.ref o11)] [])) _
  refine XS.iload X0.here hx rfl (hb hby at_113) rfl ?_
  show Steps p.tables e below (T0.setTop (mkF m 115 #[s0, s1, s2, s3, s4, .val (.int i5), .val (.int i6), s7, s8, s9, .val (.ref o10), .val (.ref o11)] [(.int i5)])) _
  refine XS.ifNo X0.here hx rfl (hb hby at_115) rfl ((if0 _ _).trans (tlt hc115).2.2.2) ?_
  show Steps p.tables e below (T0.setTop (mkF m 118 #[s0, s1, s2, s3, s4, .val (.int i5), .val (.int i6), s7, s8, s9, .val (.ref o10), .val (.ref o11)] [])) _
  refine XS.aload X0.here hx rfl (hb hby at_118) rfl rfl ?_
  show Steps p.tables e below (T0.setTop (mkF m 120 #[s0, s1, s2, s3, s4, .val (.int i5), .val (.int i6), s7, s8, s9, .val (.ref o10), .val (.ref o11)] [(.ref o11)])) _
  refine XS.iconst X0.here hx rfl (hb hby at_120) ?_
  show Steps p.tables e below (T0.setTop (mkF m 121 #[s0, s1, s2, s3, s4, .val (.int i5), .val (.int i6), s7, s8, s9, .val (.ref o10), .val (.ref o11)] [(.int (1 : Int32)), (.ref o11)])) _
  refine X0.baloadBytes hx (j := (1 : Int32)) (v := (.int w9)) (by rw [e0]; exact Ar_o11.1) (State.isArrayOf_alike hZ.alike Ar_o11.2.1) Ar_o11.2.2 hin121 hat121 (g := (mkF m 121 #[s0, s1, s2, s3, s4, .val (.int i5), .val (.int i6), s7, s8, s9, .val (.ref o10), .val (.ref o11)] [(.int (1 : Int32)), (.ref o11)])) rfl rfl (hb hby at_121) _ ?_
  show Steps p.tables e below (T0.setTop (mkF m 122 #[s0, s1, s2, s3, s4, .val (.int i5), .val (.int i6), s7, s8, s9, .val (.ref o10), .val (.ref o11)] [(.int w9)])) _
  refine XS.iload X0.here hx rfl (hb hby at_122) rfl ?_
  show Steps p.tables e below (T0.setTop (mkF m 124 #[s0, s1, s2, s3, s4, .val (.int i5), .val (.int i6), s7, s8, s9, .val (.ref o10), .val (.ref o11)] [(.int i6), (.int w9)])) _
  refine XS.icmpNo X0.here hx rfl (hb hby at_124) rfl (teq hc124).2 ?_
  show Steps p.tables e below (T0.setTop (mkF m 127 #[s0, s1, s2, s3, s4, .val (.int i5), .val (.int i6), s7, s8, s9, .val (.ref o10), .val (.ref o11)] [])) _
  refine XS.aload X0.here hx rfl (hb hby at_127) rfl rfl ?_
  show Steps p.tables e below (T0.setTop (mkF m 129 #[s0, s1, s2, s3, s4, .val (.int i5), .val (.int i6), s7, s8, s9, .val (.ref o10), .val (.ref o11)] [(.ref o10)])) _
  refine XS.iconst X0.here hx rfl (hb hby at_129) ?_
  show Steps p.tables e below (T0.setTop (mkF m 130 #[s0, s1, s2, s3, s4, .val (.int i5), .val (.int i6), s7, s8, s9, .val (.ref o10), .val (.ref o11)] [(.int (0 : Int32)), (.ref o10)])) _
  refine X0.baloadBytes hx (j := (0 : Int32)) (v := (.int w10)) (by rw [e0]; exact Ar_o10.1) (State.isArrayOf_alike hZ.alike Ar_o10.2.1) Ar_o10.2.2 hin130 hat130 (g := (mkF m 130 #[s0, s1, s2, s3, s4, .val (.int i5), .val (.int i6), s7, s8, s9, .val (.ref o10), .val (.ref o11)] [(.int (0 : Int32)), (.ref o10)])) rfl rfl (hb hby at_130) _ ?_
  show Steps p.tables e below (T0.setTop (mkF m 131 #[s0, s1, s2, s3, s4, .val (.int i5), .val (.int i6), s7, s8, s9, .val (.ref o10), .val (.ref o11)] [(.int w10)])) _
  refine XS.iload X0.here hx rfl (hb hby at_131) rfl ?_
  show Steps p.tables e below (T0.setTop (mkF m 133 #[s0, s1, s2, s3, s4, .val (.int i5), .val (.int i6), s7, s8, s9, .val (.ref o10), .val (.ref o11)] [(.int i6), (.int w10)])) _
  refine XS.icmpYes X0.here hx rfl (pc0 := 133) (pc' := 138) rfl (hb hby at_133) rfl (teq hc133).1 (by decide) (by decide) ?_
  show Steps p.tables e below (T0.setTop (mkF m 138 #[s0, s1, s2, s3, s4, .val (.int i5), .val (.int i6), s7, s8, s9, .val (.ref o10), .val (.ref o11)] [])) _
  refine XS.iload X0.here hx rfl (hb hby at_138) rfl ?_
  show Steps p.tables e below (T0.setTop (mkF m 140 #[s0, s1, s2, s3, s4, .val (.int i5), .val (.int i6), s7, s8, s9, .val (.ref o10), .val (.ref o11)] [(.int i5)])) _
  refine XS.iconst X0.here hx rfl (hb hby at_140) ?_
  show Steps p.tables e below (T0.setTop (mkF m 141 #[s0, s1, s2, s3, s4, .val (.int i5), .val (.int i6), s7, s8, s9, .val (.ref o10), .val (.ref o11)] [(.int (1 : Int32)), (.int i5)])) _
  refine XS.icmpYes X0.here hx rfl (pc0 := 141) (pc' := 164) rfl (hb hby at_141) rfl (flt hc141).2.2.2 (by decide) (by decide) ?_
  show Steps p.tables e below (T0.setTop (mkF m 164 #[s0, s1, s2, s3, s4, .val (.int i5), .val (.int i6), s7, s8, s9, .val (.ref o10), .val (.ref o11)] [])) _
  refine XS.iload X0.here hx rfl (hb hby at_164) rfl ?_
  show Steps p.tables e below (T0.setTop (mkF m 166 #[s0, s1, s2, s3, s4, .val (.int i5), .val (.int i6), s7, s8, s9, .val (.ref o10), .val (.ref o11)] [(.int i5)])) _
  refine XS.iconst X0.here hx rfl (hb hby at_166) ?_
  show Steps p.tables e below (T0.setTop (mkF m 167 #[s0, s1, s2, s3, s4, .val (.int i5), .val (.int i6), s7, s8, s9, .val (.ref o10), .val (.ref o11)] [(.int (2 : Int32)), (.int i5)])) _
  refine XS.icmpYes X0.here hx rfl (pc0 := 167) (pc' := 190) rfl (hb hby at_167) rfl (flt hc167).2.2.2 (by decide) (by decide) ?_
  show Steps p.tables e below (T0.setTop (mkF m 190 #[s0, s1, s2, s3, s4, .val (.int i5), .val (.int i6), s7, s8, s9, .val (.ref o10), .val (.ref o11)] [])) _
  refine XS.iload X0.here hx rfl (hb hby at_190) rfl ?_
  show Steps p.tables e below (T0.setTop (mkF m 192 #[s0, s1, s2, s3, s4, .val (.int i5), .val (.int i6), s7, s8, s9, .val (.ref o10), .val (.ref o11)] [(.int i5)])) _
  refine XS.iconst X0.here hx rfl (hb hby at_192) ?_
  show Steps p.tables e below (T0.setTop (mkF m 193 #[s0, s1, s2, s3, s4, .val (.int i5), .val (.int i6), s7, s8, s9, .val (.ref o10), .val (.ref o11)] [(.int (3 : Int32)), (.int i5)])) _
  refine XS.icmpYes X0.here hx rfl (pc0 := 193) (pc' := 216) rfl (hb hby at_193) rfl (flt hc193).2.2.2 (by decide) (by decide) ?_
  exact kt
set_option maxRecDepth 65536 in
set_option maxHeartbeats 40000000 in
theorem tn0_w1 {p : Program} {l : Launch} {e : Env} {s : State} {m : MethodId} {args : Array Value} {below : List Frame} {meth : Method} {c : Code} {T0 : State} {locs : List Loc} {Z : State} {a0 : Array Value} {h0 : Heap} (s0 s1 s2 s3 s4 : Slot) (y1 y2 y3 y4 : Int32) (n0 : Nat)
    (X0 : Stand p l e room_1 s m args below meth c T0 locs 0 0) (hx : p.tables.exec = Jvm.exec) (hZ : Z.Warmed39 s.vm) (hw : ∀ d ∈ tables_1, d.before a0 Z = true) (hby : c.code = code) (hml : c.maxLocals = 12) (hown : s.vm.findClass "com/example/concordat/concordat/identity/MllpFramePinLaw" = some m.cls) (e0 : T0.heap = h0) (N0 : Fr n0 locs) (Z0 : n0 ≤ h0.size) :
    ∃ (T' : State) (L : List Loc) (b6 b7 : Addr), Stand p l e room_1 s m args below meth c T' L 2 11 ∧ Fr n0 L ∧
      ∀ target, Steps p.tables e below (T'.setTop (mkF m 216 #[s0, s1, s2, s3, s4, .val (.int (1 : Int32)), .val (.int (own_b y1)), .val (.int (own_b y2)), .val (.int (own_b y3)), .val (.int (own_b y4)), .val (.ref b6), .val (.ref b7)] [])) target → Steps p.tables e below (T0.setTop (mkF m 25 #[s0, s1, s2, s3, s4, .val (.int (1 : Int32)), .val (.int (own_b y1)), .val (.int (own_b y2)), .val (.int (own_b y3)), .val (.int (own_b y4)), .unset, .unset] [])) target := by
  obtain ⟨_, _, ⟨T6, L6, k6, n6⟩, -, X6, ⟨Lc6, hQ6, l6, y6, z6⟩, st6⟩ := Jvm.LawKit.callS X0 hx (y := (⟨"com/example/concordat/concordat/identity/MllpFramePinLaw", "make", "(IBBBB)[B"⟩ : MethodName)) hown (mvT hZ (hw _ (List.mem_of_getElem? (i := 0) rfl))) (mvT hZ (hw _ (List.mem_of_getElem? (i := 1) rfl))) (mvT hZ (hw _ (List.mem_of_getElem? (i := 2) rfl))) (mvT hZ (hw _ (List.mem_of_getElem? (i := 3) rfl))) (by decide) (backOf (W := 0) (rm1_1 l Z a0 hw [] (own_b y1) (own_b y2) (own_b y3) (own_b y4) h0 n0 Z0) hZ (hw _ (List.mem_of_getElem? (i := 3) rfl)) (hw _ (List.mem_of_getElem? (i := 2) rfl)) (by decide) (by decide)) (g := (mkF m 35 #[s0, s1, s2, s3, s4, .val (.int (1 : Int32)), .val (.int (own_b y1)), .val (.int (own_b y2)), .val (.int (own_b y3)), .val (.int (own_b y4)), .unset, .unset] [(.int (own_b y4)), (.int (own_b y3)), (.int (own_b y2)), (.int (own_b y1)), (.int (1 : Int32))])) rfl (by rw [hml]; rfl) (argsL := [(.int (1 : Int32)), (.int (own_b y1)), (.int (own_b y2)), (.int (own_b y3)), (.int (own_b y4))]) (rest := []) (lenOf pd_0_0 rfl) rfl (by show 2 * 0 + _ ≤ _; exact Nat.le_of_eq rfl) (hb hby at_35) (fun _ _ => ⟨rfl, e0, (by decide : 0 + 1 ≤ _), (by decide : 0 + 4 ≤ _)⟩)
  dsimp only [Pt.U, Pt.locs, Pt.cells, Pt.slots] at X6 l6 y6 z6 st6 hQ6
  subst l6 y6 z6
  obtain ⟨b6, ka6, rfl, N6q, K6, sz6, V6⟩ := hQ6
  have N6 := Fr.app N0 N6q
  obtain ⟨_, _, ⟨T7, L7, k7, n7⟩, -, X7, ⟨Lc7, hQ7, l7, y7, z7⟩, st7⟩ := Jvm.LawKit.callS X6 hx (y := (⟨"com/example/concordat/concordat/identity/Mllp", "frame", "([B)[B"⟩ : MethodName)) hown (mvT hZ (hw _ (List.mem_of_getElem? (i := 5) rfl))) (mvT hZ (hw _ (List.mem_of_getElem? (i := 6) rfl))) (mvT hZ (hw _ (List.mem_of_getElem? (i := 7) rfl))) (mvT hZ (hw _ (List.mem_of_getElem? (i := 8) rfl))) (by decide) (backOf (W := 0) (rm2_1 l Z a0 hw [] b6 ka6 (.int (own_b (own_b y1))) T6.heap n0 (Nat.le_trans Z0 K6.1) V6) hZ (hw _ (List.mem_of_getElem? (i := 8) rfl)) (hw _ (List.mem_of_getElem? (i := 7) rfl)) (by decide) (by decide)) (g := (mkF m 42 #[s0, s1, s2, s3, s4, .val (.int (1 : Int32)), .val (.int (own_b y1)), .val (.int (own_b y2)), .val (.int (own_b y3)), .val (.int (own_b y4)), .val (.ref b6), .unset] [(.ref b6)])) rfl (by rw [hml]; rfl) (argsL := [(.ref b6)]) (rest := []) (lenOf pd_0_1 rfl) rfl (by show 2 * 0 + _ ≤ _; exact Nat.le_of_eq rfl) (hb hby at_42) (fun _ _ => ⟨rfl, rfl, (by decide : 1 + 1 ≤ _), (by decide : 4 + 7 ≤ _)⟩)
  dsimp only [Pt.U, Pt.locs, Pt.cells, Pt.slots] at X7 l7 y7 z7 st7 hQ7
  subst l7 y7 z7
  obtain ⟨b7, ka7, rfl, N7q, K7, V7⟩ := hQ7
  obtain ⟨cl6, Ar6, -, S6, -, H6, -⟩ := V6.keep K7 (by simp)
  obtain ⟨cl7, Ar7, -, S7, -, H7, -⟩ := V7
  have N7 := Fr.app N6 N7q
  obtain ⟨T8, X8, e8, st8⟩ := tn0_l1 s0 s1 s2 s3 s4 (1 : Int32) (own_b y1) (.val (.int (own_b y2))) (.val (.int (own_b y3))) (.val (.int (own_b y4))) b6 b7 cl7 ((1 : Int32) + (3 : Int32)) (own_b (11 : Int32)) (own_b (28 : Int32)) (own_b (13 : Int32)) cl6 (1 : Int32) (own_b (own_b y1)) (own_b (own_b y1)) X7 hx hZ hw hby hml hown rfl Ar7 S7 (by decide) (inb_of S7 ⟨by decide, by decide⟩) (H7 0 (by rw [S7]; decide)) (inb_of S7 ⟨by decide, by decide⟩) (H7 2 (by rw [S7]; decide)) (inb_of S7 ⟨by decide, by decide⟩) (H7 3 (by rw [S7]; decide)) Ar6 S6 (by decide) (inb_of S7 ⟨by decide, by decide⟩) (H7 1 (by rw [S7]; decide)) (inb_of S6 ⟨by decide, by decide⟩) (H6 0 (by rw [S6]; decide)) (by decide) (by decide) (by decide) (by decide) (by decide) (by decide) (own_bb _) (own_bb _) (by decide) (by decide) (by decide)
  refine ⟨T8, _, b6, b7, X8, N7, fun target kt => ?_⟩
  show Steps p.tables e below (T0.setTop (mkF m 25 #[s0, s1, s2, s3, s4, .val (.int (1 : Int32)), .val (.int (own_b y1)), .val (.int (own_b y2)), .val (.int (own_b y3)), .val (.int (own_b y4)), .unset, .unset] [])) _
  refine XS.iload X0.here hx rfl (hb hby at_25) rfl ?_
  show Steps p.tables e below (T0.setTop (mkF m 27 #[s0, s1, s2, s3, s4, .val (.int (1 : Int32)), .val (.int (own_b y1)), .val (.int (own_b y2)), .val (.int (own_b y3)), .val (.int (own_b y4)), .unset, .unset] [(.int (1 : Int32))])) _
  refine XS.iload X0.here hx rfl (hb hby at_27) rfl ?_
  show Steps p.tables e below (T0.setTop (mkF m 29 #[s0, s1, s2, s3, s4, .val (.int (1 : Int32)), .val (.int (own_b y1)), .val (.int (own_b y2)), .val (.int (own_b y3)), .val (.int (own_b y4)), .unset, .unset] [(.int (own_b y1)), (.int (1 : Int32))])) _
  refine XS.iload X0.here hx rfl (hb hby at_29) rfl ?_
  show Steps p.tables e below (T0.setTop (mkF m 31 #[s0, s1, s2, s3, s4, .val (.int (1 : Int32)), .val (.int (own_b y1)), .val (.int (own_b y2)), .val (.int (own_b y3)), .val (.int (own_b y4)), .unset, .unset] [(.int (own_b y2)), (.int (own_b y1)), (.int (1 : Int32))])) _
  refine XS.iload X0.here hx rfl (hb hby at_31) rfl ?_
  show Steps p.tables e below (T0.setTop (mkF m 33 #[s0, s1, s2, s3, s4, .val (.int (1 : Int32)), .val (.int (own_b y1)), .val (.int (own_b y2)), .val (.int (own_b y3)), .val (.int (own_b y4)), .unset, .unset] [(.int (own_b y3)), (.int (own_b y2)), (.int (own_b y1)), (.int (1 : Int32))])) _
  refine XS.iload X0.here hx rfl (hb hby at_33) rfl ?_
  show Steps p.tables e below (T0.setTop (mkF m 35 #[s0, s1, s2, s3, s4, .val (.int (1 : Int32)), .val (.int (own_b y1)), .val (.int (own_b y2)), .val (.int (own_b y3)), .val (.int (own_b y4)), .unset, .unset] [(.int (own_b y4)), (.int (own_b y3)), (.int (own_b y2)), (.int (own_b y1)), (.int (1 : Int32))])) _
  refine st6 _ ?_
  show Steps p.tables e below (T6.setTop (mkF m 38 #[s0, s1, s2, s3, s4, .val (.int (1 : Int32)), .val (.int (own_b y1)), .val (.int (own_b y2)), .val (.int (own_b y3)), .val (.int (own_b y4)), .unset, .unset] [(.ref b6)])) _
  refine XS.astore X6.here hx rfl (hb hby at_38) rfl rfl (l' := #[s0, s1, s2, s3, s4, .val (.int (1 : Int32)), .val (.int (own_b y1)), .val (.int (own_b y2)), .val (.int (own_b y3)), .val (.int (own_b y4)), .val (.ref b6), .unset]) rfl ?_
  show Steps p.tables e below (T6.setTop (mkF m 40 #[s0, s1, s2, s3, s4, .val (.int (1 : Int32)), .val (.int (own_b y1)), .val (.int (own_b y2)), .val (.int (own_b y3)), .val (.int (own_b y4)), .val (.ref b6), .unset] [])) _
  refine XS.aload X6.here hx rfl (hb hby at_40) rfl rfl ?_
  show Steps p.tables e below (T6.setTop (mkF m 42 #[s0, s1, s2, s3, s4, .val (.int (1 : Int32)), .val (.int (own_b y1)), .val (.int (own_b y2)), .val (.int (own_b y3)), .val (.int (own_b y4)), .val (.ref b6), .unset] [(.ref b6)])) _
  refine st7 _ ?_
  show Steps p.tables e below (T7.setTop (mkF m 45 #[s0, s1, s2, s3, s4, .val (.int (1 : Int32)), .val (.int (own_b y1)), .val (.int (own_b y2)), .val (.int (own_b y3)), .val (.int (own_b y4)), .val (.ref b6), .unset] [(.ref b7)])) _
  refine XS.astore X7.here hx rfl (hb hby at_45) rfl rfl (l' := #[s0, s1, s2, s3, s4, .val (.int (1 : Int32)), .val (.int (own_b y1)), .val (.int (own_b y2)), .val (.int (own_b y3)), .val (.int (own_b y4)), .val (.ref b6), .val (.ref b7)]) rfl ?_
  exact st8 _ kt
set_option maxRecDepth 65536 in
set_option maxHeartbeats 40000000 in
theorem tn0_l2 {p : Program} {l : Launch} {e : Env} {R : Room} {s : State} {m : MethodId} {args : Array Value} {below : List Frame} {meth : Method} {c : Code} {T0 : State} {locs : List Loc} {cells slots : Nat} {Z : State} {a0 : Array Value} {h0 : Heap} (s0 : Slot) (s1 : Slot) (s2 : Slot) (s3 : Slot) (s4 : Slot) (i5 : Int32) (i6 : Int32) (i7 : Int32) (s8 : Slot) (s9 : Slot) (o10 : Addr) (o11 : Addr) (cl_o11 : Cell) (z_o11 : Int32) (w6 : Int32) (w7 : Int32) (w8 : Int32) (cl_o10 : Cell) (z_o10 : Int32) (w9 : Int32) (w10 : Int32) (w11 : Int32) (w12 : Int32)
    (X0 : Stand p l e R s m args below meth c T0 locs cells slots) (hx : p.tables.exec = Jvm.exec) (hZ : Z.Warmed39 s.vm) (hw : ∀ d ∈ tables_1, d.before a0 Z = true) (hby : c.code = code) (hml : c.maxLocals = 12) (hown : s.vm.findClass "com/example/concordat/concordat/identity/MllpFramePinLaw" = some m.cls) (e0 : T0.heap = h0) (Ar_o11 : Arr Z h0 o11 cl_o11 .byte) (S_o11 : cl_o11.slots.size = z_o11.toNatClampNeg) (N_o11 : ¬ z_o11 < 0) (hin67 : ¬ ((0 : Int32) < 0 ∨ cl_o11.slots.size ≤ ((0 : Int32)).toNatClampNeg)) (hat67 : cl_o11.slots[((0 : Int32)).toNatClampNeg]? = some (.int w6)) (hin81 : ¬ ((i5 + (1 : Int32)) < 0 ∨ cl_o11.slots.size ≤ ((i5 + (1 : Int32))).toNatClampNeg)) (hat81 : cl_o11.slots[((i5 + (1 : Int32))).toNatClampNeg]? = some (.int w7)) (hin95 : ¬ ((i5 + (2 : Int32)) < 0 ∨ cl_o11.slots.size ≤ ((i5 + (2 : Int32))).toNatClampNeg)) (hat95 : cl_o11.slots[((i5 + (2 : Int32))).toNatClampNeg]? = some (.int w8)) (Ar_o10 : Arr Z h0 o10 cl_o10 .byte) (S_o10 : cl_o10.slots.size = z_o10.toNatClampNeg) (N_o10 : ¬ z_o10 < 0) (hin121 : ¬ ((1 : Int32) < 0 ∨ cl_o11.slots.size ≤ ((1 : Int32)).toNatClampNeg)) (hat121 : cl_o11.slots[((1 : Int32)).toNatClampNeg]? = some (.int w9)) (hin130 : ¬ ((0 : Int32) < 0 ∨ cl_o10.slots.size ≤ ((0 : Int32)).toNatClampNeg)) (hat130 : cl_o10.slots[((0 : Int32)).toNatClampNeg]? = some (.int w10)) (hin147 : ¬ ((2 : Int32) < 0 ∨ cl_o11.slots.size ≤ ((2 : Int32)).toNatClampNeg)) (hat147 : cl_o11.slots[((2 : Int32)).toNatClampNeg]? = some (.int w11)) (hin156 : ¬ ((1 : Int32) < 0 ∨ cl_o10.slots.size ≤ ((1 : Int32)).toNatClampNeg)) (hat156 : cl_o10.slots[((1 : Int32)).toNatClampNeg]? = some (.int w12)) (hc59 : z_o11 = (i5 + (3 : Int32))) (hc70 : w6 = (11 : Int32)) (hc84 : w7 = (28 : Int32)) (hc98 : w8 = (13 : Int32)) (hc108 : z_o10 = i5) (hc115 : (0 : Int32) < i5) (hc124 : w9 = i6) (hc133 : w10 = i6) (hc141 : (1 : Int32) < i5) (hc150 : w11 = i7) (hc159 : w12 = i7) (hc167 : ¬ ((2 : Int32) < i5)) (hc193 : ¬ ((3 : Int32) < i5)) :
    ∃ (T' : State), Stand p l e R s m args below meth c T' locs cells slots ∧ T'.heap = h0 ∧
      ∀ target, Steps p.tables e below (T'.setTop (mkF m 216 #[s0, s1, s2, s3, s4, .val (.int i5), .val (.int i6), .val (.int i7), s8, s9, .val (.ref o10), .val (.ref o11)] [])) target → Steps p.tables e below (T0.setTop (mkF m 47 #[s0, s1, s2, s3, s4, .val (.int i5), .val (.int i6), .val (.int i7), s8, s9, .val (.ref o10), .val (.ref o11)] [])) target := by
  refine ⟨T0, X0, e0, fun target kt => ?_⟩
  show Steps p.tables e below (T0.setTop (mkF m 47 #[s0, s1, s2, s3, s4, .val (.int i5), .val (.int i6), .val (.int i7), s8, s9, .val (.ref o10), .val (.ref o11)] [])) _
  refine XS.aload X0.here hx rfl (hb hby at_47) rfl rfl ?_
  show Steps p.tables e below (T0.setTop (mkF m 49 #[s0, s1, s2, s3, s4, .val (.int i5), .val (.int i6), .val (.int i7), s8, s9, .val (.ref o10), .val (.ref o11)] [(.ref o11)])) _
  refine XS.ifnullNo X0.here hx rfl (hb hby at_49) rfl ?_
  show Steps p.tables e below (T0.setTop (mkF m 52 #[s0, s1, s2, s3, s4, .val (.int i5), .val (.int i6), .val (.int i7), s8, s9, .val (.ref o10), .val (.ref o11)] [])) _
  refine XS.aload X0.here hx rfl (hb hby at_52) rfl rfl ?_
  show Steps p.tables e below (T0.setTop (mkF m 54 #[s0, s1, s2, s3, s4, .val (.int i5), .val (.int i6), .val (.int i7), s8, s9, .val (.ref o10), .val (.ref o11)] [(.ref o11)])) _
  refine X0.arraylength hx (cell := cl_o11) (by rw [e0]; exact Ar_o11.1) (State.isArrayOf_alike hZ.alike Ar_o11.2.1) (g := (mkF m 54 #[s0, s1, s2, s3, s4, .val (.int i5), .val (.int i6), .val (.int i7), s8, s9, .val (.ref o10), .val (.ref o11)] [(.ref o11)])) rfl rfl (hb hby at_54) _ ?_
  rw [len_of S_o11 N_o11]
  show Steps p.tables e below (T0.setTop (mkF m 55 #[s0, s1, s2, s3, s4, .val (.int i5), .val (.int i6), .val (.int i7), s8, s9, .val (.ref o10), .val (.ref o11)] [(.int z_o11)])) _
  refine XS.iload X0.here hx rfl (hb hby at_55) rfl ?_
  show Steps p.tables e below (T0.setTop (mkF m 57 #[s0, s1, s2, s3, s4, .val (.int i5), .val (.int i6), .val (.int i7), s8, s9, .val (.ref o10), .val (.ref o11)] [(.int i5), (.int z_o11)])) _
  refine XS.iconst X0.here hx rfl (hb hby at_57) ?_
  show Steps p.tables e below (T0.setTop (mkF m 58 #[s0, s1, s2, s3, s4, .val (.int i5), .val (.int i6), .val (.int i7), s8, s9, .val (.ref o10), .val (.ref o11)] [(.int (3 : Int32)), (.int i5), (.int z_o11)])) _
  refine XS.iadd X0.here hx rfl (hb hby at_58) rfl ?_
  show Steps p.tables e below (T0.setTop (mkF m 59 #[s0, s1, s2, s3, s4, .val (.int i5), .val (.int i6), .val (.int i7), s8, s9, .val (.ref o10), .val (.ref o11)] [(.int (i5 + (3 : Int32))), (.int z_o11)])) _
  refine XS.icmpYes X0.here hx rfl (pc0 := 59) (pc' := 64) rfl (hb hby at_59) rfl (teq hc59).1 (by decide) (by decide) ?_
  show Steps p.tables e below (T0.setTop (mkF m 64 #[s0, s1, s2, s3, s4, .val (.int i5), .val (.int i6), .val (.int i7), s8, s9, .val (.ref o10), .val (.ref o11)] [])) _
  refine XS.aload X0.here hx rfl (hb hby at_64) rfl rfl ?_
  show Steps p.tables e below (T0.setTop (mkF m 66 #[s0, s1, s2, s3, s4, .val (.int i5), .val (.int i6), .val (.int i7), s8, s9, .val (.ref o10), .val (.ref o11)] [(.ref o11)])) _
  refine XS.iconst X0.here hx rfl (hb hby at_66) ?_
  show Steps p.tables e below (T0.setTop (mkF m 67 #[s0, s1, s2, s3, s4, .val (.int i5), .val (.int i6), .val (.int i7), s8, s9, .val (.ref o10), .val (.ref o11)] [(.int (0 : Int32)), (.ref o11)])) _
  refine X0.baloadBytes hx (j := (0 : Int32)) (v := (.int w6)) (by rw [e0]; exact Ar_o11.1) (State.isArrayOf_alike hZ.alike Ar_o11.2.1) Ar_o11.2.2 hin67 hat67 (g := (mkF m 67 #[s0, s1, s2, s3, s4, .val (.int i5), .val (.int i6), .val (.int i7), s8, s9, .val (.ref o10), .val (.ref o11)] [(.int (0 : Int32)), (.ref o11)])) rfl rfl (hb hby at_67) _ ?_
  show Steps p.tables e below (T0.setTop (mkF m 68 #[s0, s1, s2, s3, s4, .val (.int i5), .val (.int i6), .val (.int i7), s8, s9, .val (.ref o10), .val (.ref o11)] [(.int w6)])) _
  refine XS.bipush X0.here hx rfl (hb hby at_68) ?_
  show Steps p.tables e below (T0.setTop (mkF m 70 #[s0, s1, s2, s3, s4, .val (.int i5), .val (.int i6), .val (.int i7), s8, s9, .val (.ref o10), .val (.ref o11)] [(.int (11 : Int32)), (.int w6)])) _
  refine XS.icmpYes X0.here hx rfl (pc0 := 70) (pc' := 75) rfl (hb hby at_70) rfl (teq hc70).1 (by decide) (by decide) ?_
  show Steps p.tables e below (T0.setTop (mkF m 75 #[s0, s1, s2, s3, s4, .val (.int i5), .val (.int i6), .val (.int i7), s8, s9, .val (.ref o10), .val (.ref o11)] [])) _
  refine XS.aload X0.here hx rfl (hb hby at_75) rfl rfl ?_
  show Steps p.tables e below (T0.setTop (mkF m 77 #[s0, s1, s2, s3, s4, .val (.int i5), .val (.int i6), .val (.int i7), s8, s9, .val (.ref o10), .val (.ref o11)] [(.ref o11)])) _
  refine XS.iload X0.here hx rfl (hb hby at_77) rfl ?_
  show Steps p.tables e below (T0.setTop (mkF m 79 #[s0, s1, s2, s3, s4, .val (.int i5), .val (.int i6), .val (.int i7), s8, s9, .val (.ref o10), .val (.ref o11)] [(.int i5), (.ref o11)])) _
  refine XS.iconst X0.here hx rfl (hb hby at_79) ?_
  show Steps p.tables e below (T0.setTop (mkF m 80 #[s0, s1, s2, s3, s4, .val (.int i5), .val (.int i6), .val (.int i7), s8, s9, .val (.ref o10), .val (.ref o11)] [(.int (1 : Int32)), (.int i5), (.ref o11)])) _
  refine XS.iadd X0.here hx rfl (hb hby at_80) rfl ?_
  show Steps p.tables e below (T0.setTop (mkF m 81 #[s0, s1, s2, s3, s4, .val (.int i5), .val (.int i6), .val (.int i7), s8, s9, .val (.ref o10), .val (.ref o11)] [(.int (i5 + (1 : Int32))), (.ref o11)])) _
  refine X0.baloadBytes hx (j := (i5 + (1 : Int32))) (v := (.int w7)) (by rw [e0]; exact Ar_o11.1) (State.isArrayOf_alike hZ.alike Ar_o11.2.1) Ar_o11.2.2 hin81 hat81 (g := (mkF m 81 #[s0, s1, s2, s3, s4, .val (.int i5), .val (.int i6), .val (.int i7), s8, s9, .val (.ref o10), .val (.ref o11)] [(.int (i5 + (1 : Int32))), (.ref o11)])) rfl rfl (hb hby at_81) _ ?_
  show Steps p.tables e below (T0.setTop (mkF m 82 #[s0, s1, s2, s3, s4, .val (.int i5), .val (.int i6), .val (.int i7), s8, s9, .val (.ref o10), .val (.ref o11)] [(.int w7)])) _
  refine XS.bipush X0.here hx rfl (hb hby at_82) ?_
  show Steps p.tables e below (T0.setTop (mkF m 84 #[s0, s1, s2, s3, s4, .val (.int i5), .val (.int i6), .val (.int i7), s8, s9, .val (.ref o10), .val (.ref o11)] [(.int (28 : Int32)), (.int w7)])) _
  refine XS.icmpYes X0.here hx rfl (pc0 := 84) (pc' := 89) rfl (hb hby at_84) rfl (teq hc84).1 (by decide) (by decide) ?_
  show Steps p.tables e below (T0.setTop (mkF m 89 #[s0, s1, s2, s3, s4, .val (.int i5), .val (.int i6), .val (.int i7), s8, s9, .val (.ref o10), .val (.ref o11)] [])) _
  refine XS.aload X0.here hx rfl (hb hby at_89) rfl rfl ?_
  show Steps p.tables e below (T0.setTop (mkF m 91 #[s0, s1, s2, s3, s4, .val (.int i5), .val (.int i6), .val (.int i7), s8, s9, .val (.ref o10), .val (.ref o11)] [(.ref o11)])) _
  refine XS.iload X0.here hx rfl (hb hby at_91) rfl ?_
  show Steps p.tables e below (T0.setTop (mkF m 93 #[s0, s1, s2, s3, s4, .val (.int i5), .val (.int i6), .val (.int i7), s8, s9, .val (.ref o10), .val (.ref o11)] [(.int i5), (.ref o11)])) _
  refine XS.iconst X0.here hx rfl (hb hby at_93) ?_
  show Steps p.tables e below (T0.setTop (mkF m 94 #[s0, s1, s2, s3, s4, .val (.int i5), .val (.int i6), .val (.int i7), s8, s9, .val (.ref o10), .val (.ref o11)] [(.int (2 : Int32)), (.int i5), (.ref o11)])) _
  refine XS.iadd X0.here hx rfl (hb hby at_94) rfl ?_
  show Steps p.tables e below (T0.setTop (mkF m 95 #[s0, s1, s2, s3, s4, .val (.int i5), .val (.int i6), .val (.int i7), s8, s9, .val (.ref o10), .val (.ref o11)] [(.int (i5 + (2 : Int32))), (.ref o11)])) _
  refine X0.baloadBytes hx (j := (i5 + (2 : Int32))) (v := (.int w8)) (by rw [e0]; exact Ar_o11.1) (State.isArrayOf_alike hZ.alike Ar_o11.2.1) Ar_o11.2.2 hin95 hat95 (g := (mkF m 95 #[s0, s1, s2, s3, s4, .val (.int i5), .val (.int i6), .val (.int i7), s8, s9, .val (.ref o10), .val (.ref o11)] [(.int (i5 + (2 : Int32))), (.ref o11)])) rfl rfl (hb hby at_95) _ ?_
  show Steps p.tables e below (T0.setTop (mkF m 96 #[s0, s1, s2, s3, s4, .val (.int i5), .val (.int i6), .val (.int i7), s8, s9, .val (.ref o10), .val (.ref o11)] [(.int w8)])) _
  refine XS.bipush X0.here hx rfl (hb hby at_96) ?_
  show Steps p.tables e below (T0.setTop (mkF m 98 #[s0, s1, s2, s3, s4, .val (.int i5), .val (.int i6), .val (.int i7), s8, s9, .val (.ref o10), .val (.ref o11)] [(.int (13 : Int32)), (.int w8)])) _
  refine XS.icmpYes X0.here hx rfl (pc0 := 98) (pc' := 103) rfl (hb hby at_98) rfl (teq hc98).1 (by decide) (by decide) ?_
  show Steps p.tables e below (T0.setTop (mkF m 103 #[s0, s1, s2, s3, s4, .val (.int i5), .val (.int i6), .val (.int i7), s8, s9, .val (.ref o10), .val (.ref o11)] [])) _
  refine XS.aload X0.here hx rfl (hb hby at_103) rfl rfl ?_
  show Steps p.tables e below (T0.setTop (mkF m 105 #[s0, s1, s2, s3, s4, .val (.int i5), .val (.int i6), .val (.int i7), s8, s9, .val (.ref o10), .val (.ref o11)] [(.ref o10)])) _
  refine X0.arraylength hx (cell := cl_o10) (by rw [e0]; exact Ar_o10.1) (State.isArrayOf_alike hZ.alike Ar_o10.2.1) (g := (mkF m 105 #[s0, s1, s2, s3, s4, .val (.int i5), .val (.int i6), .val (.int i7), s8, s9, .val (.ref o10), .val (.ref o11)] [(.ref o10)])) rfl rfl (hb hby at_105) _ ?_
  rw [len_of S_o10 N_o10]
  show Steps p.tables e below (T0.setTop (mkF m 106 #[s0, s1, s2, s3, s4, .val (.int i5), .val (.int i6), .val (.int i7), s8, s9, .val (.ref o10), .val (.ref o11)] [(.int z_o10)])) _
  refine XS.iload X0.here hx rfl (hb hby at_106) rfl ?_
  show Steps p.tables e below (T0.setTop (mkF m 108 #[s0, s1, s2, s3, s4, .val (.int i5), .val (.int i6), .val (.int i7), s8, s9, .val (.ref o10), .val (.ref o11)] [(.int i5), (.int z_o10)])) _
  refine XS.icmpYes X0.here hx rfl (pc0 := 108) (pc' := 113) rfl (hb hby at_108) rfl (teq hc108).1 (by decide) (by decide) ?_
  show Steps p.tables e below (T0.setTop (mkF m 113 #[s0, s1, s2, s3, s4, .val (.int i5), .val (.int i6), .val (.int i7), s8, s9, .val (.ref o10), .val (.ref o11)] [])) _
  refine XS.iload X0.here hx rfl (hb hby at_113) rfl ?_
  show Steps p.tables e below (T0.setTop (mkF m 115 #[s0, s1, s2, s3, s4, .val (.int i5), .val (.int i6), .val (.int i7), s8, s9, .val (.ref o10), .val (.ref o11)] [(.int i5)])) _
  refine XS.ifNo X0.here hx rfl (hb hby at_115) rfl ((if0 _ _).trans (tlt hc115).2.2.2) ?_
  show Steps p.tables e below (T0.setTop (mkF m 118 #[s0, s1, s2, s3, s4, .val (.int i5), .val (.int i6), .val (.int i7), s8, s9, .val (.ref o10), .val (.ref o11)] [])) _
  refine XS.aload X0.here hx rfl (hb hby at_118) rfl rfl ?_
  show Steps p.tables e below (T0.setTop (mkF m 120 #[s0, s1, s2, s3, s4, .val (.int i5), .val (.int i6), .val (.int i7), s8, s9, .val (.ref o10), .val (.ref o11)] [(.ref o11)])) _
  refine XS.iconst X0.here hx rfl (hb hby at_120) ?_
  show Steps p.tables e below (T0.setTop (mkF m 121 #[s0, s1, s2, s3, s4, .val (.int i5), .val (.int i6), .val (.int i7), s8, s9, .val (.ref o10), .val (.ref o11)] [(.int (1 : Int32)), (.ref o11)])) _
  refine X0.baloadBytes hx (j := (1 : Int32)) (v := (.int w9)) (by rw [e0]; exact Ar_o11.1) (State.isArrayOf_alike hZ.alike Ar_o11.2.1) Ar_o11.2.2 hin121 hat121 (g := (mkF m 121 #[s0, s1, s2, s3, s4, .val (.int i5), .val (.int i6), .val (.int i7), s8, s9, .val (.ref o10), .val (.ref o11)] [(.int (1 : Int32)), (.ref o11)])) rfl rfl (hb hby at_121) _ ?_
  show Steps p.tables e below (T0.setTop (mkF m 122 #[s0, s1, s2, s3, s4, .val (.int i5), .val (.int i6), .val (.int i7), s8, s9, .val (.ref o10), .val (.ref o11)] [(.int w9)])) _
  refine XS.iload X0.here hx rfl (hb hby at_122) rfl ?_
  show Steps p.tables e below (T0.setTop (mkF m 124 #[s0, s1, s2, s3, s4, .val (.int i5), .val (.int i6), .val (.int i7), s8, s9, .val (.ref o10), .val (.ref o11)] [(.int i6), (.int w9)])) _
  refine XS.icmpNo X0.here hx rfl (hb hby at_124) rfl (teq hc124).2 ?_
  show Steps p.tables e below (T0.setTop (mkF m 127 #[s0, s1, s2, s3, s4, .val (.int i5), .val (.int i6), .val (.int i7), s8, s9, .val (.ref o10), .val (.ref o11)] [])) _
  refine XS.aload X0.here hx rfl (hb hby at_127) rfl rfl ?_
  show Steps p.tables e below (T0.setTop (mkF m 129 #[s0, s1, s2, s3, s4, .val (.int i5), .val (.int i6), .val (.int i7), s8, s9, .val (.ref o10), .val (.ref o11)] [(.ref o10)])) _
  refine XS.iconst X0.here hx rfl (hb hby at_129) ?_
  show Steps p.tables e below (T0.setTop (mkF m 130 #[s0, s1, s2, s3, s4, .val (.int i5), .val (.int i6), .val (.int i7), s8, s9, .val (.ref o10), .val (.ref o11)] [(.int (0 : Int32)), (.ref o10)])) _
  refine X0.baloadBytes hx (j := (0 : Int32)) (v := (.int w10)) (by rw [e0]; exact Ar_o10.1) (State.isArrayOf_alike hZ.alike Ar_o10.2.1) Ar_o10.2.2 hin130 hat130 (g := (mkF m 130 #[s0, s1, s2, s3, s4, .val (.int i5), .val (.int i6), .val (.int i7), s8, s9, .val (.ref o10), .val (.ref o11)] [(.int (0 : Int32)), (.ref o10)])) rfl rfl (hb hby at_130) _ ?_
  show Steps p.tables e below (T0.setTop (mkF m 131 #[s0, s1, s2, s3, s4, .val (.int i5), .val (.int i6), .val (.int i7), s8, s9, .val (.ref o10), .val (.ref o11)] [(.int w10)])) _
  refine XS.iload X0.here hx rfl (hb hby at_131) rfl ?_
  show Steps p.tables e below (T0.setTop (mkF m 133 #[s0, s1, s2, s3, s4, .val (.int i5), .val (.int i6), .val (.int i7), s8, s9, .val (.ref o10), .val (.ref o11)] [(.int i6), (.int w10)])) _
  refine XS.icmpYes X0.here hx rfl (pc0 := 133) (pc' := 138) rfl (hb hby at_133) rfl (teq hc133).1 (by decide) (by decide) ?_
  show Steps p.tables e below (T0.setTop (mkF m 138 #[s0, s1, s2, s3, s4, .val (.int i5), .val (.int i6), .val (.int i7), s8, s9, .val (.ref o10), .val (.ref o11)] [])) _
  refine XS.iload X0.here hx rfl (hb hby at_138) rfl ?_
  show Steps p.tables e below (T0.setTop (mkF m 140 #[s0, s1, s2, s3, s4, .val (.int i5), .val (.int i6), .val (.int i7), s8, s9, .val (.ref o10), .val (.ref o11)] [(.int i5)])) _
  refine XS.iconst X0.here hx rfl (hb hby at_140) ?_
  show Steps p.tables e below (T0.setTop (mkF m 141 #[s0, s1, s2, s3, s4, .val (.int i5), .val (.int i6), .val (.int i7), s8, s9, .val (.ref o10), .val (.ref o11)] [(.int (1 : Int32)), (.int i5)])) _
  refine XS.icmpNo X0.here hx rfl (hb hby at_141) rfl (tlt hc141).2.2.2 ?_
  show Steps p.tables e below (T0.setTop (mkF m 144 #[s0, s1, s2, s3, s4, .val (.int i5), .val (.int i6), .val (.int i7), s8, s9, .val (.ref o10), .val (.ref o11)] [])) _
  refine XS.aload X0.here hx rfl (hb hby at_144) rfl rfl ?_
  show Steps p.tables e below (T0.setTop (mkF m 146 #[s0, s1, s2, s3, s4, .val (.int i5), .val (.int i6), .val (.int i7), s8, s9, .val (.ref o10), .val (.ref o11)] [(.ref o11)])) _
  refine XS.iconst X0.here hx rfl (hb hby at_146) ?_
  show Steps p.tables e below (T0.setTop (mkF m 147 #[s0, s1, s2, s3, s4, .val (.int i5), .val (.int i6), .val (.int i7), s8, s9, .val (.ref o10), .val (.ref o11)] [(.int (2 : Int32)), (.ref o11)])) _
  refine X0.baloadBytes hx (j := (2 : Int32)) (v := (.int w11)) (by rw [e0]; exact Ar_o11.1) (State.isArrayOf_alike hZ.alike Ar_o11.2.1) Ar_o11.2.2 hin147 hat147 (g := (mkF m 147 #[s0, s1, s2, s3, s4, .val (.int i5), .val (.int i6), .val (.int i7), s8, s9, .val (.ref o10), .val (.ref o11)] [(.int (2 : Int32)), (.ref o11)])) rfl rfl (hb hby at_147) _ ?_
  show Steps p.tables e below (T0.setTop (mkF m 148 #[s0, s1, s2, s3, s4, .val (.int i5), .val (.int i6), .val (.int i7), s8, s9, .val (.ref o10), .val (.ref o11)] [(.int w11)])) _
  refine XS.iload X0.here hx rfl (hb hby at_148) rfl ?_
  show Steps p.tables e below (T0.setTop (mkF m 150 #[s0, s1, s2, s3, s4, .val (.int i5), .val (.int i6), .val (.int i7), s8, s9, .val (.ref o10), .val (.ref o11)] [(.int i7), (.int w11)])) _
  refine XS.icmpNo X0.here hx rfl (hb hby at_150) rfl (teq hc150).2 ?_
  show Steps p.tables e below (T0.setTop (mkF m 153 #[s0, s1, s2, s3, s4, .val (.int i5), .val (.int i6), .val (.int i7), s8, s9, .val (.ref o10), .val (.ref o11)] [])) _
  refine XS.aload X0.here hx rfl (hb hby at_153) rfl rfl ?_
  show Steps p.tables e below (T0.setTop (mkF m 155 #[s0, s1, s2, s3, s4, .val (.int i5), .val (.int i6), .val (.int i7), s8, s9, .val (.ref o10), .val (.ref o11)] [(.ref o10)])) _
  refine XS.iconst X0.here hx rfl (hb hby at_155) ?_
  show Steps p.tables e below (T0.setTop (mkF m 156 #[s0, s1, s2, s3, s4, .val (.int i5), .val (.int i6), .val (.int i7), s8, s9, .val (.ref o10), .val (.ref o11)] [(.int (1 : Int32)), (.ref o10)])) _
  refine X0.baloadBytes hx (j := (1 : Int32)) (v := (.int w12)) (by rw [e0]; exact Ar_o10.1) (State.isArrayOf_alike hZ.alike Ar_o10.2.1) Ar_o10.2.2 hin156 hat156 (g := (mkF m 156 #[s0, s1, s2, s3, s4, .val (.int i5), .val (.int i6), .val (.int i7), s8, s9, .val (.ref o10), .val (.ref o11)] [(.int (1 : Int32)), (.ref o10)])) rfl rfl (hb hby at_156) _ ?_
  show Steps p.tables e below (T0.setTop (mkF m 157 #[s0, s1, s2, s3, s4, .val (.int i5), .val (.int i6), .val (.int i7), s8, s9, .val (.ref o10), .val (.ref o11)] [(.int w12)])) _
  refine XS.iload X0.here hx rfl (hb hby at_157) rfl ?_
  show Steps p.tables e below (T0.setTop (mkF m 159 #[s0, s1, s2, s3, s4, .val (.int i5), .val (.int i6), .val (.int i7), s8, s9, .val (.ref o10), .val (.ref o11)] [(.int i7), (.int w12)])) _
  refine XS.icmpYes X0.here hx rfl (pc0 := 159) (pc' := 164) rfl (hb hby at_159) rfl (teq hc159).1 (by decide) (by decide) ?_
  show Steps p.tables e below (T0.setTop (mkF m 164 #[s0, s1, s2, s3, s4, .val (.int i5), .val (.int i6), .val (.int i7), s8, s9, .val (.ref o10), .val (.ref o11)] [])) _
  refine XS.iload X0.here hx rfl (hb hby at_164) rfl ?_
  show Steps p.tables e below (T0.setTop (mkF m 166 #[s0, s1, s2, s3, s4, .val (.int i5), .val (.int i6), .val (.int i7), s8, s9, .val (.ref o10), .val (.ref o11)] [(.int i5)])) _
  refine XS.iconst X0.here hx rfl (hb hby at_166) ?_
  show Steps p.tables e below (T0.setTop (mkF m 167 #[s0, s1, s2, s3, s4, .val (.int i5), .val (.int i6), .val (.int i7), s8, s9, .val (.ref o10), .val (.ref o11)] [(.int (2 : Int32)), (.int i5)])) _
  refine XS.icmpYes X0.here hx rfl (pc0 := 167) (pc' := 190) rfl (hb hby at_167) rfl (flt hc167).2.2.2 (by decide) (by decide) ?_
  show Steps p.tables e below (T0.setTop (mkF m 190 #[s0, s1, s2, s3, s4, .val (.int i5), .val (.int i6), .val (.int i7), s8, s9, .val (.ref o10), .val (.ref o11)] [])) _
  refine XS.iload X0.here hx rfl (hb hby at_190) rfl ?_
  show Steps p.tables e below (T0.setTop (mkF m 192 #[s0, s1, s2, s3, s4, .val (.int i5), .val (.int i6), .val (.int i7), s8, s9, .val (.ref o10), .val (.ref o11)] [(.int i5)])) _
  refine XS.iconst X0.here hx rfl (hb hby at_192) ?_
  show Steps p.tables e below (T0.setTop (mkF m 193 #[s0, s1, s2, s3, s4, .val (.int i5), .val (.int i6), .val (.int i7), s8, s9, .val (.ref o10), .val (.ref o11)] [(.int (3 : Int32)), (.int i5)])) _
  refine XS.icmpYes X0.here hx rfl (pc0 := 193) (pc' := 216) rfl (hb hby at_193) rfl (flt hc193).2.2.2 (by decide) (by decide) ?_
  exact kt
set_option maxRecDepth 65536 in
set_option maxHeartbeats 40000000 in
theorem tn0_w2 {p : Program} {l : Launch} {e : Env} {s : State} {m : MethodId} {args : Array Value} {below : List Frame} {meth : Method} {c : Code} {T0 : State} {locs : List Loc} {Z : State} {a0 : Array Value} {h0 : Heap} (s0 s1 s2 s3 s4 : Slot) (y1 y2 y3 y4 : Int32) (n0 : Nat)
    (X0 : Stand p l e room_1 s m args below meth c T0 locs 0 0) (hx : p.tables.exec = Jvm.exec) (hZ : Z.Warmed39 s.vm) (hw : ∀ d ∈ tables_1, d.before a0 Z = true) (hby : c.code = code) (hml : c.maxLocals = 12) (hown : s.vm.findClass "com/example/concordat/concordat/identity/MllpFramePinLaw" = some m.cls) (e0 : T0.heap = h0) (N0 : Fr n0 locs) (Z0 : n0 ≤ h0.size) :
    ∃ (T' : State) (L : List Loc) (b6 b7 : Addr), Stand p l e room_1 s m args below meth c T' L 2 11 ∧ Fr n0 L ∧
      ∀ target, Steps p.tables e below (T'.setTop (mkF m 216 #[s0, s1, s2, s3, s4, .val (.int (2 : Int32)), .val (.int (own_b y1)), .val (.int (own_b y2)), .val (.int (own_b y3)), .val (.int (own_b y4)), .val (.ref b6), .val (.ref b7)] [])) target → Steps p.tables e below (T0.setTop (mkF m 25 #[s0, s1, s2, s3, s4, .val (.int (2 : Int32)), .val (.int (own_b y1)), .val (.int (own_b y2)), .val (.int (own_b y3)), .val (.int (own_b y4)), .unset, .unset] [])) target := by
  obtain ⟨_, _, ⟨T6, L6, k6, n6⟩, -, X6, ⟨Lc6, hQ6, l6, y6, z6⟩, st6⟩ := Jvm.LawKit.callS X0 hx (y := (⟨"com/example/concordat/concordat/identity/MllpFramePinLaw", "make", "(IBBBB)[B"⟩ : MethodName)) hown (mvT hZ (hw _ (List.mem_of_getElem? (i := 0) rfl))) (mvT hZ (hw _ (List.mem_of_getElem? (i := 1) rfl))) (mvT hZ (hw _ (List.mem_of_getElem? (i := 2) rfl))) (mvT hZ (hw _ (List.mem_of_getElem? (i := 3) rfl))) (by decide) (backOf (W := 0) (rm1_2 l Z a0 hw [] (own_b y1) (own_b y2) (own_b y3) (own_b y4) h0 n0 Z0) hZ (hw _ (List.mem_of_getElem? (i := 3) rfl)) (hw _ (List.mem_of_getElem? (i := 2) rfl)) (by decide) (by decide)) (g := (mkF m 35 #[s0, s1, s2, s3, s4, .val (.int (2 : Int32)), .val (.int (own_b y1)), .val (.int (own_b y2)), .val (.int (own_b y3)), .val (.int (own_b y4)), .unset, .unset] [(.int (own_b y4)), (.int (own_b y3)), (.int (own_b y2)), (.int (own_b y1)), (.int (2 : Int32))])) rfl (by rw [hml]; rfl) (argsL := [(.int (2 : Int32)), (.int (own_b y1)), (.int (own_b y2)), (.int (own_b y3)), (.int (own_b y4))]) (rest := []) (lenOf pd_0_0 rfl) rfl (by show 2 * 0 + _ ≤ _; exact Nat.le_of_eq rfl) (hb hby at_35) (fun _ _ => ⟨rfl, e0, (by decide : 0 + 1 ≤ _), (by decide : 0 + 4 ≤ _)⟩)
  dsimp only [Pt.U, Pt.locs, Pt.cells, Pt.slots] at X6 l6 y6 z6 st6 hQ6
  subst l6 y6 z6
  obtain ⟨b6, ka6, rfl, N6q, K6, sz6, V6⟩ := hQ6
  have N6 := Fr.app N0 N6q
  obtain ⟨_, _, ⟨T7, L7, k7, n7⟩, -, X7, ⟨Lc7, hQ7, l7, y7, z7⟩, st7⟩ := Jvm.LawKit.callS X6 hx (y := (⟨"com/example/concordat/concordat/identity/Mllp", "frame", "([B)[B"⟩ : MethodName)) hown (mvT hZ (hw _ (List.mem_of_getElem? (i := 5) rfl))) (mvT hZ (hw _ (List.mem_of_getElem? (i := 6) rfl))) (mvT hZ (hw _ (List.mem_of_getElem? (i := 7) rfl))) (mvT hZ (hw _ (List.mem_of_getElem? (i := 8) rfl))) (by decide) (backOf (W := 0) (rm2_2 l Z a0 hw [] b6 ka6 (.int (own_b (own_b y1))) (.int (own_b (own_b y2))) T6.heap n0 (Nat.le_trans Z0 K6.1) V6) hZ (hw _ (List.mem_of_getElem? (i := 8) rfl)) (hw _ (List.mem_of_getElem? (i := 7) rfl)) (by decide) (by decide)) (g := (mkF m 42 #[s0, s1, s2, s3, s4, .val (.int (2 : Int32)), .val (.int (own_b y1)), .val (.int (own_b y2)), .val (.int (own_b y3)), .val (.int (own_b y4)), .val (.ref b6), .unset] [(.ref b6)])) rfl (by rw [hml]; rfl) (argsL := [(.ref b6)]) (rest := []) (lenOf pd_0_1 rfl) rfl (by show 2 * 0 + _ ≤ _; exact Nat.le_of_eq rfl) (hb hby at_42) (fun _ _ => ⟨rfl, rfl, (by decide : 1 + 1 ≤ _), (by decide : 4 + 7 ≤ _)⟩)
  dsimp only [Pt.U, Pt.locs, Pt.cells, Pt.slots] at X7 l7 y7 z7 st7 hQ7
  subst l7 y7 z7
  obtain ⟨b7, ka7, rfl, N7q, K7, V7⟩ := hQ7
  obtain ⟨cl6, Ar6, -, S6, -, H6, -⟩ := V6.keep K7 (by simp)
  obtain ⟨cl7, Ar7, -, S7, -, H7, -⟩ := V7
  have N7 := Fr.app N6 N7q
  obtain ⟨T8, X8, e8, st8⟩ := tn0_l2 s0 s1 s2 s3 s4 (2 : Int32) (own_b y1) (own_b y2) (.val (.int (own_b y3))) (.val (.int (own_b y4))) b6 b7 cl7 ((2 : Int32) + (3 : Int32)) (own_b (11 : Int32)) (own_b (28 : Int32)) (own_b (13 : Int32)) cl6 (2 : Int32) (own_b (own_b y1)) (own_b (own_b y1)) (own_b (own_b y2)) (own_b (own_b y2)) X7 hx hZ hw hby hml hown rfl Ar7 S7 (by decide) (inb_of S7 ⟨by decide, by decide⟩) (H7 0 (by rw [S7]; decide)) (inb_of S7 ⟨by decide, by decide⟩) (H7 3 (by rw [S7]; decide)) (inb_of S7 ⟨by decide, by decide⟩) (H7 4 (by rw [S7]; decide)) Ar6 S6 (by decide) (inb_of S7 ⟨by decide, by decide⟩) (H7 1 (by rw [S7]; decide)) (inb_of S6 ⟨by decide, by decide⟩) (H6 0 (by rw [S6]; decide)) (inb_of S7 ⟨by decide, by decide⟩) (H7 2 (by rw [S7]; decide)) (inb_of S6 ⟨by decide, by decide⟩) (H6 1 (by rw [S6]; decide)) (by decide) (by decide) (by decide) (by decide) (by decide) (by decide) (own_bb _) (own_bb _) (by decide) (own_bb _) (own_bb _) (by decide) (by decide)
  refine ⟨T8, _, b6, b7, X8, N7, fun target kt => ?_⟩
  show Steps p.tables e below (T0.setTop (mkF m 25 #[s0, s1, s2, s3, s4, .val (.int (2 : Int32)), .val (.int (own_b y1)), .val (.int (own_b y2)), .val (.int (own_b y3)), .val (.int (own_b y4)), .unset, .unset] [])) _
  refine XS.iload X0.here hx rfl (hb hby at_25) rfl ?_
  show Steps p.tables e below (T0.setTop (mkF m 27 #[s0, s1, s2, s3, s4, .val (.int (2 : Int32)), .val (.int (own_b y1)), .val (.int (own_b y2)), .val (.int (own_b y3)), .val (.int (own_b y4)), .unset, .unset] [(.int (2 : Int32))])) _
  refine XS.iload X0.here hx rfl (hb hby at_27) rfl ?_
  show Steps p.tables e below (T0.setTop (mkF m 29 #[s0, s1, s2, s3, s4, .val (.int (2 : Int32)), .val (.int (own_b y1)), .val (.int (own_b y2)), .val (.int (own_b y3)), .val (.int (own_b y4)), .unset, .unset] [(.int (own_b y1)), (.int (2 : Int32))])) _
  refine XS.iload X0.here hx rfl (hb hby at_29) rfl ?_
  show Steps p.tables e below (T0.setTop (mkF m 31 #[s0, s1, s2, s3, s4, .val (.int (2 : Int32)), .val (.int (own_b y1)), .val (.int (own_b y2)), .val (.int (own_b y3)), .val (.int (own_b y4)), .unset, .unset] [(.int (own_b y2)), (.int (own_b y1)), (.int (2 : Int32))])) _
  refine XS.iload X0.here hx rfl (hb hby at_31) rfl ?_
  show Steps p.tables e below (T0.setTop (mkF m 33 #[s0, s1, s2, s3, s4, .val (.int (2 : Int32)), .val (.int (own_b y1)), .val (.int (own_b y2)), .val (.int (own_b y3)), .val (.int (own_b y4)), .unset, .unset] [(.int (own_b y3)), (.int (own_b y2)), (.int (own_b y1)), (.int (2 : Int32))])) _
  refine XS.iload X0.here hx rfl (hb hby at_33) rfl ?_
  show Steps p.tables e below (T0.setTop (mkF m 35 #[s0, s1, s2, s3, s4, .val (.int (2 : Int32)), .val (.int (own_b y1)), .val (.int (own_b y2)), .val (.int (own_b y3)), .val (.int (own_b y4)), .unset, .unset] [(.int (own_b y4)), (.int (own_b y3)), (.int (own_b y2)), (.int (own_b y1)), (.int (2 : Int32))])) _
  refine st6 _ ?_
  show Steps p.tables e below (T6.setTop (mkF m 38 #[s0, s1, s2, s3, s4, .val (.int (2 : Int32)), .val (.int (own_b y1)), .val (.int (own_b y2)), .val (.int (own_b y3)), .val (.int (own_b y4)), .unset, .unset] [(.ref b6)])) _
  refine XS.astore X6.here hx rfl (hb hby at_38) rfl rfl (l' := #[s0, s1, s2, s3, s4, .val (.int (2 : Int32)), .val (.int (own_b y1)), .val (.int (own_b y2)), .val (.int (own_b y3)), .val (.int (own_b y4)), .val (.ref b6), .unset]) rfl ?_
  show Steps p.tables e below (T6.setTop (mkF m 40 #[s0, s1, s2, s3, s4, .val (.int (2 : Int32)), .val (.int (own_b y1)), .val (.int (own_b y2)), .val (.int (own_b y3)), .val (.int (own_b y4)), .val (.ref b6), .unset] [])) _
  refine XS.aload X6.here hx rfl (hb hby at_40) rfl rfl ?_
  show Steps p.tables e below (T6.setTop (mkF m 42 #[s0, s1, s2, s3, s4, .val (.int (2 : Int32)), .val (.int (own_b y1)), .val (.int (own_b y2)), .val (.int (own_b y3)), .val (.int (own_b y4)), .val (.ref b6), .unset] [(.ref b6)])) _
  refine st7 _ ?_
  show Steps p.tables e below (T7.setTop (mkF m 45 #[s0, s1, s2, s3, s4, .val (.int (2 : Int32)), .val (.int (own_b y1)), .val (.int (own_b y2)), .val (.int (own_b y3)), .val (.int (own_b y4)), .val (.ref b6), .unset] [(.ref b7)])) _
  refine XS.astore X7.here hx rfl (hb hby at_45) rfl rfl (l' := #[s0, s1, s2, s3, s4, .val (.int (2 : Int32)), .val (.int (own_b y1)), .val (.int (own_b y2)), .val (.int (own_b y3)), .val (.int (own_b y4)), .val (.ref b6), .val (.ref b7)]) rfl ?_
  exact st8 _ kt
set_option maxRecDepth 65536 in
set_option maxHeartbeats 40000000 in
theorem tn0_l3 {p : Program} {l : Launch} {e : Env} {R : Room} {s : State} {m : MethodId} {args : Array Value} {below : List Frame} {meth : Method} {c : Code} {T0 : State} {locs : List Loc} {cells slots : Nat} {Z : State} {a0 : Array Value} {h0 : Heap} (s0 : Slot) (s1 : Slot) (s2 : Slot) (s3 : Slot) (s4 : Slot) (i5 : Int32) (i6 : Int32) (i7 : Int32) (i8 : Int32) (s9 : Slot) (o10 : Addr) (o11 : Addr) (cl_o11 : Cell) (z_o11 : Int32) (w6 : Int32) (w7 : Int32) (w8 : Int32) (cl_o10 : Cell) (z_o10 : Int32) (w9 : Int32) (w10 : Int32) (w11 : Int32) (w12 : Int32) (w13 : Int32) (w14 : Int32)
    (X0 : Stand p l e R s m args below meth c T0 locs cells slots) (hx : p.tables.exec = Jvm.exec) (hZ : Z.Warmed39 s.vm) (hw : ∀ d ∈ tables_1, d.before a0 Z = true) (hby : c.code = code) (hml : c.maxLocals = 12) (hown : s.vm.findClass "com/example/concordat/concordat/identity/MllpFramePinLaw" = some m.cls) (e0 : T0.heap = h0) (Ar_o11 : Arr Z h0 o11 cl_o11 .byte) (S_o11 : cl_o11.slots.size = z_o11.toNatClampNeg) (N_o11 : ¬ z_o11 < 0) (hin67 : ¬ ((0 : Int32) < 0 ∨ cl_o11.slots.size ≤ ((0 : Int32)).toNatClampNeg)) (hat67 : cl_o11.slots[((0 : Int32)).toNatClampNeg]? = some (.int w6)) (hin81 : ¬ ((i5 + (1 : Int32)) < 0 ∨ cl_o11.slots.size ≤ ((i5 + (1 : Int32))).toNatClampNeg)) (hat81 : cl_o11.slots[((i5 + (1 : Int32))).toNatClampNeg]? = some (.int w7)) (hin95 : ¬ ((i5 + (2 : Int32)) < 0 ∨ cl_o11.slots.size ≤ ((i5 + (2 : Int32))).toNatClampNeg)) (hat95 : cl_o11.slots[((i5 + (2 : Int32))).toNatClampNeg]? = some (.int w8)) (Ar_o10 : Arr Z h0 o10 cl_o10 .byte) (S_o10 : cl_o10.slots.size = z_o10.toNatClampNeg) (N_o10 : ¬ z_o10 < 0) (hin121 : ¬ ((1 : Int32) < 0 ∨ cl_o11.slots.size ≤ ((1 : Int32)).toNatClampNeg)) (hat121 : cl_o11.slots[((1 : Int32)).toNatClampNeg]? = some (.int w9)) (hin130 : ¬ ((0 : Int32) < 0 ∨ cl_o10.slots.size ≤ ((0 : Int32)).toNatClampNeg)) (hat130 : cl_o10.slots[((0 : Int32)).toNatClampNeg]? = some (.int w10)) (hin147 : ¬ ((2 : Int32) < 0 ∨ cl_o11.slots.size ≤ ((2 : Int32)).toNatClampNeg)) (hat147 : cl_o11.slots[((2 : Int32)).toNatClampNeg]? = some (.int w11)) (hin156 : ¬ ((1 : Int32) < 0 ∨ cl_o10.slots.size ≤ ((1 : Int32)).toNatClampNeg)) (hat156 : cl_o10.slots[((1 : Int32)).toNatClampNeg]? = some (.int w12)) (hin173 : ¬ ((3 : Int32) < 0 ∨ cl_o11.slots.size ≤ ((3 : Int32)).toNatClampNeg)) (hat173 : cl_o11.slots[((3 : Int32)).toNatClampNeg]? = some (.int w13)) (hin182 : ¬ ((2 : Int32) < 0 ∨ cl_o10.slots.size ≤ ((2 : Int32)).toNatClampNeg)) (hat182 : cl_o10.slots[((2 : Int32)).toNatClampNeg]? = some (.int w14)) (hc59 : z_o11 = (i5 + (3 : Int32))) (hc70 : w6 = (11 : Int32)) (hc84 : w7 = (28 : Int32)) (hc98 : w8 = (13 : Int32)) (hc108 : z_o10 = i5) (hc115 : (0 : Int32) < i5) (hc124 : w9 = i6) (hc133 : w10 = i6) (hc141 : (1 : Int32) < i5) (hc150 : w11 = i7) (hc159 : w12 = i7) (hc167 : (2 : Int32) < i5) (hc176 : w13 = i8) (hc185 : w14 = i8) (hc193 : ¬ ((3 : Int32) < i5)) :
    ∃ (T' : State), Stand p l e R s m args below meth c T' locs cells slots ∧ T'.heap = h0 ∧
      ∀ target, Steps p.tables e below (T'.setTop (mkF m 216 #[s0, s1, s2, s3, s4, .val (.int i5), .val (.int i6), .val (.int i7), .val (.int i8), s9, .val (.ref o10), .val (.ref o11)] [])) target → Steps p.tables e below (T0.setTop (mkF m 47 #[s0, s1, s2, s3, s4, .val (.int i5), .val (.int i6), .val (.int i7), .val (.int i8), s9, .val (.ref o10), .val (.ref o11)] [])) target := by
  refine ⟨T0, X0, e0, fun target kt => ?_⟩
  show Steps p.tables e below (T0.setTop (mkF m 47 #[s0, s1, s2, s3, s4, .val (.int i5), .val (.int i6), .val (.int i7), .val (.int i8), s9, .val (.ref o10), .val (.ref o11)] [])) _
  refine XS.aload X0.here hx rfl (hb hby at_47) rfl rfl ?_
  show Steps p.tables e below (T0.setTop (mkF m 49 #[s0, s1, s2, s3, s4, .val (.int i5), .val (.int i6), .val (.int i7), .val (.int i8), s9, .val (.ref o10), .val (.ref o11)] [(.ref o11)])) _
  refine XS.ifnullNo X0.here hx rfl (hb hby at_49) rfl ?_
  show Steps p.tables e below (T0.setTop (mkF m 52 #[s0, s1, s2, s3, s4, .val (.int i5), .val (.int i6), .val (.int i7), .val (.int i8), s9, .val (.ref o10), .val (.ref o11)] [])) _
  refine XS.aload X0.here hx rfl (hb hby at_52) rfl rfl ?_
  show Steps p.tables e below (T0.setTop (mkF m 54 #[s0, s1, s2, s3, s4, .val (.int i5), .val (.int i6), .val (.int i7), .val (.int i8), s9, .val (.ref o10), .val (.ref o11)] [(.ref o11)])) _
  refine X0.arraylength hx (cell := cl_o11) (by rw [e0]; exact Ar_o11.1) (State.isArrayOf_alike hZ.alike Ar_o11.2.1) (g := (mkF m 54 #[s0, s1, s2, s3, s4, .val (.int i5), .val (.int i6), .val (.int i7), .val (.int i8), s9, .val (.ref o10), .val (.ref o11)] [(.ref o11)])) rfl rfl (hb hby at_54) _ ?_
  rw [len_of S_o11 N_o11]
  show Steps p.tables e below (T0.setTop (mkF m 55 #[s0, s1, s2, s3, s4, .val (.int i5), .val (.int i6), .val (.int i7), .val (.int i8), s9, .val (.ref o10), .val (.ref o11)] [(.int z_o11)])) _
  refine XS.iload X0.here hx rfl (hb hby at_55) rfl ?_
  show Steps p.tables e below (T0.setTop (mkF m 57 #[s0, s1, s2, s3, s4, .val (.int i5), .val (.int i6), .val (.int i7), .val (.int i8), s9, .val (.ref o10), .val (.ref o11)] [(.int i5), (.int z_o11)])) _
  refine XS.iconst X0.here hx rfl (hb hby at_57) ?_
  show Steps p.tables e below (T0.setTop (mkF m 58 #[s0, s1, s2, s3, s4, .val (.int i5), .val (.int i6), .val (.int i7), .val (.int i8), s9, .val (.ref o10), .val (.ref o11)] [(.int (3 : Int32)), (.int i5), (.int z_o11)])) _
  refine XS.iadd X0.here hx rfl (hb hby at_58) rfl ?_
  show Steps p.tables e below (T0.setTop (mkF m 59 #[s0, s1, s2, s3, s4, .val (.int i5), .val (.int i6), .val (.int i7), .val (.int i8), s9, .val (.ref o10), .val (.ref o11)] [(.int (i5 + (3 : Int32))), (.int z_o11)])) _
  refine XS.icmpYes X0.here hx rfl (pc0 := 59) (pc' := 64) rfl (hb hby at_59) rfl (teq hc59).1 (by decide) (by decide) ?_
  show Steps p.tables e below (T0.setTop (mkF m 64 #[s0, s1, s2, s3, s4, .val (.int i5), .val (.int i6), .val (.int i7), .val (.int i8), s9, .val (.ref o10), .val (.ref o11)] [])) _
  refine XS.aload X0.here hx rfl (hb hby at_64) rfl rfl ?_
  show Steps p.tables e below (T0.setTop (mkF m 66 #[s0, s1, s2, s3, s4, .val (.int i5), .val (.int i6), .val (.int i7), .val (.int i8), s9, .val (.ref o10), .val (.ref o11)] [(.ref o11)])) _
  refine XS.iconst X0.here hx rfl (hb hby at_66) ?_
  show Steps p.tables e below (T0.setTop (mkF m 67 #[s0, s1, s2, s3, s4, .val (.int i5), .val (.int i6), .val (.int i7), .val (.int i8), s9, .val (.ref o10), .val (.ref o11)] [(.int (0 : Int32)), (.ref o11)])) _
  refine X0.baloadBytes hx (j := (0 : Int32)) (v := (.int w6)) (by rw [e0]; exact Ar_o11.1) (State.isArrayOf_alike hZ.alike Ar_o11.2.1) Ar_o11.2.2 hin67 hat67 (g := (mkF m 67 #[s0, s1, s2, s3, s4, .val (.int i5), .val (.int i6), .val (.int i7), .val (.int i8), s9, .val (.ref o10), .val (.ref o11)] [(.int (0 : Int32)), (.ref o11)])) rfl rfl (hb hby at_67) _ ?_
  show Steps p.tables e below (T0.setTop (mkF m 68 #[s0, s1, s2, s3, s4, .val (.int i5), .val (.int i6), .val (.int i7), .val (.int i8), s9, .val (.ref o10), .val (.ref o11)] [(.int w6)])) _
  refine XS.bipush X0.here hx rfl (hb hby at_68) ?_
  show Steps p.tables e below (T0.setTop (mkF m 70 #[s0, s1, s2, s3, s4, .val (.int i5), .val (.int i6), .val (.int i7), .val (.int i8), s9, .val (.ref o10), .val (.ref o11)] [(.int (11 : Int32)), (.int w6)])) _
  refine XS.icmpYes X0.here hx rfl (pc0 := 70) (pc' := 75) rfl (hb hby at_70) rfl (teq hc70).1 (by decide) (by decide) ?_
  show Steps p.tables e below (T0.setTop (mkF m 75 #[s0, s1, s2, s3, s4, .val (.int i5), .val (.int i6), .val (.int i7), .val (.int i8), s9, .val (.ref o10), .val (.ref o11)] [])) _
  refine XS.aload X0.here hx rfl (hb hby at_75) rfl rfl ?_
  show Steps p.tables e below (T0.setTop (mkF m 77 #[s0, s1, s2, s3, s4, .val (.int i5), .val (.int i6), .val (.int i7), .val (.int i8), s9, .val (.ref o10), .val (.ref o11)] [(.ref o11)])) _
  refine XS.iload X0.here hx rfl (hb hby at_77) rfl ?_
  show Steps p.tables e below (T0.setTop (mkF m 79 #[s0, s1, s2, s3, s4, .val (.int i5), .val (.int i6), .val (.int i7), .val (.int i8), s9, .val (.ref o10), .val (.ref o11)] [(.int i5), (.ref o11)])) _
  refine XS.iconst X0.here hx rfl (hb hby at_79) ?_
  show Steps p.tables e below (T0.setTop (mkF m 80 #[s0, s1, s2, s3, s4, .val (.int i5), .val (.int i6), .val (.int i7), .val (.int i8), s9, .val (.ref o10), .val (.ref o11)] [(.int (1 : Int32)), (.int i5), (.ref o11)])) _
  refine XS.iadd X0.here hx rfl (hb hby at_80) rfl ?_
  show Steps p.tables e below (T0.setTop (mkF m 81 #[s0, s1, s2, s3, s4, .val (.int i5), .val (.int i6), .val (.int i7), .val (.int i8), s9, .val (.ref o10), .val (.ref o11)] [(.int (i5 + (1 : Int32))), (.ref o11)])) _
  refine X0.baloadBytes hx (j := (i5 + (1 : Int32))) (v := (.int w7)) (by rw [e0]; exact Ar_o11.1) (State.isArrayOf_alike hZ.alike Ar_o11.2.1) Ar_o11.2.2 hin81 hat81 (g := (mkF m 81 #[s0, s1, s2, s3, s4, .val (.int i5), .val (.int i6), .val (.int i7), .val (.int i8), s9, .val (.ref o10), .val (.ref o11)] [(.int (i5 + (1 : Int32))), (.ref o11)])) rfl rfl (hb hby at_81) _ ?_
  show Steps p.tables e below (T0.setTop (mkF m 82 #[s0, s1, s2, s3, s4, .val (.int i5), .val (.int i6), .val (.int i7), .val (.int i8), s9, .val (.ref o10), .val (.ref o11)] [(.int w7)])) _
  refine XS.bipush X0.here hx rfl (hb hby at_82) ?_
  show Steps p.tables e below (T0.setTop (mkF m 84 #[s0, s1, s2, s3, s4, .val (.int i5), .val (.int i6), .val (.int i7), .val (.int i8), s9, .val (.ref o10), .val (.ref o11)] [(.int (28 : Int32)), (.int w7)])) _
  refine XS.icmpYes X0.here hx rfl (pc0 := 84) (pc' := 89) rfl (hb hby at_84) rfl (teq hc84).1 (by decide) (by decide) ?_
  show Steps p.tables e below (T0.setTop (mkF m 89 #[s0, s1, s2, s3, s4, .val (.int i5), .val (.int i6), .val (.int i7), .val (.int i8), s9, .val (.ref o10), .val (.ref o11)] [])) _
  refine XS.aload X0.here hx rfl (hb hby at_89) rfl rfl ?_
  show Steps p.tables e below (T0.setTop (mkF m 91 #[s0, s1, s2, s3, s4, .val (.int i5), .val (.int i6), .val (.int i7), .val (.int i8), s9, .val (.ref o10), .val (.ref o11)] [(.ref o11)])) _
  refine XS.iload X0.here hx rfl (hb hby at_91) rfl ?_
  show Steps p.tables e below (T0.setTop (mkF m 93 #[s0, s1, s2, s3, s4, .val (.int i5), .val (.int i6), .val (.int i7), .val (.int i8), s9, .val (.ref o10), .val (.ref o11)] [(.int i5), (.ref o11)])) _
  refine XS.iconst X0.here hx rfl (hb hby at_93) ?_
  show Steps p.tables e below (T0.setTop (mkF m 94 #[s0, s1, s2, s3, s4, .val (.int i5), .val (.int i6), .val (.int i7), .val (.int i8), s9, .val (.ref o10), .val (.ref o11)] [(.int (2 : Int32)), (.int i5), (.ref o11)])) _
  refine XS.iadd X0.here hx rfl (hb hby at_94) rfl ?_
  show Steps p.tables e below (T0.setTop (mkF m 95 #[s0, s1, s2, s3, s4, .val (.int i5), .val (.int i6), .val (.int i7), .val (.int i8), s9, .val (.ref o10), .val (.ref o11)] [(.int (i5 + (2 : Int32))), (.ref o11)])) _
  refine X0.baloadBytes hx (j := (i5 + (2 : Int32))) (v := (.int w8)) (by rw [e0]; exact Ar_o11.1) (State.isArrayOf_alike hZ.alike Ar_o11.2.1) Ar_o11.2.2 hin95 hat95 (g := (mkF m 95 #[s0, s1, s2, s3, s4, .val (.int i5), .val (.int i6), .val (.int i7), .val (.int i8), s9, .val (.ref o10), .val (.ref o11)] [(.int (i5 + (2 : Int32))), (.ref o11)])) rfl rfl (hb hby at_95) _ ?_
  show Steps p.tables e below (T0.setTop (mkF m 96 #[s0, s1, s2, s3, s4, .val (.int i5), .val (.int i6), .val (.int i7), .val (.int i8), s9, .val (.ref o10), .val (.ref o11)] [(.int w8)])) _
  refine XS.bipush X0.here hx rfl (hb hby at_96) ?_
  show Steps p.tables e below (T0.setTop (mkF m 98 #[s0, s1, s2, s3, s4, .val (.int i5), .val (.int i6), .val (.int i7), .val (.int i8), s9, .val (.ref o10), .val (.ref o11)] [(.int (13 : Int32)), (.int w8)])) _
  refine XS.icmpYes X0.here hx rfl (pc0 := 98) (pc' := 103) rfl (hb hby at_98) rfl (teq hc98).1 (by decide) (by decide) ?_
  show Steps p.tables e below (T0.setTop (mkF m 103 #[s0, s1, s2, s3, s4, .val (.int i5), .val (.int i6), .val (.int i7), .val (.int i8), s9, .val (.ref o10), .val (.ref o11)] [])) _
  refine XS.aload X0.here hx rfl (hb hby at_103) rfl rfl ?_
  show Steps p.tables e below (T0.setTop (mkF m 105 #[s0, s1, s2, s3, s4, .val (.int i5), .val (.int i6), .val (.int i7), .val (.int i8), s9, .val (.ref o10), .val (.ref o11)] [(.ref o10)])) _
  refine X0.arraylength hx (cell := cl_o10) (by rw [e0]; exact Ar_o10.1) (State.isArrayOf_alike hZ.alike Ar_o10.2.1) (g := (mkF m 105 #[s0, s1, s2, s3, s4, .val (.int i5), .val (.int i6), .val (.int i7), .val (.int i8), s9, .val (.ref o10), .val (.ref o11)] [(.ref o10)])) rfl rfl (hb hby at_105) _ ?_
  rw [len_of S_o10 N_o10]
  show Steps p.tables e below (T0.setTop (mkF m 106 #[s0, s1, s2, s3, s4, .val (.int i5), .val (.int i6), .val (.int i7), .val (.int i8), s9, .val (.ref o10), .val (.ref o11)] [(.int z_o10)])) _
  refine XS.iload X0.here hx rfl (hb hby at_106) rfl ?_
  show Steps p.tables e below (T0.setTop (mkF m 108 #[s0, s1, s2, s3, s4, .val (.int i5), .val (.int i6), .val (.int i7), .val (.int i8), s9, .val (.ref o10), .val (.ref o11)] [(.int i5), (.int z_o10)])) _
  refine XS.icmpYes X0.here hx rfl (pc0 := 108) (pc' := 113) rfl (hb hby at_108) rfl (teq hc108).1 (by decide) (by decide) ?_
  show Steps p.tables e below (T0.setTop (mkF m 113 #[s0, s1, s2, s3, s4, .val (.int i5), .val (.int i6), .val (.int i7), .val (.int i8), s9, .val (.ref o10), .val (.ref o11)] [])) _
  refine XS.iload X0.here hx rfl (hb hby at_113) rfl ?_
  show Steps p.tables e below (T0.setTop (mkF m 115 #[s0, s1, s2, s3, s4, .val (.int i5), .val (.int i6), .val (.int i7), .val (.int i8), s9, .val (.ref o10), .val (.ref o11)] [(.int i5)])) _
  refine XS.ifNo X0.here hx rfl (hb hby at_115) rfl ((if0 _ _).trans (tlt hc115).2.2.2) ?_
  show Steps p.tables e below (T0.setTop (mkF m 118 #[s0, s1, s2, s3, s4, .val (.int i5), .val (.int i6), .val (.int i7), .val (.int i8), s9, .val (.ref o10), .val (.ref o11)] [])) _
  refine XS.aload X0.here hx rfl (hb hby at_118) rfl rfl ?_
  show Steps p.tables e below (T0.setTop (mkF m 120 #[s0, s1, s2, s3, s4, .val (.int i5), .val (.int i6), .val (.int i7), .val (.int i8), s9, .val (.ref o10), .val (.ref o11)] [(.ref o11)])) _
  refine XS.iconst X0.here hx rfl (hb hby at_120) ?_
  show Steps p.tables e below (T0.setTop (mkF m 121 #[s0, s1, s2, s3, s4, .val (.int i5), .val (.int i6), .val (.int i7), .val (.int i8), s9, .val (.ref o10), .val (.ref o11)] [(.int (1 : Int32)), (.ref o11)])) _
  refine X0.baloadBytes hx (j := (1 : Int32)) (v := (.int w9)) (by rw [e0]; exact Ar_o11.1) (State.isArrayOf_alike hZ.alike Ar_o11.2.1) Ar_o11.2.2 hin121 hat121 (g := (mkF m 121 #[s0, s1, s2, s3, s4, .val (.int i5), .val (.int i6), .val (.int i7), .val (.int i8), s9, .val (.ref o10), .val (.ref o11)] [(.int (1 : Int32)), (.ref o11)])) rfl rfl (hb hby at_121) _ ?_
  show Steps p.tables e below (T0.setTop (mkF m 122 #[s0, s1, s2, s3, s4, .val (.int i5), .val (.int i6), .val (.int i7), .val (.int i8), s9, .val (.ref o10), .val (.ref o11)] [(.int w9)])) _
  refine XS.iload X0.here hx rfl (hb hby at_122) rfl ?_
  show Steps p.tables e below (T0.setTop (mkF m 124 #[s0, s1, s2, s3, s4, .val (.int i5), .val (.int i6), .val (.int i7), .val (.int i8), s9, .val (.ref o10), .val (.ref o11)] [(.int i6), (.int w9)])) _
  refine XS.icmpNo X0.here hx rfl (hb hby at_124) rfl (teq hc124).2 ?_
  show Steps p.tables e below (T0.setTop (mkF m 127 #[s0, s1, s2, s3, s4, .val (.int i5), .val (.int i6), .val (.int i7), .val (.int i8), s9, .val (.ref o10), .val (.ref o11)] [])) _
  refine XS.aload X0.here hx rfl (hb hby at_127) rfl rfl ?_
  show Steps p.tables e below (T0.setTop (mkF m 129 #[s0, s1, s2, s3, s4, .val (.int i5), .val (.int i6), .val (.int i7), .val (.int i8), s9, .val (.ref o10), .val (.ref o11)] [(.ref o10)])) _
  refine XS.iconst X0.here hx rfl (hb hby at_129) ?_
  show Steps p.tables e below (T0.setTop (mkF m 130 #[s0, s1, s2, s3, s4, .val (.int i5), .val (.int i6), .val (.int i7), .val (.int i8), s9, .val (.ref o10), .val (.ref o11)] [(.int (0 : Int32)), (.ref o10)])) _
  refine X0.baloadBytes hx (j := (0 : Int32)) (v := (.int w10)) (by rw [e0]; exact Ar_o10.1) (State.isArrayOf_alike hZ.alike Ar_o10.2.1) Ar_o10.2.2 hin130 hat130 (g := (mkF m 130 #[s0, s1, s2, s3, s4, .val (.int i5), .val (.int i6), .val (.int i7), .val (.int i8), s9, .val (.ref o10), .val (.ref o11)] [(.int (0 : Int32)), (.ref o10)])) rfl rfl (hb hby at_130) _ ?_
  show Steps p.tables e below (T0.setTop (mkF m 131 #[s0, s1, s2, s3, s4, .val (.int i5), .val (.int i6), .val (.int i7), .val (.int i8), s9, .val (.ref o10), .val (.ref o11)] [(.int w10)])) _
  refine XS.iload X0.here hx rfl (hb hby at_131) rfl ?_
  show Steps p.tables e below (T0.setTop (mkF m 133 #[s0, s1, s2, s3, s4, .val (.int i5), .val (.int i6), .val (.int i7), .val (.int i8), s9, .val (.ref o10), .val (.ref o11)] [(.int i6), (.int w10)])) _
  refine XS.icmpYes X0.here hx rfl (pc0 := 133) (pc' := 138) rfl (hb hby at_133) rfl (teq hc133).1 (by decide) (by decide) ?_
  show Steps p.tables e below (T0.setTop (mkF m 138 #[s0, s1, s2, s3, s4, .val (.int i5), .val (.int i6), .val (.int i7), .val (.int i8), s9, .val (.ref o10), .val (.ref o11)] [])) _
  refine XS.iload X0.here hx rfl (hb hby at_138) rfl ?_
  show Steps p.tables e below (T0.setTop (mkF m 140 #[s0, s1, s2, s3, s4, .val (.int i5), .val (.int i6), .val (.int i7), .val (.int i8), s9, .val (.ref o10), .val (.ref o11)] [(.int i5)])) _
  refine XS.iconst X0.here hx rfl (hb hby at_140) ?_
  show Steps p.tables e below (T0.setTop (mkF m 141 #[s0, s1, s2, s3, s4, .val (.int i5), .val (.int i6), .val (.int i7), .val (.int i8), s9, .val (.ref o10), .val (.ref o11)] [(.int (1 : Int32)), (.int i5)])) _
  refine XS.icmpNo X0.here hx rfl (hb hby at_141) rfl (tlt hc141).2.2.2 ?_
  show Steps p.tables e below (T0.setTop (mkF m 144 #[s0, s1, s2, s3, s4, .val (.int i5), .val (.int i6), .val (.int i7), .val (.int i8), s9, .val (.ref o10), .val (.ref o11)] [])) _
  refine XS.aload X0.here hx rfl (hb hby at_144) rfl rfl ?_
  show Steps p.tables e below (T0.setTop (mkF m 146 #[s0, s1, s2, s3, s4, .val (.int i5), .val (.int i6), .val (.int i7), .val (.int i8), s9, .val (.ref o10), .val (.ref o11)] [(.ref o11)])) _
  refine XS.iconst X0.here hx rfl (hb hby at_146) ?_
  show Steps p.tables e below (T0.setTop (mkF m 147 #[s0, s1, s2, s3, s4, .val (.int i5), .val (.int i6), .val (.int i7), .val (.int i8), s9, .val (.ref o10), .val (.ref o11)] [(.int (2 : Int32)), (.ref o11)])) _
  refine X0.baloadBytes hx (j := (2 : Int32)) (v := (.int w11)) (by rw [e0]; exact Ar_o11.1) (State.isArrayOf_alike hZ.alike Ar_o11.2.1) Ar_o11.2.2 hin147 hat147 (g := (mkF m 147 #[s0, s1, s2, s3, s4, .val (.int i5), .val (.int i6), .val (.int i7), .val (.int i8), s9, .val (.ref o10), .val (.ref o11)] [(.int (2 : Int32)), (.ref o11)])) rfl rfl (hb hby at_147) _ ?_
  show Steps p.tables e below (T0.setTop (mkF m 148 #[s0, s1, s2, s3, s4, .val (.int i5), .val (.int i6), .val (.int i7), .val (.int i8), s9, .val (.ref o10), .val (.ref o11)] [(.int w11)])) _
  refine XS.iload X0.here hx rfl (hb hby at_148) rfl ?_
  show Steps p.tables e below (T0.setTop (mkF m 150 #[s0, s1, s2, s3, s4, .val (.int i5), .val (.int i6), .val (.int i7), .val (.int i8), s9, .val (.ref o10), .val (.ref o11)] [(.int i7), (.int w11)])) _
  refine XS.icmpNo X0.here hx rfl (hb hby at_150) rfl (teq hc150).2 ?_
  show Steps p.tables e below (T0.setTop (mkF m 153 #[s0, s1, s2, s3, s4, .val (.int i5), .val (.int i6), .val (.int i7), .val (.int i8), s9, .val (.ref o10), .val (.ref o11)] [])) _
  refine XS.aload X0.here hx rfl (hb hby at_153) rfl rfl ?_
  show Steps p.tables e below (T0.setTop (mkF m 155 #[s0, s1, s2, s3, s4, .val (.int i5), .val (.int i6), .val (.int i7), .val (.int i8), s9, .val (.ref o10), .val (.ref o11)] [(.ref o10)])) _
  refine XS.iconst X0.here hx rfl (hb hby at_155) ?_
  show Steps p.tables e below (T0.setTop (mkF m 156 #[s0, s1, s2, s3, s4, .val (.int i5), .val (.int i6), .val (.int i7), .val (.int i8), s9, .val (.ref o10), .val (.ref o11)] [(.int (1 : Int32)), (.ref o10)])) _
  refine X0.baloadBytes hx (j := (1 : Int32)) (v := (.int w12)) (by rw [e0]; exact Ar_o10.1) (State.isArrayOf_alike hZ.alike Ar_o10.2.1) Ar_o10.2.2 hin156 hat156 (g := (mkF m 156 #[s0, s1, s2, s3, s4, .val (.int i5), .val (.int i6), .val (.int i7), .val (.int i8), s9, .val (.ref o10), .val (.ref o11)] [(.int (1 : Int32)), (.ref o10)])) rfl rfl (hb hby at_156) _ ?_
  show Steps p.tables e below (T0.setTop (mkF m 157 #[s0, s1, s2, s3, s4, .val (.int i5), .val (.int i6), .val (.int i7), .val (.int i8), s9, .val (.ref o10), .val (.ref o11)] [(.int w12)])) _
  refine XS.iload X0.here hx rfl (hb hby at_157) rfl ?_
  show Steps p.tables e below (T0.setTop (mkF m 159 #[s0, s1, s2, s3, s4, .val (.int i5), .val (.int i6), .val (.int i7), .val (.int i8), s9, .val (.ref o10), .val (.ref o11)] [(.int i7), (.int w12)])) _
  refine XS.icmpYes X0.here hx rfl (pc0 := 159) (pc' := 164) rfl (hb hby at_159) rfl (teq hc159).1 (by decide) (by decide) ?_
  show Steps p.tables e below (T0.setTop (mkF m 164 #[s0, s1, s2, s3, s4, .val (.int i5), .val (.int i6), .val (.int i7), .val (.int i8), s9, .val (.ref o10), .val (.ref o11)] [])) _
  refine XS.iload X0.here hx rfl (hb hby at_164) rfl ?_
  show Steps p.tables e below (T0.setTop (mkF m 166 #[s0, s1, s2, s3, s4, .val (.int i5), .val (.int i6), .val (.int i7), .val (.int i8), s9, .val (.ref o10), .val (.ref o11)] [(.int i5)])) _
  refine XS.iconst X0.here hx rfl (hb hby at_166) ?_
  show Steps p.tables e below (T0.setTop (mkF m 167 #[s0, s1, s2, s3, s4, .val (.int i5), .val (.int i6), .val (.int i7), .val (.int i8), s9, .val (.ref o10), .val (.ref o11)] [(.int (2 : Int32)), (.int i5)])) _
  refine XS.icmpNo X0.here hx rfl (hb hby at_167) rfl (tlt hc167).2.2.2 ?_
  show Steps p.tables e below (T0.setTop (mkF m 170 #[s0, s1, s2, s3, s4, .val (.int i5), .val (.int i6), .val (.int i7), .val (.int i8), s9, .val (.ref o10), .val (.ref o11)] [])) _
  refine XS.aload X0.here hx rfl (hb hby at_170) rfl rfl ?_
  show Steps p.tables e below (T0.setTop (mkF m 172 #[s0, s1, s2, s3, s4, .val (.int i5), .val (.int i6), .val (.int i7), .val (.int i8), s9, .val (.ref o10), .val (.ref o11)] [(.ref o11)])) _
  refine XS.iconst X0.here hx rfl (hb hby at_172) ?_
  show Steps p.tables e below (T0.setTop (mkF m 173 #[s0, s1, s2, s3, s4, .val (.int i5), .val (.int i6), .val (.int i7), .val (.int i8), s9, .val (.ref o10), .val (.ref o11)] [(.int (3 : Int32)), (.ref o11)])) _
  refine X0.baloadBytes hx (j := (3 : Int32)) (v := (.int w13)) (by rw [e0]; exact Ar_o11.1) (State.isArrayOf_alike hZ.alike Ar_o11.2.1) Ar_o11.2.2 hin173 hat173 (g := (mkF m 173 #[s0, s1, s2, s3, s4, .val (.int i5), .val (.int i6), .val (.int i7), .val (.int i8), s9, .val (.ref o10), .val (.ref o11)] [(.int (3 : Int32)), (.ref o11)])) rfl rfl (hb hby at_173) _ ?_
  show Steps p.tables e below (T0.setTop (mkF m 174 #[s0, s1, s2, s3, s4, .val (.int i5), .val (.int i6), .val (.int i7), .val (.int i8), s9, .val (.ref o10), .val (.ref o11)] [(.int w13)])) _
  refine XS.iload X0.here hx rfl (hb hby at_174) rfl ?_
  show Steps p.tables e below (T0.setTop (mkF m 176 #[s0, s1, s2, s3, s4, .val (.int i5), .val (.int i6), .val (.int i7), .val (.int i8), s9, .val (.ref o10), .val (.ref o11)] [(.int i8), (.int w13)])) _
  refine XS.icmpNo X0.here hx rfl (hb hby at_176) rfl (teq hc176).2 ?_
  show Steps p.tables e below (T0.setTop (mkF m 179 #[s0, s1, s2, s3, s4, .val (.int i5), .val (.int i6), .val (.int i7), .val (.int i8), s9, .val (.ref o10), .val (.ref o11)] [])) _
  refine XS.aload X0.here hx rfl (hb hby at_179) rfl rfl ?_
  show Steps p.tables e below (T0.setTop (mkF m 181 #[s0, s1, s2, s3, s4, .val (.int i5), .val (.int i6), .val (.int i7), .val (.int i8), s9, .val (.ref o10), .val (.ref o11)] [(.ref o10)])) _
  refine XS.iconst X0.here hx rfl (hb hby at_181) ?_
  show Steps p.tables e below (T0.setTop (mkF m 182 #[s0, s1, s2, s3, s4, .val (.int i5), .val (.int i6), .val (.int i7), .val (.int i8), s9, .val (.ref o10), .val (.ref o11)] [(.int (2 : Int32)), (.ref o10)])) _
  refine X0.baloadBytes hx (j := (2 : Int32)) (v := (.int w14)) (by rw [e0]; exact Ar_o10.1) (State.isArrayOf_alike hZ.alike Ar_o10.2.1) Ar_o10.2.2 hin182 hat182 (g := (mkF m 182 #[s0, s1, s2, s3, s4, .val (.int i5), .val (.int i6), .val (.int i7), .val (.int i8), s9, .val (.ref o10), .val (.ref o11)] [(.int (2 : Int32)), (.ref o10)])) rfl rfl (hb hby at_182) _ ?_
  show Steps p.tables e below (T0.setTop (mkF m 183 #[s0, s1, s2, s3, s4, .val (.int i5), .val (.int i6), .val (.int i7), .val (.int i8), s9, .val (.ref o10), .val (.ref o11)] [(.int w14)])) _
  refine XS.iload X0.here hx rfl (hb hby at_183) rfl ?_
  show Steps p.tables e below (T0.setTop (mkF m 185 #[s0, s1, s2, s3, s4, .val (.int i5), .val (.int i6), .val (.int i7), .val (.int i8), s9, .val (.ref o10), .val (.ref o11)] [(.int i8), (.int w14)])) _
  refine XS.icmpYes X0.here hx rfl (pc0 := 185) (pc' := 190) rfl (hb hby at_185) rfl (teq hc185).1 (by decide) (by decide) ?_
  show Steps p.tables e below (T0.setTop (mkF m 190 #[s0, s1, s2, s3, s4, .val (.int i5), .val (.int i6), .val (.int i7), .val (.int i8), s9, .val (.ref o10), .val (.ref o11)] [])) _
  refine XS.iload X0.here hx rfl (hb hby at_190) rfl ?_
  show Steps p.tables e below (T0.setTop (mkF m 192 #[s0, s1, s2, s3, s4, .val (.int i5), .val (.int i6), .val (.int i7), .val (.int i8), s9, .val (.ref o10), .val (.ref o11)] [(.int i5)])) _
  refine XS.iconst X0.here hx rfl (hb hby at_192) ?_
  show Steps p.tables e below (T0.setTop (mkF m 193 #[s0, s1, s2, s3, s4, .val (.int i5), .val (.int i6), .val (.int i7), .val (.int i8), s9, .val (.ref o10), .val (.ref o11)] [(.int (3 : Int32)), (.int i5)])) _
  refine XS.icmpYes X0.here hx rfl (pc0 := 193) (pc' := 216) rfl (hb hby at_193) rfl (flt hc193).2.2.2 (by decide) (by decide) ?_
  exact kt
set_option maxRecDepth 65536 in
set_option maxHeartbeats 40000000 in
theorem tn0_w3 {p : Program} {l : Launch} {e : Env} {s : State} {m : MethodId} {args : Array Value} {below : List Frame} {meth : Method} {c : Code} {T0 : State} {locs : List Loc} {Z : State} {a0 : Array Value} {h0 : Heap} (s0 s1 s2 s3 s4 : Slot) (y1 y2 y3 y4 : Int32) (n0 : Nat)
    (X0 : Stand p l e room_1 s m args below meth c T0 locs 0 0) (hx : p.tables.exec = Jvm.exec) (hZ : Z.Warmed39 s.vm) (hw : ∀ d ∈ tables_1, d.before a0 Z = true) (hby : c.code = code) (hml : c.maxLocals = 12) (hown : s.vm.findClass "com/example/concordat/concordat/identity/MllpFramePinLaw" = some m.cls) (e0 : T0.heap = h0) (N0 : Fr n0 locs) (Z0 : n0 ≤ h0.size) :
    ∃ (T' : State) (L : List Loc) (b6 b7 : Addr), Stand p l e room_1 s m args below meth c T' L 2 11 ∧ Fr n0 L ∧
      ∀ target, Steps p.tables e below (T'.setTop (mkF m 216 #[s0, s1, s2, s3, s4, .val (.int (3 : Int32)), .val (.int (own_b y1)), .val (.int (own_b y2)), .val (.int (own_b y3)), .val (.int (own_b y4)), .val (.ref b6), .val (.ref b7)] [])) target → Steps p.tables e below (T0.setTop (mkF m 25 #[s0, s1, s2, s3, s4, .val (.int (3 : Int32)), .val (.int (own_b y1)), .val (.int (own_b y2)), .val (.int (own_b y3)), .val (.int (own_b y4)), .unset, .unset] [])) target := by
  obtain ⟨_, _, ⟨T6, L6, k6, n6⟩, -, X6, ⟨Lc6, hQ6, l6, y6, z6⟩, st6⟩ := Jvm.LawKit.callS X0 hx (y := (⟨"com/example/concordat/concordat/identity/MllpFramePinLaw", "make", "(IBBBB)[B"⟩ : MethodName)) hown (mvT hZ (hw _ (List.mem_of_getElem? (i := 0) rfl))) (mvT hZ (hw _ (List.mem_of_getElem? (i := 1) rfl))) (mvT hZ (hw _ (List.mem_of_getElem? (i := 2) rfl))) (mvT hZ (hw _ (List.mem_of_getElem? (i := 3) rfl))) (by decide) (backOf (W := 0) (rm1_3 l Z a0 hw [] (own_b y1) (own_b y2) (own_b y3) (own_b y4) h0 n0 Z0) hZ (hw _ (List.mem_of_getElem? (i := 3) rfl)) (hw _ (List.mem_of_getElem? (i := 2) rfl)) (by decide) (by decide)) (g := (mkF m 35 #[s0, s1, s2, s3, s4, .val (.int (3 : Int32)), .val (.int (own_b y1)), .val (.int (own_b y2)), .val (.int (own_b y3)), .val (.int (own_b y4)), .unset, .unset] [(.int (own_b y4)), (.int (own_b y3)), (.int (own_b y2)), (.int (own_b y1)), (.int (3 : Int32))])) rfl (by rw [hml]; rfl) (argsL := [(.int (3 : Int32)), (.int (own_b y1)), (.int (own_b y2)), (.int (own_b y3)), (.int (own_b y4))]) (rest := []) (lenOf pd_0_0 rfl) rfl (by show 2 * 0 + _ ≤ _; exact Nat.le_of_eq rfl) (hb hby at_35) (fun _ _ => ⟨rfl, e0, (by decide : 0 + 1 ≤ _), (by decide : 0 + 4 ≤ _)⟩)
  dsimp only [Pt.U, Pt.locs, Pt.cells, Pt.slots] at X6 l6 y6 z6 st6 hQ6
  subst l6 y6 z6
  obtain ⟨b6, ka6, rfl, N6q, K6, sz6, V6⟩ := hQ6
  have N6 := Fr.app N0 N6q
  obtain ⟨_, _, ⟨T7, L7, k7, n7⟩, -, X7, ⟨Lc7, hQ7, l7, y7, z7⟩, st7⟩ := Jvm.LawKit.callS X6 hx (y := (⟨"com/example/concordat/concordat/identity/Mllp", "frame", "([B)[B"⟩ : MethodName)) hown (mvT hZ (hw _ (List.mem_of_getElem? (i := 5) rfl))) (mvT hZ (hw _ (List.mem_of_getElem? (i := 6) rfl))) (mvT hZ (hw _ (List.mem_of_getElem? (i := 7) rfl))) (mvT hZ (hw _ (List.mem_of_getElem? (i := 8) rfl))) (by decide) (backOf (W := 0) (rm2_3 l Z a0 hw [] b6 ka6 (.int (own_b (own_b y1))) (.int (own_b (own_b y2))) (.int (own_b (own_b y3))) T6.heap n0 (Nat.le_trans Z0 K6.1) V6) hZ (hw _ (List.mem_of_getElem? (i := 8) rfl)) (hw _ (List.mem_of_getElem? (i := 7) rfl)) (by decide) (by decide)) (g := (mkF m 42 #[s0, s1, s2, s3, s4, .val (.int (3 : Int32)), .val (.int (own_b y1)), .val (.int (own_b y2)), .val (.int (own_b y3)), .val (.int (own_b y4)), .val (.ref b6), .unset] [(.ref b6)])) rfl (by rw [hml]; rfl) (argsL := [(.ref b6)]) (rest := []) (lenOf pd_0_1 rfl) rfl (by show 2 * 0 + _ ≤ _; exact Nat.le_of_eq rfl) (hb hby at_42) (fun _ _ => ⟨rfl, rfl, (by decide : 1 + 1 ≤ _), (by decide : 4 + 7 ≤ _)⟩)
  dsimp only [Pt.U, Pt.locs, Pt.cells, Pt.slots] at X7 l7 y7 z7 st7 hQ7
  subst l7 y7 z7
  obtain ⟨b7, ka7, rfl, N7q, K7, V7⟩ := hQ7
  obtain ⟨cl6, Ar6, -, S6, -, H6, -⟩ := V6.keep K7 (by simp)
  obtain ⟨cl7, Ar7, -, S7, -, H7, -⟩ := V7
  have N7 := Fr.app N6 N7q
  obtain ⟨T8, X8, e8, st8⟩ := tn0_l3 s0 s1 s2 s3 s4 (3 : Int32) (own_b y1) (own_b y2) (own_b y3) (.val (.int (own_b y4))) b6 b7 cl7 ((3 : Int32) + (3 : Int32)) (own_b (11 : Int32)) (own_b (28 : Int32)) (own_b (13 : Int32)) cl6 (3 : Int32) (own_b (own_b y1)) (own_b (own_b y1)) (own_b (own_b y2)) (own_b (own_b y2)) (own_b (own_b y3)) (own_b (own_b y3)) X7 hx hZ hw hby hml hown rfl Ar7 S7 (by decide) (inb_of S7 ⟨by decide, by decide⟩) (H7 0 (by rw [S7]; decide)) (inb_of S7 ⟨by decide, by decide⟩) (H7 4 (by rw [S7]; decide)) (inb_of S7 ⟨by decide, by decide⟩) (H7 5 (by rw [S7]; decide)) Ar6 S6 (by decide) (inb_of S7 ⟨by decide, by decide⟩) (H7 1 (by rw [S7]; decide)) (inb_of S6 ⟨by decide, by decide⟩) (H6 0 (by rw [S6]; decide)) (inb_of S7 ⟨by decide, by decide⟩) (H7 2 (by rw [S7]; decide)) (inb_of S6 ⟨by decide, by decide⟩) (H6 1 (by rw [S6]; decide)) (inb_of S7 ⟨by decide, by decide⟩) (H7 3 (by rw [S7]; decide)) (inb_of S6 ⟨by decide, by decide⟩) (H6 2 (by rw [S6]; decide)) (by decide) (by decide) (by decide) (by decide) (by decide) (by decide) (own_bb _) (own_bb _) (by decide) (own_bb _) (own_bb _) (by decide) (own_bb _) (own_bb _) (by decide)
  refine ⟨T8, _, b6, b7, X8, N7, fun target kt => ?_⟩
  show Steps p.tables e below (T0.setTop (mkF m 25 #[s0, s1, s2, s3, s4, .val (.int (3 : Int32)), .val (.int (own_b y1)), .val (.int (own_b y2)), .val (.int (own_b y3)), .val (.int (own_b y4)), .unset, .unset] [])) _
  refine XS.iload X0.here hx rfl (hb hby at_25) rfl ?_
  show Steps p.tables e below (T0.setTop (mkF m 27 #[s0, s1, s2, s3, s4, .val (.int (3 : Int32)), .val (.int (own_b y1)), .val (.int (own_b y2)), .val (.int (own_b y3)), .val (.int (own_b y4)), .unset, .unset] [(.int (3 : Int32))])) _
  refine XS.iload X0.here hx rfl (hb hby at_27) rfl ?_
  show Steps p.tables e below (T0.setTop (mkF m 29 #[s0, s1, s2, s3, s4, .val (.int (3 : Int32)), .val (.int (own_b y1)), .val (.int (own_b y2)), .val (.int (own_b y3)), .val (.int (own_b y4)), .unset, .unset] [(.int (own_b y1)), (.int (3 : Int32))])) _
  refine XS.iload X0.here hx rfl (hb hby at_29) rfl ?_
  show Steps p.tables e below (T0.setTop (mkF m 31 #[s0, s1, s2, s3, s4, .val (.int (3 : Int32)), .val (.int (own_b y1)), .val (.int (own_b y2)), .val (.int (own_b y3)), .val (.int (own_b y4)), .unset, .unset] [(.int (own_b y2)), (.int (own_b y1)), (.int (3 : Int32))])) _
  refine XS.iload X0.here hx rfl (hb hby at_31) rfl ?_
  show Steps p.tables e below (T0.setTop (mkF m 33 #[s0, s1, s2, s3, s4, .val (.int (3 : Int32)), .val (.int (own_b y1)), .val (.int (own_b y2)), .val (.int (own_b y3)), .val (.int (own_b y4)), .unset, .unset] [(.int (own_b y3)), (.int (own_b y2)), (.int (own_b y1)), (.int (3 : Int32))])) _
  refine XS.iload X0.here hx rfl (hb hby at_33) rfl ?_
  show Steps p.tables e below (T0.setTop (mkF m 35 #[s0, s1, s2, s3, s4, .val (.int (3 : Int32)), .val (.int (own_b y1)), .val (.int (own_b y2)), .val (.int (own_b y3)), .val (.int (own_b y4)), .unset, .unset] [(.int (own_b y4)), (.int (own_b y3)), (.int (own_b y2)), (.int (own_b y1)), (.int (3 : Int32))])) _
  refine st6 _ ?_
  show Steps p.tables e below (T6.setTop (mkF m 38 #[s0, s1, s2, s3, s4, .val (.int (3 : Int32)), .val (.int (own_b y1)), .val (.int (own_b y2)), .val (.int (own_b y3)), .val (.int (own_b y4)), .unset, .unset] [(.ref b6)])) _
  refine XS.astore X6.here hx rfl (hb hby at_38) rfl rfl (l' := #[s0, s1, s2, s3, s4, .val (.int (3 : Int32)), .val (.int (own_b y1)), .val (.int (own_b y2)), .val (.int (own_b y3)), .val (.int (own_b y4)), .val (.ref b6), .unset]) rfl ?_
  show Steps p.tables e below (T6.setTop (mkF m 40 #[s0, s1, s2, s3, s4, .val (.int (3 : Int32)), .val (.int (own_b y1)), .val (.int (own_b y2)), .val (.int (own_b y3)), .val (.int (own_b y4)), .val (.ref b6), .unset] [])) _
  refine XS.aload X6.here hx rfl (hb hby at_40) rfl rfl ?_
  show Steps p.tables e below (T6.setTop (mkF m 42 #[s0, s1, s2, s3, s4, .val (.int (3 : Int32)), .val (.int (own_b y1)), .val (.int (own_b y2)), .val (.int (own_b y3)), .val (.int (own_b y4)), .val (.ref b6), .unset] [(.ref b6)])) _
  refine st7 _ ?_
  show Steps p.tables e below (T7.setTop (mkF m 45 #[s0, s1, s2, s3, s4, .val (.int (3 : Int32)), .val (.int (own_b y1)), .val (.int (own_b y2)), .val (.int (own_b y3)), .val (.int (own_b y4)), .val (.ref b6), .unset] [(.ref b7)])) _
  refine XS.astore X7.here hx rfl (hb hby at_45) rfl rfl (l' := #[s0, s1, s2, s3, s4, .val (.int (3 : Int32)), .val (.int (own_b y1)), .val (.int (own_b y2)), .val (.int (own_b y3)), .val (.int (own_b y4)), .val (.ref b6), .val (.ref b7)]) rfl ?_
  exact st8 _ kt
set_option maxRecDepth 65536 in
set_option maxHeartbeats 40000000 in
theorem tn0_l4 {p : Program} {l : Launch} {e : Env} {R : Room} {s : State} {m : MethodId} {args : Array Value} {below : List Frame} {meth : Method} {c : Code} {T0 : State} {locs : List Loc} {cells slots : Nat} {Z : State} {a0 : Array Value} {h0 : Heap} (s0 : Slot) (s1 : Slot) (s2 : Slot) (s3 : Slot) (s4 : Slot) (i5 : Int32) (i6 : Int32) (i7 : Int32) (i8 : Int32) (i9 : Int32) (o10 : Addr) (o11 : Addr) (cl_o11 : Cell) (z_o11 : Int32) (w6 : Int32) (w7 : Int32) (w8 : Int32) (cl_o10 : Cell) (z_o10 : Int32) (w9 : Int32) (w10 : Int32) (w11 : Int32) (w12 : Int32) (w13 : Int32) (w14 : Int32) (w15 : Int32) (w16 : Int32)
    (X0 : Stand p l e R s m args below meth c T0 locs cells slots) (hx : p.tables.exec = Jvm.exec) (hZ : Z.Warmed39 s.vm) (hw : ∀ d ∈ tables_1, d.before a0 Z = true) (hby : c.code = code) (hml : c.maxLocals = 12) (hown : s.vm.findClass "com/example/concordat/concordat/identity/MllpFramePinLaw" = some m.cls) (e0 : T0.heap = h0) (Ar_o11 : Arr Z h0 o11 cl_o11 .byte) (S_o11 : cl_o11.slots.size = z_o11.toNatClampNeg) (N_o11 : ¬ z_o11 < 0) (hin67 : ¬ ((0 : Int32) < 0 ∨ cl_o11.slots.size ≤ ((0 : Int32)).toNatClampNeg)) (hat67 : cl_o11.slots[((0 : Int32)).toNatClampNeg]? = some (.int w6)) (hin81 : ¬ ((i5 + (1 : Int32)) < 0 ∨ cl_o11.slots.size ≤ ((i5 + (1 : Int32))).toNatClampNeg)) (hat81 : cl_o11.slots[((i5 + (1 : Int32))).toNatClampNeg]? = some (.int w7)) (hin95 : ¬ ((i5 + (2 : Int32)) < 0 ∨ cl_o11.slots.size ≤ ((i5 + (2 : Int32))).toNatClampNeg)) (hat95 : cl_o11.slots[((i5 + (2 : Int32))).toNatClampNeg]? = some (.int w8)) (Ar_o10 : Arr Z h0 o10 cl_o10 .byte) (S_o10 : cl_o10.slots.size = z_o10.toNatClampNeg) (N_o10 : ¬ z_o10 < 0) (hin121 : ¬ ((1 : Int32) < 0 ∨ cl_o11.slots.size ≤ ((1 : Int32)).toNatClampNeg)) (hat121 : cl_o11.slots[((1 : Int32)).toNatClampNeg]? = some (.int w9)) (hin130 : ¬ ((0 : Int32) < 0 ∨ cl_o10.slots.size ≤ ((0 : Int32)).toNatClampNeg)) (hat130 : cl_o10.slots[((0 : Int32)).toNatClampNeg]? = some (.int w10)) (hin147 : ¬ ((2 : Int32) < 0 ∨ cl_o11.slots.size ≤ ((2 : Int32)).toNatClampNeg)) (hat147 : cl_o11.slots[((2 : Int32)).toNatClampNeg]? = some (.int w11)) (hin156 : ¬ ((1 : Int32) < 0 ∨ cl_o10.slots.size ≤ ((1 : Int32)).toNatClampNeg)) (hat156 : cl_o10.slots[((1 : Int32)).toNatClampNeg]? = some (.int w12)) (hin173 : ¬ ((3 : Int32) < 0 ∨ cl_o11.slots.size ≤ ((3 : Int32)).toNatClampNeg)) (hat173 : cl_o11.slots[((3 : Int32)).toNatClampNeg]? = some (.int w13)) (hin182 : ¬ ((2 : Int32) < 0 ∨ cl_o10.slots.size ≤ ((2 : Int32)).toNatClampNeg)) (hat182 : cl_o10.slots[((2 : Int32)).toNatClampNeg]? = some (.int w14)) (hin199 : ¬ ((4 : Int32) < 0 ∨ cl_o11.slots.size ≤ ((4 : Int32)).toNatClampNeg)) (hat199 : cl_o11.slots[((4 : Int32)).toNatClampNeg]? = some (.int w15)) (hin208 : ¬ ((3 : Int32) < 0 ∨ cl_o10.slots.size ≤ ((3 : Int32)).toNatClampNeg)) (hat208 : cl_o10.slots[((3 : Int32)).toNatClampNeg]? = some (.int w16)) (hc59 : z_o11 = (i5 + (3 : Int32))) (hc70 : w6 = (11 : Int32)) (hc84 : w7 = (28 : Int32)) (hc98 : w8 = (13 : Int32)) (hc108 : z_o10 = i5) (hc115 : (0 : Int32) < i5) (hc124 : w9 = i6) (hc133 : w10 = i6) (hc141 : (1 : Int32) < i5) (hc150 : w11 = i7) (hc159 : w12 = i7) (hc167 : (2 : Int32) < i5) (hc176 : w13 = i8) (hc185 : w14 = i8) (hc193 : (3 : Int32) < i5) (hc202 : w15 = i9) (hc211 : w16 = i9) :
    ∃ (T' : State), Stand p l e R s m args below meth c T' locs cells slots ∧ T'.heap = h0 ∧
      ∀ target, Steps p.tables e below (T'.setTop (mkF m 216 #[s0, s1, s2, s3, s4, .val (.int i5), .val (.int i6), .val (.int i7), .val (.int i8), .val (.int i9), .val (.ref o10), .val (.ref o11)] [])) target → Steps p.tables e below (T0.setTop (mkF m 47 #[s0, s1, s2, s3, s4, .val (.int i5), .val (.int i6), .val (.int i7), .val (.int i8), .val (.int i9), .val (.ref o10), .val (.ref o11)] [])) target := by
  refine ⟨T0, X0, e0, fun target kt => ?_⟩
  show Steps p.tables e below (T0.setTop (mkF m 47 #[s0, s1, s2, s3, s4, .val (.int i5), .val (.int i6), .val (.int i7), .val (.int i8), .val (.int i9), .val (.ref o10), .val (.ref o11)] [])) _
  refine XS.aload X0.here hx rfl (hb hby at_47) rfl rfl ?_
  show Steps p.tables e below (T0.setTop (mkF m 49 #[s0, s1, s2, s3, s4, .val (.int i5), .val (.int i6), .val (.int i7), .val (.int i8), .val (.int i9), .val (.ref o10), .val (.ref o11)] [(.ref o11)])) _
  refine XS.ifnullNo X0.here hx rfl (hb hby at_49) rfl ?_
  show Steps p.tables e below (T0.setTop (mkF m 52 #[s0, s1, s2, s3, s4, .val (.int i5), .val (.int i6), .val (.int i7), .val (.int i8), .val (.int i9), .val (.ref o10), .val (.ref o11)] [])) _
  refine XS.aload X0.here hx rfl (hb hby at_52) rfl rfl ?_
  show Steps p.tables e below (T0.setTop (mkF m 54 #[s0, s1, s2, s3, s4, .val (.int i5), .val (.int i6), .val (.int i7), .val (.int i8), .val (.int i9), .val (.ref o10), .val (.ref o11)] [(.ref o11)])) _
  refine X0.arraylength hx (cell := cl_o11) (by rw [e0]; exact Ar_o11.1) (State.isArrayOf_alike hZ.alike Ar_o11.2.1) (g := (mkF m 54 #[s0, s1, s2, s3, s4, .val (.int i5), .val (.int i6), .val (.int i7), .val (.int i8), .val (.int i9), .val (.ref o10), .val (.ref o11)] [(.ref o11)])) rfl rfl (hb hby at_54) _ ?_
  rw [len_of S_o11 N_o11]
  show Steps p.tables e below (T0.setTop (mkF m 55 #[s0, s1, s2, s3, s4, .val (.int i5), .val (.int i6), .val (.int i7), .val (.int i8), .val (.int i9), .val (.ref o10), .val (.ref o11)] [(.int z_o11)])) _
  refine XS.iload X0.here hx rfl (hb hby at_55) rfl ?_
  show Steps p.tables e below (T0.setTop (mkF m 57 #[s0, s1, s2, s3, s4, .val (.int i5), .val (.int i6), .val (.int i7), .val (.int i8), .val (.int i9), .val (.ref o10), .val (.ref o11)] [(.int i5), (.int z_o11)])) _
  refine XS.iconst X0.here hx rfl (hb hby at_57) ?_
  show Steps p.tables e below (T0.setTop (mkF m 58 #[s0, s1, s2, s3, s4, .val (.int i5), .val (.int i6), .val (.int i7), .val (.int i8), .val (.int i9), .val (.ref o10), .val (.ref o11)] [(.int (3 : Int32)), (.int i5), (.int z_o11)])) _
  refine XS.iadd X0.here hx rfl (hb hby at_58) rfl ?_
  show Steps p.tables e below (T0.setTop (mkF m 59 #[s0, s1, s2, s3, s4, .val (.int i5), .val (.int i6), .val (.int i7), .val (.int i8), .val (.int i9), .val (.ref o10), .val (.ref o11)] [(.int (i5 + (3 : Int32))), (.int z_o11)])) _
  refine XS.icmpYes X0.here hx rfl (pc0 := 59) (pc' := 64) rfl (hb hby at_59) rfl (teq hc59).1 (by decide) (by decide) ?_
  show Steps p.tables e below (T0.setTop (mkF m 64 #[s0, s1, s2, s3, s4, .val (.int i5), .val (.int i6), .val (.int i7), .val (.int i8), .val (.int i9), .val (.ref o10), .val (.ref o11)] [])) _
  refine XS.aload X0.here hx rfl (hb hby at_64) rfl rfl ?_
  show Steps p.tables e below (T0.setTop (mkF m 66 #[s0, s1, s2, s3, s4, .val (.int i5), .val (.int i6), .val (.int i7), .val (.int i8), .val (.int i9), .val (.ref o10), .val (.ref o11)] [(.ref o11)])) _
  refine XS.iconst X0.here hx rfl (hb hby at_66) ?_
  show Steps p.tables e below (T0.setTop (mkF m 67 #[s0, s1, s2, s3, s4, .val (.int i5), .val (.int i6), .val (.int i7), .val (.int i8), .val (.int i9), .val (.ref o10), .val (.ref o11)] [(.int (0 : Int32)), (.ref o11)])) _
  refine X0.baloadBytes hx (j := (0 : Int32)) (v := (.int w6)) (by rw [e0]; exact Ar_o11.1) (State.isArrayOf_alike hZ.alike Ar_o11.2.1) Ar_o11.2.2 hin67 hat67 (g := (mkF m 67 #[s0, s1, s2, s3, s4, .val (.int i5), .val (.int i6), .val (.int i7), .val (.int i8), .val (.int i9), .val (.ref o10), .val (.ref o11)] [(.int (0 : Int32)), (.ref o11)])) rfl rfl (hb hby at_67) _ ?_
  show Steps p.tables e below (T0.setTop (mkF m 68 #[s0, s1, s2, s3, s4, .val (.int i5), .val (.int i6), .val (.int i7), .val (.int i8), .val (.int i9), .val (.ref o10), .val (.ref o11)] [(.int w6)])) _
  refine XS.bipush X0.here hx rfl (hb hby at_68) ?_
  show Steps p.tables e below (T0.setTop (mkF m 70 #[s0, s1, s2, s3, s4, .val (.int i5), .val (.int i6), .val (.int i7), .val (.int i8), .val (.int i9), .val (.ref o10), .val (.ref o11)] [(.int (11 : Int32)), (.int w6)])) _
  refine XS.icmpYes X0.here hx rfl (pc0 := 70) (pc' := 75) rfl (hb hby at_70) rfl (teq hc70).1 (by decide) (by decide) ?_
  show Steps p.tables e below (T0.setTop (mkF m 75 #[s0, s1, s2, s3, s4, .val (.int i5), .val (.int i6), .val (.int i7), .val (.int i8), .val (.int i9), .val (.ref o10), .val (.ref o11)] [])) _
  refine XS.aload X0.here hx rfl (hb hby at_75) rfl rfl ?_
  show Steps p.tables e below (T0.setTop (mkF m 77 #[s0, s1, s2, s3, s4, .val (.int i5), .val (.int i6), .val (.int i7), .val (.int i8), .val (.int i9), .val (.ref o10), .val (.ref o11)] [(.ref o11)])) _
  refine XS.iload X0.here hx rfl (hb hby at_77) rfl ?_
  show Steps p.tables e below (T0.setTop (mkF m 79 #[s0, s1, s2, s3, s4, .val (.int i5), .val (.int i6), .val (.int i7), .val (.int i8), .val (.int i9), .val (.ref o10), .val (.ref o11)] [(.int i5), (.ref o11)])) _
  refine XS.iconst X0.here hx rfl (hb hby at_79) ?_
  show Steps p.tables e below (T0.setTop (mkF m 80 #[s0, s1, s2, s3, s4, .val (.int i5), .val (.int i6), .val (.int i7), .val (.int i8), .val (.int i9), .val (.ref o10), .val (.ref o11)] [(.int (1 : Int32)), (.int i5), (.ref o11)])) _
  refine XS.iadd X0.here hx rfl (hb hby at_80) rfl ?_
  show Steps p.tables e below (T0.setTop (mkF m 81 #[s0, s1, s2, s3, s4, .val (.int i5), .val (.int i6), .val (.int i7), .val (.int i8), .val (.int i9), .val (.ref o10), .val (.ref o11)] [(.int (i5 + (1 : Int32))), (.ref o11)])) _
  refine X0.baloadBytes hx (j := (i5 + (1 : Int32))) (v := (.int w7)) (by rw [e0]; exact Ar_o11.1) (State.isArrayOf_alike hZ.alike Ar_o11.2.1) Ar_o11.2.2 hin81 hat81 (g := (mkF m 81 #[s0, s1, s2, s3, s4, .val (.int i5), .val (.int i6), .val (.int i7), .val (.int i8), .val (.int i9), .val (.ref o10), .val (.ref o11)] [(.int (i5 + (1 : Int32))), (.ref o11)])) rfl rfl (hb hby at_81) _ ?_
  show Steps p.tables e below (T0.setTop (mkF m 82 #[s0, s1, s2, s3, s4, .val (.int i5), .val (.int i6), .val (.int i7), .val (.int i8), .val (.int i9), .val (.ref o10), .val (.ref o11)] [(.int w7)])) _
  refine XS.bipush X0.here hx rfl (hb hby at_82) ?_
  show Steps p.tables e below (T0.setTop (mkF m 84 #[s0, s1, s2, s3, s4, .val (.int i5), .val (.int i6), .val (.int i7), .val (.int i8), .val (.int i9), .val (.ref o10), .val (.ref o11)] [(.int (28 : Int32)), (.int w7)])) _
  refine XS.icmpYes X0.here hx rfl (pc0 := 84) (pc' := 89) rfl (hb hby at_84) rfl (teq hc84).1 (by decide) (by decide) ?_
  show Steps p.tables e below (T0.setTop (mkF m 89 #[s0, s1, s2, s3, s4, .val (.int i5), .val (.int i6), .val (.int i7), .val (.int i8), .val (.int i9), .val (.ref o10), .val (.ref o11)] [])) _
  refine XS.aload X0.here hx rfl (hb hby at_89) rfl rfl ?_
  show Steps p.tables e below (T0.setTop (mkF m 91 #[s0, s1, s2, s3, s4, .val (.int i5), .val (.int i6), .val (.int i7), .val (.int i8), .val (.int i9), .val (.ref o10), .val (.ref o11)] [(.ref o11)])) _
  refine XS.iload X0.here hx rfl (hb hby at_91) rfl ?_
  show Steps p.tables e below (T0.setTop (mkF m 93 #[s0, s1, s2, s3, s4, .val (.int i5), .val (.int i6), .val (.int i7), .val (.int i8), .val (.int i9), .val (.ref o10), .val (.ref o11)] [(.int i5), (.ref o11)])) _
  refine XS.iconst X0.here hx rfl (hb hby at_93) ?_
  show Steps p.tables e below (T0.setTop (mkF m 94 #[s0, s1, s2, s3, s4, .val (.int i5), .val (.int i6), .val (.int i7), .val (.int i8), .val (.int i9), .val (.ref o10), .val (.ref o11)] [(.int (2 : Int32)), (.int i5), (.ref o11)])) _
  refine XS.iadd X0.here hx rfl (hb hby at_94) rfl ?_
  show Steps p.tables e below (T0.setTop (mkF m 95 #[s0, s1, s2, s3, s4, .val (.int i5), .val (.int i6), .val (.int i7), .val (.int i8), .val (.int i9), .val (.ref o10), .val (.ref o11)] [(.int (i5 + (2 : Int32))), (.ref o11)])) _
  refine X0.baloadBytes hx (j := (i5 + (2 : Int32))) (v := (.int w8)) (by rw [e0]; exact Ar_o11.1) (State.isArrayOf_alike hZ.alike Ar_o11.2.1) Ar_o11.2.2 hin95 hat95 (g := (mkF m 95 #[s0, s1, s2, s3, s4, .val (.int i5), .val (.int i6), .val (.int i7), .val (.int i8), .val (.int i9), .val (.ref o10), .val (.ref o11)] [(.int (i5 + (2 : Int32))), (.ref o11)])) rfl rfl (hb hby at_95) _ ?_
  show Steps p.tables e below (T0.setTop (mkF m 96 #[s0, s1, s2, s3, s4, .val (.int i5), .val (.int i6), .val (.int i7), .val (.int i8), .val (.int i9), .val (.ref o10), .val (.ref o11)] [(.int w8)])) _
  refine XS.bipush X0.here hx rfl (hb hby at_96) ?_
  show Steps p.tables e below (T0.setTop (mkF m 98 #[s0, s1, s2, s3, s4, .val (.int i5), .val (.int i6), .val (.int i7), .val (.int i8), .val (.int i9), .val (.ref o10), .val (.ref o11)] [(.int (13 : Int32)), (.int w8)])) _
  refine XS.icmpYes X0.here hx rfl (pc0 := 98) (pc' := 103) rfl (hb hby at_98) rfl (teq hc98).1 (by decide) (by decide) ?_
  show Steps p.tables e below (T0.setTop (mkF m 103 #[s0, s1, s2, s3, s4, .val (.int i5), .val (.int i6), .val (.int i7), .val (.int i8), .val (.int i9), .val (.ref o10), .val (.ref o11)] [])) _
  refine XS.aload X0.here hx rfl (hb hby at_103) rfl rfl ?_
  show Steps p.tables e below (T0.setTop (mkF m 105 #[s0, s1, s2, s3, s4, .val (.int i5), .val (.int i6), .val (.int i7), .val (.int i8), .val (.int i9), .val (.ref o10), .val (.ref o11)] [(.ref o10)])) _
  refine X0.arraylength hx (cell := cl_o10) (by rw [e0]; exact Ar_o10.1) (State.isArrayOf_alike hZ.alike Ar_o10.2.1) (g := (mkF m 105 #[s0, s1, s2, s3, s4, .val (.int i5), .val (.int i6), .val (.int i7), .val (.int i8), .val (.int i9), .val (.ref o10), .val (.ref o11)] [(.ref o10)])) rfl rfl (hb hby at_105) _ ?_
  rw [len_of S_o10 N_o10]
  show Steps p.tables e below (T0.setTop (mkF m 106 #[s0, s1, s2, s3, s4, .val (.int i5), .val (.int i6), .val (.int i7), .val (.int i8), .val (.int i9), .val (.ref o10), .val (.ref o11)] [(.int z_o10)])) _
  refine XS.iload X0.here hx rfl (hb hby at_106) rfl ?_
  show Steps p.tables e below (T0.setTop (mkF m 108 #[s0, s1, s2, s3, s4, .val (.int i5), .val (.int i6), .val (.int i7), .val (.int i8), .val (.int i9), .val (.ref o10), .val (.ref o11)] [(.int i5), (.int z_o10)])) _
  refine XS.icmpYes X0.here hx rfl (pc0 := 108) (pc' := 113) rfl (hb hby at_108) rfl (teq hc108).1 (by decide) (by decide) ?_
  show Steps p.tables e below (T0.setTop (mkF m 113 #[s0, s1, s2, s3, s4, .val (.int i5), .val (.int i6), .val (.int i7), .val (.int i8), .val (.int i9), .val (.ref o10), .val (.ref o11)] [])) _
  refine XS.iload X0.here hx rfl (hb hby at_113) rfl ?_
  show Steps p.tables e below (T0.setTop (mkF m 115 #[s0, s1, s2, s3, s4, .val (.int i5), .val (.int i6), .val (.int i7), .val (.int i8), .val (.int i9), .val (.ref o10), .val (.ref o11)] [(.int i5)])) _
  refine XS.ifNo X0.here hx rfl (hb hby at_115) rfl ((if0 _ _).trans (tlt hc115).2.2.2) ?_
  show Steps p.tables e below (T0.setTop (mkF m 118 #[s0, s1, s2, s3, s4, .val (.int i5), .val (.int i6), .val (.int i7), .val (.int i8), .val (.int i9), .val (.ref o10), .val (.ref o11)] [])) _
  refine XS.aload X0.here hx rfl (hb hby at_118) rfl rfl ?_
  show Steps p.tables e below (T0.setTop (mkF m 120 #[s0, s1, s2, s3, s4, .val (.int i5), .val (.int i6), .val (.int i7), .val (.int i8), .val (.int i9), .val (.ref o10), .val (.ref o11)] [(.ref o11)])) _
  refine XS.iconst X0.here hx rfl (hb hby at_120) ?_
  show Steps p.tables e below (T0.setTop (mkF m 121 #[s0, s1, s2, s3, s4, .val (.int i5), .val (.int i6), .val (.int i7), .val (.int i8), .val (.int i9), .val (.ref o10), .val (.ref o11)] [(.int (1 : Int32)), (.ref o11)])) _
  refine X0.baloadBytes hx (j := (1 : Int32)) (v := (.int w9)) (by rw [e0]; exact Ar_o11.1) (State.isArrayOf_alike hZ.alike Ar_o11.2.1) Ar_o11.2.2 hin121 hat121 (g := (mkF m 121 #[s0, s1, s2, s3, s4, .val (.int i5), .val (.int i6), .val (.int i7), .val (.int i8), .val (.int i9), .val (.ref o10), .val (.ref o11)] [(.int (1 : Int32)), (.ref o11)])) rfl rfl (hb hby at_121) _ ?_
  show Steps p.tables e below (T0.setTop (mkF m 122 #[s0, s1, s2, s3, s4, .val (.int i5), .val (.int i6), .val (.int i7), .val (.int i8), .val (.int i9), .val (.ref o10), .val (.ref o11)] [(.int w9)])) _
  refine XS.iload X0.here hx rfl (hb hby at_122) rfl ?_
  show Steps p.tables e below (T0.setTop (mkF m 124 #[s0, s1, s2, s3, s4, .val (.int i5), .val (.int i6), .val (.int i7), .val (.int i8), .val (.int i9), .val (.ref o10), .val (.ref o11)] [(.int i6), (.int w9)])) _
  refine XS.icmpNo X0.here hx rfl (hb hby at_124) rfl (teq hc124).2 ?_
  show Steps p.tables e below (T0.setTop (mkF m 127 #[s0, s1, s2, s3, s4, .val (.int i5), .val (.int i6), .val (.int i7), .val (.int i8), .val (.int i9), .val (.ref o10), .val (.ref o11)] [])) _
  refine XS.aload X0.here hx rfl (hb hby at_127) rfl rfl ?_
  show Steps p.tables e below (T0.setTop (mkF m 129 #[s0, s1, s2, s3, s4, .val (.int i5), .val (.int i6), .val (.int i7), .val (.int i8), .val (.int i9), .val (.ref o10), .val (.ref o11)] [(.ref o10)])) _
  refine XS.iconst X0.here hx rfl (hb hby at_129) ?_
  show Steps p.tables e below (T0.setTop (mkF m 130 #[s0, s1, s2, s3, s4, .val (.int i5), .val (.int i6), .val (.int i7), .val (.int i8), .val (.int i9), .val (.ref o10), .val (.ref o11)] [(.int (0 : Int32)), (.ref o10)])) _
  refine X0.baloadBytes hx (j := (0 : Int32)) (v := (.int w10)) (by rw [e0]; exact Ar_o10.1) (State.isArrayOf_alike hZ.alike Ar_o10.2.1) Ar_o10.2.2 hin130 hat130 (g := (mkF m 130 #[s0, s1, s2, s3, s4, .val (.int i5), .val (.int i6), .val (.int i7), .val (.int i8), .val (.int i9), .val (.ref o10), .val (.ref o11)] [(.int (0 : Int32)), (.ref o10)])) rfl rfl (hb hby at_130) _ ?_
  show Steps p.tables e below (T0.setTop (mkF m 131 #[s0, s1, s2, s3, s4, .val (.int i5), .val (.int i6), .val (.int i7), .val (.int i8), .val (.int i9), .val (.ref o10), .val (.ref o11)] [(.int w10)])) _
  refine XS.iload X0.here hx rfl (hb hby at_131) rfl ?_
  show Steps p.tables e below (T0.setTop (mkF m 133 #[s0, s1, s2, s3, s4, .val (.int i5), .val (.int i6), .val (.int i7), .val (.int i8), .val (.int i9), .val (.ref o10), .val (.ref o11)] [(.int i6), (.int w10)])) _
  refine XS.icmpYes X0.here hx rfl (pc0 := 133) (pc' := 138) rfl (hb hby at_133) rfl (teq hc133).1 (by decide) (by decide) ?_
  show Steps p.tables e below (T0.setTop (mkF m 138 #[s0, s1, s2, s3, s4, .val (.int i5), .val (.int i6), .val (.int i7), .val (.int i8), .val (.int i9), .val (.ref o10), .val (.ref o11)] [])) _
  refine XS.iload X0.here hx rfl (hb hby at_138) rfl ?_
  show Steps p.tables e below (T0.setTop (mkF m 140 #[s0, s1, s2, s3, s4, .val (.int i5), .val (.int i6), .val (.int i7), .val (.int i8), .val (.int i9), .val (.ref o10), .val (.ref o11)] [(.int i5)])) _
  refine XS.iconst X0.here hx rfl (hb hby at_140) ?_
  show Steps p.tables e below (T0.setTop (mkF m 141 #[s0, s1, s2, s3, s4, .val (.int i5), .val (.int i6), .val (.int i7), .val (.int i8), .val (.int i9), .val (.ref o10), .val (.ref o11)] [(.int (1 : Int32)), (.int i5)])) _
  refine XS.icmpNo X0.here hx rfl (hb hby at_141) rfl (tlt hc141).2.2.2 ?_
  show Steps p.tables e below (T0.setTop (mkF m 144 #[s0, s1, s2, s3, s4, .val (.int i5), .val (.int i6), .val (.int i7), .val (.int i8), .val (.int i9), .val (.ref o10), .val (.ref o11)] [])) _
  refine XS.aload X0.here hx rfl (hb hby at_144) rfl rfl ?_
  show Steps p.tables e below (T0.setTop (mkF m 146 #[s0, s1, s2, s3, s4, .val (.int i5), .val (.int i6), .val (.int i7), .val (.int i8), .val (.int i9), .val (.ref o10), .val (.ref o11)] [(.ref o11)])) _
  refine XS.iconst X0.here hx rfl (hb hby at_146) ?_
  show Steps p.tables e below (T0.setTop (mkF m 147 #[s0, s1, s2, s3, s4, .val (.int i5), .val (.int i6), .val (.int i7), .val (.int i8), .val (.int i9), .val (.ref o10), .val (.ref o11)] [(.int (2 : Int32)), (.ref o11)])) _
  refine X0.baloadBytes hx (j := (2 : Int32)) (v := (.int w11)) (by rw [e0]; exact Ar_o11.1) (State.isArrayOf_alike hZ.alike Ar_o11.2.1) Ar_o11.2.2 hin147 hat147 (g := (mkF m 147 #[s0, s1, s2, s3, s4, .val (.int i5), .val (.int i6), .val (.int i7), .val (.int i8), .val (.int i9), .val (.ref o10), .val (.ref o11)] [(.int (2 : Int32)), (.ref o11)])) rfl rfl (hb hby at_147) _ ?_
  show Steps p.tables e below (T0.setTop (mkF m 148 #[s0, s1, s2, s3, s4, .val (.int i5), .val (.int i6), .val (.int i7), .val (.int i8), .val (.int i9), .val (.ref o10), .val (.ref o11)] [(.int w11)])) _
  refine XS.iload X0.here hx rfl (hb hby at_148) rfl ?_
  show Steps p.tables e below (T0.setTop (mkF m 150 #[s0, s1, s2, s3, s4, .val (.int i5), .val (.int i6), .val (.int i7), .val (.int i8), .val (.int i9), .val (.ref o10), .val (.ref o11)] [(.int i7), (.int w11)])) _
  refine XS.icmpNo X0.here hx rfl (hb hby at_150) rfl (teq hc150).2 ?_
  show Steps p.tables e below (T0.setTop (mkF m 153 #[s0, s1, s2, s3, s4, .val (.int i5), .val (.int i6), .val (.int i7), .val (.int i8), .val (.int i9), .val (.ref o10), .val (.ref o11)] [])) _
  refine XS.aload X0.here hx rfl (hb hby at_153) rfl rfl ?_
  show Steps p.tables e below (T0.setTop (mkF m 155 #[s0, s1, s2, s3, s4, .val (.int i5), .val (.int i6), .val (.int i7), .val (.int i8), .val (.int i9), .val (.ref o10), .val (.ref o11)] [(.ref o10)])) _
  refine XS.iconst X0.here hx rfl (hb hby at_155) ?_
  show Steps p.tables e below (T0.setTop (mkF m 156 #[s0, s1, s2, s3, s4, .val (.int i5), .val (.int i6), .val (.int i7), .val (.int i8), .val (.int i9), .val (.ref o10), .val (.ref o11)] [(.int (1 : Int32)), (.ref o10)])) _
  refine X0.baloadBytes hx (j := (1 : Int32)) (v := (.int w12)) (by rw [e0]; exact Ar_o10.1) (State.isArrayOf_alike hZ.alike Ar_o10.2.1) Ar_o10.2.2 hin156 hat156 (g := (mkF m 156 #[s0, s1, s2, s3, s4, .val (.int i5), .val (.int i6), .val (.int i7), .val (.int i8), .val (.int i9), .val (.ref o10), .val (.ref o11)] [(.int (1 : Int32)), (.ref o10)])) rfl rfl (hb hby at_156) _ ?_
  show Steps p.tables e below (T0.setTop (mkF m 157 #[s0, s1, s2, s3, s4, .val (.int i5), .val (.int i6), .val (.int i7), .val (.int i8), .val (.int i9), .val (.ref o10), .val (.ref o11)] [(.int w12)])) _
  refine XS.iload X0.here hx rfl (hb hby at_157) rfl ?_
  show Steps p.tables e below (T0.setTop (mkF m 159 #[s0, s1, s2, s3, s4, .val (.int i5), .val (.int i6), .val (.int i7), .val (.int i8), .val (.int i9), .val (.ref o10), .val (.ref o11)] [(.int i7), (.int w12)])) _
  refine XS.icmpYes X0.here hx rfl (pc0 := 159) (pc' := 164) rfl (hb hby at_159) rfl (teq hc159).1 (by decide) (by decide) ?_
  show Steps p.tables e below (T0.setTop (mkF m 164 #[s0, s1, s2, s3, s4, .val (.int i5), .val (.int i6), .val (.int i7), .val (.int i8), .val (.int i9), .val (.ref o10), .val (.ref o11)] [])) _
  refine XS.iload X0.here hx rfl (hb hby at_164) rfl ?_
  show Steps p.tables e below (T0.setTop (mkF m 166 #[s0, s1, s2, s3, s4, .val (.int i5), .val (.int i6), .val (.int i7), .val (.int i8), .val (.int i9), .val (.ref o10), .val (.ref o11)] [(.int i5)])) _
  refine XS.iconst X0.here hx rfl (hb hby at_166) ?_
  show Steps p.tables e below (T0.setTop (mkF m 167 #[s0, s1, s2, s3, s4, .val (.int i5), .val (.int i6), .val (.int i7), .val (.int i8), .val (.int i9), .val (.ref o10), .val (.ref o11)] [(.int (2 : Int32)), (.int i5)])) _
  refine XS.icmpNo X0.here hx rfl (hb hby at_167) rfl (tlt hc167).2.2.2 ?_
  show Steps p.tables e below (T0.setTop (mkF m 170 #[s0, s1, s2, s3, s4, .val (.int i5), .val (.int i6), .val (.int i7), .val (.int i8), .val (.int i9), .val (.ref o10), .val (.ref o11)] [])) _
  refine XS.aload X0.here hx rfl (hb hby at_170) rfl rfl ?_
  show Steps p.tables e below (T0.setTop (mkF m 172 #[s0, s1, s2, s3, s4, .val (.int i5), .val (.int i6), .val (.int i7), .val (.int i8), .val (.int i9), .val (.ref o10), .val (.ref o11)] [(.ref o11)])) _
  refine XS.iconst X0.here hx rfl (hb hby at_172) ?_
  show Steps p.tables e below (T0.setTop (mkF m 173 #[s0, s1, s2, s3, s4, .val (.int i5), .val (.int i6), .val (.int i7), .val (.int i8), .val (.int i9), .val (.ref o10), .val (.ref o11)] [(.int (3 : Int32)), (.ref o11)])) _
  refine X0.baloadBytes hx (j := (3 : Int32)) (v := (.int w13)) (by rw [e0]; exact Ar_o11.1) (State.isArrayOf_alike hZ.alike Ar_o11.2.1) Ar_o11.2.2 hin173 hat173 (g := (mkF m 173 #[s0, s1, s2, s3, s4, .val (.int i5), .val (.int i6), .val (.int i7), .val (.int i8), .val (.int i9), .val (.ref o10), .val (.ref o11)] [(.int (3 : Int32)), (.ref o11)])) rfl rfl (hb hby at_173) _ ?_
  show Steps p.tables e below (T0.setTop (mkF m 174 #[s0, s1, s2, s3, s4, .val (.int i5), .val (.int i6), .val (.int i7), .val (.int i8), .val (.int i9), .val (.ref o10), .val (.ref o11)] [(.int w13)])) _
  refine XS.iload X0.here hx rfl (hb hby at_174) rfl ?_
  show Steps p.tables e below (T0.setTop (mkF m 176 #[s0, s1, s2, s3, s4, .val (.int i5), .val (.int i6), .val (.int i7), .val (.int i8), .val (.int i9), .val (.ref o10), .val (.ref o11)] [(.int i8), (.int w13)])) _
  refine XS.icmpNo X0.here hx rfl (hb hby at_176) rfl (teq hc176).2 ?_
  show Steps p.tables e below (T0.setTop (mkF m 179 #[s0, s1, s2, s3, s4, .val (.int i5), .val (.int i6), .val (.int i7), .val (.int i8), .val (.int i9), .val (.ref o10), .val (.ref o11)] [])) _
  refine XS.aload X0.here hx rfl (hb hby at_179) rfl rfl ?_
  show Steps p.tables e below (T0.setTop (mkF m 181 #[s0, s1, s2, s3, s4, .val (.int i5), .val (.int i6), .val (.int i7), .val (.int i8), .val (.int i9), .val (.ref o10), .val (.ref o11)] [(.ref o10)])) _
  refine XS.iconst X0.here hx rfl (hb hby at_181) ?_
  show Steps p.tables e below (T0.setTop (mkF m 182 #[s0, s1, s2, s3, s4, .val (.int i5), .val (.int i6), .val (.int i7), .val (.int i8), .val (.int i9), .val (.ref o10), .val (.ref o11)] [(.int (2 : Int32)), (.ref o10)])) _
  refine X0.baloadBytes hx (j := (2 : Int32)) (v := (.int w14)) (by rw [e0]; exact Ar_o10.1) (State.isArrayOf_alike hZ.alike Ar_o10.2.1) Ar_o10.2.2 hin182 hat182 (g := (mkF m 182 #[s0, s1, s2, s3, s4, .val (.int i5), .val (.int i6), .val (.int i7), .val (.int i8), .val (.int i9), .val (.ref o10), .val (.ref o11)] [(.int (2 : Int32)), (.ref o10)])) rfl rfl (hb hby at_182) _ ?_
  show Steps p.tables e below (T0.setTop (mkF m 183 #[s0, s1, s2, s3, s4, .val (.int i5), .val (.int i6), .val (.int i7), .val (.int i8), .val (.int i9), .val (.ref o10), .val (.ref o11)] [(.int w14)])) _
  refine XS.iload X0.here hx rfl (hb hby at_183) rfl ?_
  show Steps p.tables e below (T0.setTop (mkF m 185 #[s0, s1, s2, s3, s4, .val (.int i5), .val (.int i6), .val (.int i7), .val (.int i8), .val (.int i9), .val (.ref o10), .val (.ref o11)] [(.int i8), (.int w14)])) _
  refine XS.icmpYes X0.here hx rfl (pc0 := 185) (pc' := 190) rfl (hb hby at_185) rfl (teq hc185).1 (by decide) (by decide) ?_
  show Steps p.tables e below (T0.setTop (mkF m 190 #[s0, s1, s2, s3, s4, .val (.int i5), .val (.int i6), .val (.int i7), .val (.int i8), .val (.int i9), .val (.ref o10), .val (.ref o11)] [])) _
  refine XS.iload X0.here hx rfl (hb hby at_190) rfl ?_
  show Steps p.tables e below (T0.setTop (mkF m 192 #[s0, s1, s2, s3, s4, .val (.int i5), .val (.int i6), .val (.int i7), .val (.int i8), .val (.int i9), .val (.ref o10), .val (.ref o11)] [(.int i5)])) _
  refine XS.iconst X0.here hx rfl (hb hby at_192) ?_
  show Steps p.tables e below (T0.setTop (mkF m 193 #[s0, s1, s2, s3, s4, .val (.int i5), .val (.int i6), .val (.int i7), .val (.int i8), .val (.int i9), .val (.ref o10), .val (.ref o11)] [(.int (3 : Int32)), (.int i5)])) _
  refine XS.icmpNo X0.here hx rfl (hb hby at_193) rfl (tlt hc193).2.2.2 ?_
  show Steps p.tables e below (T0.setTop (mkF m 196 #[s0, s1, s2, s3, s4, .val (.int i5), .val (.int i6), .val (.int i7), .val (.int i8), .val (.int i9), .val (.ref o10), .val (.ref o11)] [])) _
  refine XS.aload X0.here hx rfl (hb hby at_196) rfl rfl ?_
  show Steps p.tables e below (T0.setTop (mkF m 198 #[s0, s1, s2, s3, s4, .val (.int i5), .val (.int i6), .val (.int i7), .val (.int i8), .val (.int i9), .val (.ref o10), .val (.ref o11)] [(.ref o11)])) _
  refine XS.iconst X0.here hx rfl (hb hby at_198) ?_
  show Steps p.tables e below (T0.setTop (mkF m 199 #[s0, s1, s2, s3, s4, .val (.int i5), .val (.int i6), .val (.int i7), .val (.int i8), .val (.int i9), .val (.ref o10), .val (.ref o11)] [(.int (4 : Int32)), (.ref o11)])) _
  refine X0.baloadBytes hx (j := (4 : Int32)) (v := (.int w15)) (by rw [e0]; exact Ar_o11.1) (State.isArrayOf_alike hZ.alike Ar_o11.2.1) Ar_o11.2.2 hin199 hat199 (g := (mkF m 199 #[s0, s1, s2, s3, s4, .val (.int i5), .val (.int i6), .val (.int i7), .val (.int i8), .val (.int i9), .val (.ref o10), .val (.ref o11)] [(.int (4 : Int32)), (.ref o11)])) rfl rfl (hb hby at_199) _ ?_
  show Steps p.tables e below (T0.setTop (mkF m 200 #[s0, s1, s2, s3, s4, .val (.int i5), .val (.int i6), .val (.int i7), .val (.int i8), .val (.int i9), .val (.ref o10), .val (.ref o11)] [(.int w15)])) _
  refine XS.iload X0.here hx rfl (hb hby at_200) rfl ?_
  show Steps p.tables e below (T0.setTop (mkF m 202 #[s0, s1, s2, s3, s4, .val (.int i5), .val (.int i6), .val (.int i7), .val (.int i8), .val (.int i9), .val (.ref o10), .val (.ref o11)] [(.int i9), (.int w15)])) _
  refine XS.icmpNo X0.here hx rfl (hb hby at_202) rfl (teq hc202).2 ?_
  show Steps p.tables e below (T0.setTop (mkF m 205 #[s0, s1, s2, s3, s4, .val (.int i5), .val (.int i6), .val (.int i7), .val (.int i8), .val (.int i9), .val (.ref o10), .val (.ref o11)] [])) _
  refine XS.aload X0.here hx rfl (hb hby at_205) rfl rfl ?_
  show Steps p.tables e below (T0.setTop (mkF m 207 #[s0, s1, s2, s3, s4, .val (.int i5), .val (.int i6), .val (.int i7), .val (.int i8), .val (.int i9), .val (.ref o10), .val (.ref o11)] [(.ref o10)])) _
  refine XS.iconst X0.here hx rfl (hb hby at_207) ?_
  show Steps p.tables e below (T0.setTop (mkF m 208 #[s0, s1, s2, s3, s4, .val (.int i5), .val (.int i6), .val (.int i7), .val (.int i8), .val (.int i9), .val (.ref o10), .val (.ref o11)] [(.int (3 : Int32)), (.ref o10)])) _
  refine X0.baloadBytes hx (j := (3 : Int32)) (v := (.int w16)) (by rw [e0]; exact Ar_o10.1) (State.isArrayOf_alike hZ.alike Ar_o10.2.1) Ar_o10.2.2 hin208 hat208 (g := (mkF m 208 #[s0, s1, s2, s3, s4, .val (.int i5), .val (.int i6), .val (.int i7), .val (.int i8), .val (.int i9), .val (.ref o10), .val (.ref o11)] [(.int (3 : Int32)), (.ref o10)])) rfl rfl (hb hby at_208) _ ?_
  show Steps p.tables e below (T0.setTop (mkF m 209 #[s0, s1, s2, s3, s4, .val (.int i5), .val (.int i6), .val (.int i7), .val (.int i8), .val (.int i9), .val (.ref o10), .val (.ref o11)] [(.int w16)])) _
  refine XS.iload X0.here hx rfl (hb hby at_209) rfl ?_
  show Steps p.tables e below (T0.setTop (mkF m 211 #[s0, s1, s2, s3, s4, .val (.int i5), .val (.int i6), .val (.int i7), .val (.int i8), .val (.int i9), .val (.ref o10), .val (.ref o11)] [(.int i9), (.int w16)])) _
  refine XS.icmpYes X0.here hx rfl (pc0 := 211) (pc' := 216) rfl (hb hby at_211) rfl (teq hc211).1 (by decide) (by decide) ?_
  exact kt
set_option maxRecDepth 65536 in
set_option maxHeartbeats 40000000 in
theorem tn0_w4 {p : Program} {l : Launch} {e : Env} {s : State} {m : MethodId} {args : Array Value} {below : List Frame} {meth : Method} {c : Code} {T0 : State} {locs : List Loc} {Z : State} {a0 : Array Value} {h0 : Heap} (s0 s1 s2 s3 s4 : Slot) (y1 y2 y3 y4 : Int32) (n0 : Nat)
    (X0 : Stand p l e room_1 s m args below meth c T0 locs 0 0) (hx : p.tables.exec = Jvm.exec) (hZ : Z.Warmed39 s.vm) (hw : ∀ d ∈ tables_1, d.before a0 Z = true) (hby : c.code = code) (hml : c.maxLocals = 12) (hown : s.vm.findClass "com/example/concordat/concordat/identity/MllpFramePinLaw" = some m.cls) (e0 : T0.heap = h0) (N0 : Fr n0 locs) (Z0 : n0 ≤ h0.size) :
    ∃ (T' : State) (L : List Loc) (b6 b7 : Addr), Stand p l e room_1 s m args below meth c T' L 2 11 ∧ Fr n0 L ∧
      ∀ target, Steps p.tables e below (T'.setTop (mkF m 216 #[s0, s1, s2, s3, s4, .val (.int (4 : Int32)), .val (.int (own_b y1)), .val (.int (own_b y2)), .val (.int (own_b y3)), .val (.int (own_b y4)), .val (.ref b6), .val (.ref b7)] [])) target → Steps p.tables e below (T0.setTop (mkF m 25 #[s0, s1, s2, s3, s4, .val (.int (4 : Int32)), .val (.int (own_b y1)), .val (.int (own_b y2)), .val (.int (own_b y3)), .val (.int (own_b y4)), .unset, .unset] [])) target := by
  obtain ⟨_, _, ⟨T6, L6, k6, n6⟩, -, X6, ⟨Lc6, hQ6, l6, y6, z6⟩, st6⟩ := Jvm.LawKit.callS X0 hx (y := (⟨"com/example/concordat/concordat/identity/MllpFramePinLaw", "make", "(IBBBB)[B"⟩ : MethodName)) hown (mvT hZ (hw _ (List.mem_of_getElem? (i := 0) rfl))) (mvT hZ (hw _ (List.mem_of_getElem? (i := 1) rfl))) (mvT hZ (hw _ (List.mem_of_getElem? (i := 2) rfl))) (mvT hZ (hw _ (List.mem_of_getElem? (i := 3) rfl))) (by decide) (backOf (W := 0) (rm1_4 l Z a0 hw [] (own_b y1) (own_b y2) (own_b y3) (own_b y4) h0 n0 Z0) hZ (hw _ (List.mem_of_getElem? (i := 3) rfl)) (hw _ (List.mem_of_getElem? (i := 2) rfl)) (by decide) (by decide)) (g := (mkF m 35 #[s0, s1, s2, s3, s4, .val (.int (4 : Int32)), .val (.int (own_b y1)), .val (.int (own_b y2)), .val (.int (own_b y3)), .val (.int (own_b y4)), .unset, .unset] [(.int (own_b y4)), (.int (own_b y3)), (.int (own_b y2)), (.int (own_b y1)), (.int (4 : Int32))])) rfl (by rw [hml]; rfl) (argsL := [(.int (4 : Int32)), (.int (own_b y1)), (.int (own_b y2)), (.int (own_b y3)), (.int (own_b y4))]) (rest := []) (lenOf pd_0_0 rfl) rfl (by show 2 * 0 + _ ≤ _; exact Nat.le_of_eq rfl) (hb hby at_35) (fun _ _ => ⟨rfl, e0, (by decide : 0 + 1 ≤ _), (by decide : 0 + 4 ≤ _)⟩)
  dsimp only [Pt.U, Pt.locs, Pt.cells, Pt.slots] at X6 l6 y6 z6 st6 hQ6
  subst l6 y6 z6
  obtain ⟨b6, ka6, rfl, N6q, K6, sz6, V6⟩ := hQ6
  have N6 := Fr.app N0 N6q
  obtain ⟨_, _, ⟨T7, L7, k7, n7⟩, -, X7, ⟨Lc7, hQ7, l7, y7, z7⟩, st7⟩ := Jvm.LawKit.callS X6 hx (y := (⟨"com/example/concordat/concordat/identity/Mllp", "frame", "([B)[B"⟩ : MethodName)) hown (mvT hZ (hw _ (List.mem_of_getElem? (i := 5) rfl))) (mvT hZ (hw _ (List.mem_of_getElem? (i := 6) rfl))) (mvT hZ (hw _ (List.mem_of_getElem? (i := 7) rfl))) (mvT hZ (hw _ (List.mem_of_getElem? (i := 8) rfl))) (by decide) (backOf (W := 0) (rm2_4 l Z a0 hw [] b6 ka6 (.int (own_b (own_b y1))) (.int (own_b (own_b y2))) (.int (own_b (own_b y3))) (.int (own_b (own_b y4))) T6.heap n0 (Nat.le_trans Z0 K6.1) V6) hZ (hw _ (List.mem_of_getElem? (i := 8) rfl)) (hw _ (List.mem_of_getElem? (i := 7) rfl)) (by decide) (by decide)) (g := (mkF m 42 #[s0, s1, s2, s3, s4, .val (.int (4 : Int32)), .val (.int (own_b y1)), .val (.int (own_b y2)), .val (.int (own_b y3)), .val (.int (own_b y4)), .val (.ref b6), .unset] [(.ref b6)])) rfl (by rw [hml]; rfl) (argsL := [(.ref b6)]) (rest := []) (lenOf pd_0_1 rfl) rfl (by show 2 * 0 + _ ≤ _; exact Nat.le_of_eq rfl) (hb hby at_42) (fun _ _ => ⟨rfl, rfl, (by decide : 1 + 1 ≤ _), (by decide : 4 + 7 ≤ _)⟩)
  dsimp only [Pt.U, Pt.locs, Pt.cells, Pt.slots] at X7 l7 y7 z7 st7 hQ7
  subst l7 y7 z7
  obtain ⟨b7, ka7, rfl, N7q, K7, V7⟩ := hQ7
  obtain ⟨cl6, Ar6, -, S6, -, H6, -⟩ := V6.keep K7 (by simp)
  obtain ⟨cl7, Ar7, -, S7, -, H7, -⟩ := V7
  have N7 := Fr.app N6 N7q
  obtain ⟨T8, X8, e8, st8⟩ := tn0_l4 s0 s1 s2 s3 s4 (4 : Int32) (own_b y1) (own_b y2) (own_b y3) (own_b y4) b6 b7 cl7 ((4 : Int32) + (3 : Int32)) (own_b (11 : Int32)) (own_b (28 : Int32)) (own_b (13 : Int32)) cl6 (4 : Int32) (own_b (own_b y1)) (own_b (own_b y1)) (own_b (own_b y2)) (own_b (own_b y2)) (own_b (own_b y3)) (own_b (own_b y3)) (own_b (own_b y4)) (own_b (own_b y4)) X7 hx hZ hw hby hml hown rfl Ar7 S7 (by decide) (inb_of S7 ⟨by decide, by decide⟩) (H7 0 (by rw [S7]; decide)) (inb_of S7 ⟨by decide, by decide⟩) (H7 5 (by rw [S7]; decide)) (inb_of S7 ⟨by decide, by decide⟩) (H7 6 (by rw [S7]; decide)) Ar6 S6 (by decide) (inb_of S7 ⟨by decide, by decide⟩) (H7 1 (by rw [S7]; decide)) (inb_of S6 ⟨by decide, by decide⟩) (H6 0 (by rw [S6]; decide)) (inb_of S7 ⟨by decide, by decide⟩) (H7 2 (by rw [S7]; decide)) (inb_of S6 ⟨by decide, by decide⟩) (H6 1 (by rw [S6]; decide)) (inb_of S7 ⟨by decide, by decide⟩) (H7 3 (by rw [S7]; decide)) (inb_of S6 ⟨by decide, by decide⟩) (H6 2 (by rw [S6]; decide)) (inb_of S7 ⟨by decide, by decide⟩) (H7 4 (by rw [S7]; decide)) (inb_of S6 ⟨by decide, by decide⟩) (H6 3 (by rw [S6]; decide)) (by decide) (by decide) (by decide) (by decide) (by decide) (by decide) (own_bb _) (own_bb _) (by decide) (own_bb _) (own_bb _) (by decide) (own_bb _) (own_bb _) (by decide) (own_bb _) (own_bb _)
  refine ⟨T8, _, b6, b7, X8, N7, fun target kt => ?_⟩
  show Steps p.tables e below (T0.setTop (mkF m 25 #[s0, s1, s2, s3, s4, .val (.int (4 : Int32)), .val (.int (own_b y1)), .val (.int (own_b y2)), .val (.int (own_b y3)), .val (.int (own_b y4)), .unset, .unset] [])) _
  refine XS.iload X0.here hx rfl (hb hby at_25) rfl ?_
  show Steps p.tables e below (T0.setTop (mkF m 27 #[s0, s1, s2, s3, s4, .val (.int (4 : Int32)), .val (.int (own_b y1)), .val (.int (own_b y2)), .val (.int (own_b y3)), .val (.int (own_b y4)), .unset, .unset] [(.int (4 : Int32))])) _
  refine XS.iload X0.here hx rfl (hb hby at_27) rfl ?_
  show Steps p.tables e below (T0.setTop (mkF m 29 #[s0, s1, s2, s3, s4, .val (.int (4 : Int32)), .val (.int (own_b y1)), .val (.int (own_b y2)), .val (.int (own_b y3)), .val (.int (own_b y4)), .unset, .unset] [(.int (own_b y1)), (.int (4 : Int32))])) _
  refine XS.iload X0.here hx rfl (hb hby at_29) rfl ?_
  show Steps p.tables e below (T0.setTop (mkF m 31 #[s0, s1, s2, s3, s4, .val (.int (4 : Int32)), .val (.int (own_b y1)), .val (.int (own_b y2)), .val (.int (own_b y3)), .val (.int (own_b y4)), .unset, .unset] [(.int (own_b y2)), (.int (own_b y1)), (.int (4 : Int32))])) _
  refine XS.iload X0.here hx rfl (hb hby at_31) rfl ?_
  show Steps p.tables e below (T0.setTop (mkF m 33 #[s0, s1, s2, s3, s4, .val (.int (4 : Int32)), .val (.int (own_b y1)), .val (.int (own_b y2)), .val (.int (own_b y3)), .val (.int (own_b y4)), .unset, .unset] [(.int (own_b y3)), (.int (own_b y2)), (.int (own_b y1)), (.int (4 : Int32))])) _
  refine XS.iload X0.here hx rfl (hb hby at_33) rfl ?_
  show Steps p.tables e below (T0.setTop (mkF m 35 #[s0, s1, s2, s3, s4, .val (.int (4 : Int32)), .val (.int (own_b y1)), .val (.int (own_b y2)), .val (.int (own_b y3)), .val (.int (own_b y4)), .unset, .unset] [(.int (own_b y4)), (.int (own_b y3)), (.int (own_b y2)), (.int (own_b y1)), (.int (4 : Int32))])) _
  refine st6 _ ?_
  show Steps p.tables e below (T6.setTop (mkF m 38 #[s0, s1, s2, s3, s4, .val (.int (4 : Int32)), .val (.int (own_b y1)), .val (.int (own_b y2)), .val (.int (own_b y3)), .val (.int (own_b y4)), .unset, .unset] [(.ref b6)])) _
  refine XS.astore X6.here hx rfl (hb hby at_38) rfl rfl (l' := #[s0, s1, s2, s3, s4, .val (.int (4 : Int32)), .val (.int (own_b y1)), .val (.int (own_b y2)), .val (.int (own_b y3)), .val (.int (own_b y4)), .val (.ref b6), .unset]) rfl ?_
  show Steps p.tables e below (T6.setTop (mkF m 40 #[s0, s1, s2, s3, s4, .val (.int (4 : Int32)), .val (.int (own_b y1)), .val (.int (own_b y2)), .val (.int (own_b y3)), .val (.int (own_b y4)), .val (.ref b6), .unset] [])) _
  refine XS.aload X6.here hx rfl (hb hby at_40) rfl rfl ?_
  show Steps p.tables e below (T6.setTop (mkF m 42 #[s0, s1, s2, s3, s4, .val (.int (4 : Int32)), .val (.int (own_b y1)), .val (.int (own_b y2)), .val (.int (own_b y3)), .val (.int (own_b y4)), .val (.ref b6), .unset] [(.ref b6)])) _
  refine st7 _ ?_
  show Steps p.tables e below (T7.setTop (mkF m 45 #[s0, s1, s2, s3, s4, .val (.int (4 : Int32)), .val (.int (own_b y1)), .val (.int (own_b y2)), .val (.int (own_b y3)), .val (.int (own_b y4)), .val (.ref b6), .unset] [(.ref b7)])) _
  refine XS.astore X7.here hx rfl (hb hby at_45) rfl rfl (l' := #[s0, s1, s2, s3, s4, .val (.int (4 : Int32)), .val (.int (own_b y1)), .val (.int (own_b y2)), .val (.int (own_b y3)), .val (.int (own_b y4)), .val (.ref b6), .val (.ref b7)]) rfl ?_
  exact st8 _ kt
theorem pn_0 : plainName "com/example/concordat/concordat/identity/MllpFramePinLaw" = true := by first | (simp [plainName, overriddenIn]; done) | decide +kernel
theorem ef_0 (m : MethodId) (x0 : Int32) (x1 : Int32) (x2 : Int32) (x3 : Int32) (x4 : Int32) : entryFrame m #[(.int x0), (.int x1), (.int x2), (.int x3), (.int x4)] maxLocals = mkF m 0 #[.val (.int x0), .val (.int x1), .val (.int x2), .val (.int x3), .val (.int x4), .unset, .unset, .unset, .unset, .unset, .unset, .unset] [] := by first | (simp [entryFrame, mkF, argsToLocals, Value.category, maxLocals]; done) | rfl
def Q0 (Z : State) (p1 : Int32) (p2 : Int32) (p3 : Int32) (p4 : Int32) (p5 : Int32) (h0 : Heap) (n0 : Nat) (v : Option Value) (h : Heap) (L : List Loc) : Prop := v = some (.int (1 : Int32)) ∧ Fr n0 L
set_option maxRecDepth 65536 in
set_option maxHeartbeats 40000000 in
theorem rm0 (l : Launch) (Z : State) (a0 : Array Value) (hw : ∀ d ∈ tables_1, d.before a0 Z = true) (ws : List Jvm.Cond) (p1 : Int32) (p2 : Int32) (p3 : Int32) (p4 : Int32) (p5 : Int32) (h0 : Heap) (n0 : Nat) (Z0 : n0 ≤ h0.size) :
    MetFree l x (head1 (Jvm.Cond.code x code maxLocals ret :: ws) room_1) (fun a U => a = #[(.int p1), (.int p2), (.int p3), (.int p4), (.int p5)] ∧ Z.Warmed39 U.vm ∧ U.heap = h0) (fun _ _ _ _ _ => True) (fun _ U o U' => ∃ v L, o = .returned v ∧ Q0 Z p1 p2 p3 p4 p5 h0 n0 v U'.heap L ∧ FrameEnd U o U' L room_1.cells room_1.slots) := by
  refine MetFree.of_bodySF (plainFor_of_name pn_0) hisR ?_
  intro p e s m args below meth c s₁ Bd hml0 hP hK
  obtain ⟨rfl, hZ, hh⟩ := hP
  have hx := Bd.exec
  have hby := Bd.bytes
  have hml : c.maxLocals = 12 := hml0
  have hown : s.vm.findClass "com/example/concordat/concordat/identity/MllpFramePinLaw" = some m.cls := findClass_of_methodNamed Bd.named
  have hnm := (name_of_methodNamed Bd.named Bd.method).1
  have X0 : Stand p l e room_1 s m #[(.int p1), (.int p2), (.int p3), (.int p4), (.int p5)] below meth c s₁ [] 0 0 := Stand.of_body Bd
  have e0 : s₁.heap = h0 := by rw [← hh, Bd.state]; rfl
  have N0 := Fr.nil n0
  have pre0 : ∀ t, Steps p.tables e below (s₁.setTop (mkF m 0 #[.val (.int p1), .val (.int p2), .val (.int p3), .val (.int p4), .val (.int p5), .unset, .unset, .unset, .unset, .unset, .unset, .unset] [])) t → Steps p.tables e below (s₁.setTop (entryFrame m #[(.int p1), (.int p2), (.int p3), (.int p4), (.int p5)] maxLocals)) t := fun t k => castTop (ef_0 m p1 p2 p3 p4 p5) k
  obtain ⟨T1, L1, b6, b7, X1, N1, st1⟩ : ∃ (T' : State) (L : List Loc) (b6 b7 : Addr), Stand p l e room_1 s m #[(.int p1), (.int p2), (.int p3), (.int p4), (.int p5)] below meth c T' L 2 11 ∧ Fr n0 L ∧ ∀ target, Steps p.tables e below (T'.setTop (mkF m 216 #[.val (.int p1), .val (.int p2), .val (.int p3), .val (.int p4), .val (.int p5), .val (.int (own_n p1)), .val (.int (own_b p2)), .val (.int (own_b p3)), .val (.int (own_b p4)), .val (.int (own_b p5)), .val (.ref b6), .val (.ref b7)] [])) target → Steps p.tables e below (s₁.setTop (mkF m 25 #[.val (.int p1), .val (.int p2), .val (.int p3), .val (.int p4), .val (.int p5), .val (.int (own_n p1)), .val (.int (own_b p2)), .val (.int (own_b p3)), .val (.int (own_b p4)), .val (.int (own_b p5)), .unset, .unset] [])) target := by
    have hz := own_n5 p1
    generalize own_n p1 = z at hz ⊢
    rcases hz with rfl | rfl | rfl | rfl | rfl
    · exact tn0_w0 _ _ _ _ _ p2 p3 p4 p5 n0 X0 hx hZ hw hby hml hown e0 N0 Z0
    · exact tn0_w1 _ _ _ _ _ p2 p3 p4 p5 n0 X0 hx hZ hw hby hml hown e0 N0 Z0
    · exact tn0_w2 _ _ _ _ _ p2 p3 p4 p5 n0 X0 hx hZ hw hby hml hown e0 N0 Z0
    · exact tn0_w3 _ _ _ _ _ p2 p3 p4 p5 n0 X0 hx hZ hw hby hml hown e0 N0 Z0
    · exact tn0_w4 _ _ _ _ _ p2 p3 p4 p5 n0 X0 hx hZ hw hby hml hown e0 N0 Z0
  obtain ⟨fs, hr, hrun, hended, hW, hsame⟩ := X1.leave (v := some (.int (1 : Int32))) (fun h => by rw [Bd.returns] at h; cases h)
  refine ⟨_, _, pre0 _ ?_, hrun, hended, _, _, rfl, ?_, ⟨_, rfl⟩, hW, hsame.mono (by decide) (by decide)⟩
  · show Steps p.tables e below (s₁.setTop (mkF m 0 #[.val (.int p1), .val (.int p2), .val (.int p3), .val (.int p4), .val (.int p5), .unset, .unset, .unset, .unset, .unset, .unset, .unset] [])) _
    refine XS.iloadN X0.here hx rfl (hb hby at_0) rfl ?_
    show Steps p.tables e below (s₁.setTop (mkF m 1 #[.val (.int p1), .val (.int p2), .val (.int p3), .val (.int p4), .val (.int p5), .unset, .unset, .unset, .unset, .unset, .unset, .unset] [(.int p1)])) _
    refine XS.bipush X0.here hx rfl (hb hby at_1) ?_
    show Steps p.tables e below (s₁.setTop (mkF m 3 #[.val (.int p1), .val (.int p2), .val (.int p3), .val (.int p4), .val (.int p5), .unset, .unset, .unset, .unset, .unset, .unset, .unset] [(.int (7 : Int32)), (.int p1)])) _
    refine XS.iand X0.here hx rfl (hb hby at_3) rfl ?_
    show Steps p.tables e below (s₁.setTop (mkF m 4 #[.val (.int p1), .val (.int p2), .val (.int p3), .val (.int p4), .val (.int p5), .unset, .unset, .unset, .unset, .unset, .unset, .unset] [(.int (p1 &&& (7 : Int32)))])) _
    refine XS.iconst X0.here hx rfl (hb hby at_4) ?_
    show Steps p.tables e below (s₁.setTop (mkF m 5 #[.val (.int p1), .val (.int p2), .val (.int p3), .val (.int p4), .val (.int p5), .unset, .unset, .unset, .unset, .unset, .unset, .unset] [(.int (5 : Int32)), (.int (p1 &&& (7 : Int32)))])) _
    refine XS.irem X0.here hx rfl (hb hby at_5) rfl (by decide) ?_
    show Steps p.tables e below (s₁.setTop (mkF m 6 #[.val (.int p1), .val (.int p2), .val (.int p3), .val (.int p4), .val (.int p5), .unset, .unset, .unset, .unset, .unset, .unset, .unset] [(.int (own_n p1))])) _
    refine XS.istore X0.here hx rfl (hb hby at_6) rfl (l' := #[.val (.int p1), .val (.int p2), .val (.int p3), .val (.int p4), .val (.int p5), .val (.int (own_n p1)), .unset, .unset, .unset, .unset, .unset, .unset]) rfl ?_
    show Steps p.tables e below (s₁.setTop (mkF m 8 #[.val (.int p1), .val (.int p2), .val (.int p3), .val (.int p4), .val (.int p5), .val (.int (own_n p1)), .unset, .unset, .unset, .unset, .unset, .unset] [])) _
    refine XS.iloadN X0.here hx rfl (hb hby at_8) rfl ?_
    show Steps p.tables e below (s₁.setTop (mkF m 9 #[.val (.int p1), .val (.int p2), .val (.int p3), .val (.int p4), .val (.int p5), .val (.int (own_n p1)), .unset, .unset, .unset, .unset, .unset, .unset] [(.int p2)])) _
    refine XS.i2b X0.here hx rfl (hb hby at_9) rfl ?_
    show Steps p.tables e below (s₁.setTop (mkF m 10 #[.val (.int p1), .val (.int p2), .val (.int p3), .val (.int p4), .val (.int p5), .val (.int (own_n p1)), .unset, .unset, .unset, .unset, .unset, .unset] [(.int (p2.toInt8.toInt32))])) _
    refine XS.istore X0.here hx rfl (hb hby at_10) rfl (l' := #[.val (.int p1), .val (.int p2), .val (.int p3), .val (.int p4), .val (.int p5), .val (.int (own_n p1)), .val (.int (p2.toInt8.toInt32)), .unset, .unset, .unset, .unset, .unset]) rfl ?_
    show Steps p.tables e below (s₁.setTop (mkF m 12 #[.val (.int p1), .val (.int p2), .val (.int p3), .val (.int p4), .val (.int p5), .val (.int (own_n p1)), .val (.int (p2.toInt8.toInt32)), .unset, .unset, .unset, .unset, .unset] [])) _
    refine XS.iloadN X0.here hx rfl (hb hby at_12) rfl ?_
    show Steps p.tables e below (s₁.setTop (mkF m 13 #[.val (.int p1), .val (.int p2), .val (.int p3), .val (.int p4), .val (.int p5), .val (.int (own_n p1)), .val (.int (p2.toInt8.toInt32)), .unset, .unset, .unset, .unset, .unset] [(.int p3)])) _
    refine XS.i2b X0.here hx rfl (hb hby at_13) rfl ?_
    show Steps p.tables e below (s₁.setTop (mkF m 14 #[.val (.int p1), .val (.int p2), .val (.int p3), .val (.int p4), .val (.int p5), .val (.int (own_n p1)), .val (.int (p2.toInt8.toInt32)), .unset, .unset, .unset, .unset, .unset] [(.int (p3.toInt8.toInt32))])) _
    refine XS.istore X0.here hx rfl (hb hby at_14) rfl (l' := #[.val (.int p1), .val (.int p2), .val (.int p3), .val (.int p4), .val (.int p5), .val (.int (own_n p1)), .val (.int (p2.toInt8.toInt32)), .val (.int (p3.toInt8.toInt32)), .unset, .unset, .unset, .unset]) rfl ?_
    show Steps p.tables e below (s₁.setTop (mkF m 16 #[.val (.int p1), .val (.int p2), .val (.int p3), .val (.int p4), .val (.int p5), .val (.int (own_n p1)), .val (.int (p2.toInt8.toInt32)), .val (.int (p3.toInt8.toInt32)), .unset, .unset, .unset, .unset] [])) _
    refine XS.iloadN X0.here hx rfl (hb hby at_16) rfl ?_
    show Steps p.tables e below (s₁.setTop (mkF m 17 #[.val (.int p1), .val (.int p2), .val (.int p3), .val (.int p4), .val (.int p5), .val (.int (own_n p1)), .val (.int (p2.toInt8.toInt32)), .val (.int (p3.toInt8.toInt32)), .unset, .unset, .unset, .unset] [(.int p4)])) _
    refine XS.i2b X0.here hx rfl (hb hby at_17) rfl ?_
    show Steps p.tables e below (s₁.setTop (mkF m 18 #[.val (.int p1), .val (.int p2), .val (.int p3), .val (.int p4), .val (.int p5), .val (.int (own_n p1)), .val (.int (p2.toInt8.toInt32)), .val (.int (p3.toInt8.toInt32)), .unset, .unset, .unset, .unset] [(.int (p4.toInt8.toInt32))])) _
    refine XS.istore X0.here hx rfl (hb hby at_18) rfl (l' := #[.val (.int p1), .val (.int p2), .val (.int p3), .val (.int p4), .val (.int p5), .val (.int (own_n p1)), .val (.int (p2.toInt8.toInt32)), .val (.int (p3.toInt8.toInt32)), .val (.int (p4.toInt8.toInt32)), .unset, .unset, .unset]) rfl ?_
    show Steps p.tables e below (s₁.setTop (mkF m 20 #[.val (.int p1), .val (.int p2), .val (.int p3), .val (.int p4), .val (.int p5), .val (.int (own_n p1)), .val (.int (p2.toInt8.toInt32)), .val (.int (p3.toInt8.toInt32)), .val (.int (p4.toInt8.toInt32)), .unset, .unset, .unset] [])) _
    refine XS.iload X0.here hx rfl (hb hby at_20) rfl ?_
    show Steps p.tables e below (s₁.setTop (mkF m 22 #[.val (.int p1), .val (.int p2), .val (.int p3), .val (.int p4), .val (.int p5), .val (.int (own_n p1)), .val (.int (p2.toInt8.toInt32)), .val (.int (p3.toInt8.toInt32)), .val (.int (p4.toInt8.toInt32)), .unset, .unset, .unset] [(.int p5)])) _
    refine XS.i2b X0.here hx rfl (hb hby at_22) rfl ?_
    show Steps p.tables e below (s₁.setTop (mkF m 23 #[.val (.int p1), .val (.int p2), .val (.int p3), .val (.int p4), .val (.int p5), .val (.int (own_n p1)), .val (.int (p2.toInt8.toInt32)), .val (.int (p3.toInt8.toInt32)), .val (.int (p4.toInt8.toInt32)), .unset, .unset, .unset] [(.int (p5.toInt8.toInt32))])) _
    refine XS.istore X0.here hx rfl (hb hby at_23) rfl (l' := #[.val (.int p1), .val (.int p2), .val (.int p3), .val (.int p4), .val (.int p5), .val (.int (own_n p1)), .val (.int (p2.toInt8.toInt32)), .val (.int (p3.toInt8.toInt32)), .val (.int (p4.toInt8.toInt32)), .val (.int (p5.toInt8.toInt32)), .unset, .unset]) rfl ?_
    refine st1 _ ?_
    refine XS.iconst X1.here hx rfl (hb hby at_216) ?_
    exact retN X1 hx (t := .boolean) Bd.returns (by simp) (hb hby at_217) hr
  · exact ⟨rfl, N1⟩
set_option maxRecDepth 65536 in
set_option maxHeartbeats 40000000 in
theorem comes_1 {Post : Tables → Env → Array Value → State → Outcome → State → Prop} (hpost : ∀ tb e args s v u, (limb_1_1.after args s (.returned v) u = true ∧ limb_1_2.after args s (.returned v) u = true ∧ True) → FrameEnd s (.returned v) u (Jvm.fieldLocs frame_1_writes args s ++ Jvm.arrayLocs frame_1_arrays args s ++ Jvm.staticLocs frame_1_statics s) 16 128 → Post tb e args s (.returned v) u) :
    ArmFor flags0 classFile x code maxLocals ret World_1 tables_1 room_1 Calls_1 rest_1 Pre_1 Post := by
  intro l hfl _ _ p e ha hc hk s m args below hf hA hF happ hP
  obtain ⟨hcalls, hrest, hpre⟩ := hP
  obtain ⟨-, -, -, hnamed, -, -, -, hat⟩ := (Spec.applies_iff hf).mp happ
  obtain ⟨hg, hn⟩ := and_e (Cond.before_iff.mp (show (Jvm.Cond.and given_1 narrow_1).before args s = true from hpre))
  obtain ⟨g0, r0⟩ := and_e hg
  obtain ⟨g1, r1⟩ := and_e r0
  obtain ⟨g2, r2⟩ := and_e r1
  obtain ⟨g3, r3⟩ := and_e r2
  obtain ⟨g4, g5⟩ := and_e r3
  obtain ⟨w0, w1, w2, w3, w4, rfl⟩ : ∃ w0 w1 w2 w3 w4 : Value, args = #[w0, w1, w2, w3, w4] := by
    have hs : args.size = 5 := by simpa [Cond.value, given_1] using g0
    obtain ⟨L⟩ := args
    match L, hs with
    | [w0, w1, w2, w3, w4], _ => exact ⟨w0, w1, w2, w3, w4, rfl⟩
  have hw := fun d (hd : d ∈ tables_1) => atoms_spec (ws := Jvm.Cond.code x code maxLocals ret :: tables_1) hat d (List.mem_cons_of_mem _ hd)
  obtain ⟨i0, ei0⟩ := is_v g1
  obtain rfl : w0 = (.int i0) := Option.some.inj ei0
  obtain ⟨i1, ei1⟩ := is_v g2
  obtain rfl : w1 = (.int i1) := Option.some.inj ei1
  obtain ⟨i2, ei2⟩ := is_v g3
  obtain rfl : w2 = (.int i2) := Option.some.inj ei2
  obtain ⟨i3, ei3⟩ := is_v g4
  obtain rfl : w3 = (.int i3) := Option.some.inj ei3
  obtain ⟨i4, ei4⟩ := is_v g5
  obtain rfl : w4 = (.int i4) := Option.some.inj ei4
  obtain ⟨n, o, h1, h2, h3, _, L, rfl, ⟨rfl, N⟩, hq⟩ := rm0 l s _ hw tables_1 i0 i1 i2 i3 i4 s.heap s.heap.size (Nat.le_refl _) p e ha hc hk s m _ below hf ((Spec.applies_iff_loose hf).mp happ).1 ⟨rfl, State.Warmed39.refl s, rfl⟩ trivial
  refine ⟨n, _, h1, h2, h3, hpost _ _ _ _ _ _ ⟨Cond.after_iff.mpr rfl, Cond.after_iff.mpr (eq_i res_at (Term.int_eval (1)) rfl), trivial⟩ ⟨hq.1, hq.2.1, (hq.2.2.sift fun y hy => Or.inr (N y hy)).mono (by decide) (by decide)⟩⟩
theorem main_1_1 : Claimed_1_1 := comes_1 fun _ _ _ _ _ _ h hF => ⟨h.1, hF⟩
theorem main_1_2 : Claimed_1_2 := comes_1 fun _ _ _ _ _ _ h hF => ⟨h.2.1, hF⟩
end Jvm.Pilot.@@N@@
namespace Jvm.Pilot.@@N@@
open Jvm Jvm.ClassFile Sem Op Lib Jvm.Free Jvm.Stand Jvm.Pilot.@@N@@.Jvm.D
/-! MADE BY PROGRAM (witnessworld.py) out of the Statement's table words and the real class files: 10 classes; the members and pool entries that the words name. The judged class is class 1, her method 1. -/
namespace start1
open Jvm.ClassFile
def u (s : String) : CpInfo := .utf8 (stringToUtf16 s)
/-- a pool by its gaps: so many unusable entries, then the entry; so many at the end -/
def gap : Nat → List CpInfo → List CpInfo
  | 0, r => r
  | n + 1, r => .unusable :: gap n r
def poolList (es : List (Nat × CpInfo)) (last : Nat) : List CpInfo := es.foldr (fun e r => gap e.1 (e.2 :: r)) (gap last [])
def pool (es : List (Nat × CpInfo)) (last : Nat) : Array CpInfo := ⟨poolList es last⟩
def fileOf (pool : Array CpInfo) (this : Nat) (attrs : Array Attribute := #[]) (ms : Array MethodInfo := #[]) (fl : Nat := 33) (sup : Nat := 0) (ifs : Array Nat := #[]) (fds : Array FieldInfo := #[]) : ClassFile where
  minorVersion := 0
  majorVersion := 65
  constantPool := pool
  accessFlags := fl
  thisClass := this
  superClass := sup
  interfaces := ifs
  fields := fds
  methods := ms
  attributes := attrs
def plain (name : String) (sup : Option ClassId) : Class where
  name := name
  kind := .ordinary
  loader := none
  accessFlags := 33
  super := sup
  interfaces := #[]
  cf := none
  fields := #[]
  methods := #[]
  instanceTypes := #[]
  staticTypes := #[]
  resolved := #[]
  callSites := []
  init := .initialized
  statics := none
  mirror := none

def pool0 : Array CpInfo := pool [(5, u "<init>"), (0, u "()V"), (1, .class_ 10), (1, u "java/lang/Object")] 113

def k0m0 : Method := { name := "<init>", desc := "()V", sig := { parameters := [], returnType := none }, accessFlags := 1, code := none }
/-- java/lang/Object -/
def k0 : Class := { plain "java/lang/Object" none with
  accessFlags := 33
  interfaces := #[]
  cf := some (fileOf pool0 8 #[] #[{ accessFlags := 1, nameIndex := 5, descriptorIndex := 6, attributes := #[] }] 33 0 #[] #[])
  fields := #[]
  methods := #[k0m0]
  instanceTypes := #[]
  staticTypes := #[]
  resolved := Array.replicate 124 none
  statics := none }

def pool1 : Array CpInfo := pool [(2, .class_ 4), (1, u "java/lang/Object"), (0, u "<init>"), (0, u "()V"), (0, .methodref 8 9), (0, .class_ 10), (0, .nameAndType 11 12), (0, u "com/example/concordat/concordat/identity/MllpFramePinLaw"), (0, u "make"), (0, u "(IBBBB)[B"), (0, .methodref 14 15), (0, .class_ 16), (0, .nameAndType 17 18), (0, u "com/example/concordat/concordat/identity/Mllp"), (0, u "frame"), (0, u "([B)[B"), (2, u "law"), (0, u "(IIIII)Z")] 5

def k1m0 : Method := { name := "<init>", desc := "()V", sig := { parameters := [], returnType := none }, accessFlags := 1, code := none }
def k1c1 : Code := { maxStack := 5, maxLocals := 12, code := code, exceptionTable := #[], attributes := #[] }
def k1m1 : Method := { name := "law", desc := "(IIIII)Z", sig := { parameters := [.int, .int, .int, .int, .int], returnType := some .boolean }, accessFlags := 9, code := some k1c1 }
def k1c2 : Code := { maxStack := 4, maxLocals := 5, code := method_3_code, exceptionTable := #[], attributes := #[] }
def k1m2 : Method := { name := "make", desc := "(IBBBB)[B", sig := { parameters := [.int, .byte, .byte, .byte, .byte], returnType := some (.array .byte) }, accessFlags := 10, code := some k1c2 }
/-- com/example/concordat/concordat/identity/MllpFramePinLaw -/
def k1 : Class := { plain "com/example/concordat/concordat/identity/MllpFramePinLaw" (some 0) with
  accessFlags := 49
  interfaces := #[]
  cf := some (fileOf pool1 8 #[] #[{ accessFlags := 1, nameIndex := 5, descriptorIndex := 6, attributes := #[] }, { accessFlags := 9, nameIndex := 21, descriptorIndex := 22, attributes := #[] }, { accessFlags := 10, nameIndex := 11, descriptorIndex := 12, attributes := #[] }] 49 2 #[] #[])
  fields := #[]
  methods := #[k1m0, k1m1, k1m2]
  instanceTypes := #[]
  staticTypes := #[]
  resolved := Array.replicate 28 none
  statics := none }

def pool2 : Array CpInfo := pool [(2, .class_ 4), (1, u "java/lang/Object"), (0, u "<init>"), (0, u "()V"), (6, .class_ 14), (0, u "com/example/concordat/concordat/identity/Mllp"), (30, .methodref 46 47), (0, .class_ 48), (0, .nameAndType 49 50), (0, u "java/lang/System"), (0, u "arraycopy"), (0, u "(Ljava/lang/Object;ILjava/lang/Object;II)V"), (0, u "MAX_MESSAGE"), (0, u "I"), (1, u "START"), (1, u "END"), (1, u "CARRIAGE_RETURN"), (6, u "frame"), (0, u "([B)[B")] 2

def k2m0 : Method := { name := "<init>", desc := "()V", sig := { parameters := [], returnType := none }, accessFlags := 2, code := none }
def k2c1 : Code := { maxStack := 5, maxLocals := 2, code := prog_50_method_3_code, exceptionTable := #[], attributes := #[] }
def k2m1 : Method := { name := "frame", desc := "([B)[B", sig := { parameters := [(.array .byte)], returnType := some (.array .byte) }, accessFlags := 8, code := some k2c1 }
/-- com/example/concordat/concordat/identity/Mllp -/
def k2 : Class := { plain "com/example/concordat/concordat/identity/Mllp" (some 0) with
  accessFlags := 48
  interfaces := #[]
  cf := some (fileOf pool2 13 #[] #[{ accessFlags := 2, nameIndex := 5, descriptorIndex := 6, attributes := #[] }, { accessFlags := 8, nameIndex := 65, descriptorIndex := 66, attributes := #[] }] 48 2 #[] #[{ accessFlags := 24, nameIndex := 51, descriptorIndex := 52, attributes := #[] }, { accessFlags := 26, nameIndex := 54, descriptorIndex := 52, attributes := #[] }, { accessFlags := 26, nameIndex := 56, descriptorIndex := 52, attributes := #[] }, { accessFlags := 26, nameIndex := 58, descriptorIndex := 52, attributes := #[] }])
  fields := #[{ name := "MAX_MESSAGE", type := .int, accessFlags := 24, slot := 0, constantValue := 0 }, { name := "START", type := .int, accessFlags := 26, slot := 1, constantValue := 0 }, { name := "END", type := .int, accessFlags := 26, slot := 2, constantValue := 0 }, { name := "CARRIAGE_RETURN", type := .int, accessFlags := 26, slot := 3, constantValue := 0 }]
  methods := #[k2m0, k2m1]
  instanceTypes := #[]
  staticTypes := #[.int, .int, .int, .int]
  resolved := Array.replicate 69 none
  statics := none }

def pool3 : Array CpInfo := pool [(2, .class_ 4), (1, u "java/lang/Object"), (0, u "<init>"), (0, u "()V"), (1, .class_ 10), (1, u "java/lang/System"), (0, u "allowSecurityManager"), (0, u "I"), (16, u "cons"), (0, u "Ljava/io/Console;"), (77, .class_ 110), (1, u "java/lang/System$CallersHolder"), (43, u "initialErrStream"), (0, u "Ljava/io/PrintStream;"), (19, u "security"), (0, u "Ljava/lang/SecurityManager;"), (31, .class_ 209), (0, u "java/lang/System$1"), (7, u "props"), (0, u "Ljava/util/Properties;"), (2, u "lineSeparator"), (0, u "Ljava/lang/String;"), (96, .class_ 321), (1, u "java/lang/System$LoggerFinder"), (5, .class_ 328), (0, u "java/lang/System$Logger"), (67, u "err"), (2, u "out"), (91, u "notSupportedJnuEncoding"), (15, u "in"), (17, u "initialIn"), (0, u "Ljava/io/InputStream;"), (35, u "bootLayer"), (0, u "Ljava/lang/ModuleLayer;"), (99, .class_ 664), (0, u "java/lang/System$2"), (9, u "NEVER"), (2, u "MAYBE"), (49, u "arraycopy"), (0, u "(Ljava/lang/Object;ILjava/lang/Object;II)V"), (72, .class_ 802), (0, u "java/lang/System$Logger$Level")] 31

def k3m0 : Method := { name := "<init>", desc := "()V", sig := { parameters := [], returnType := none }, accessFlags := 2, code := none }
def k3m1 : Method := { name := "arraycopy", desc := "(Ljava/lang/Object;ILjava/lang/Object;II)V", sig := { parameters := [(.object "java/lang/Object"), .int, (.object "java/lang/Object"), .int, .int], returnType := none }, accessFlags := 265, code := none }
/-- java/lang/System -/
def k3 : Class := { plain "java/lang/System" (some 0) with
  accessFlags := 49
  interfaces := #[]
  cf := some (fileOf pool3 8 #[.nestMembers #[319, 327, 801, 108, 663, 208]] #[{ accessFlags := 2, nameIndex := 5, descriptorIndex := 6, attributes := #[] }, { accessFlags := 265, nameIndex := 727, descriptorIndex := 728, attributes := #[] }] 49 2 #[] #[{ accessFlags := 25, nameIndex := 507, descriptorIndex := 526, attributes := #[] }, { accessFlags := 25, nameIndex := 399, descriptorIndex := 155, attributes := #[] }, { accessFlags := 25, nameIndex := 396, descriptorIndex := 155, attributes := #[] }, { accessFlags := 10, nameIndex := 525, descriptorIndex := 526, attributes := #[] }, { accessFlags := 26, nameIndex := 674, descriptorIndex := 12, attributes := #[] }, { accessFlags := 26, nameIndex := 677, descriptorIndex := 12, attributes := #[] }, { accessFlags := 10, nameIndex := 11, descriptorIndex := 12, attributes := #[] }, { accessFlags := 74, nameIndex := 175, descriptorIndex := 176, attributes := #[] }, { accessFlags := 10, nameIndex := 491, descriptorIndex := 222, attributes := #[] }, { accessFlags := 74, nameIndex := 29, descriptorIndex := 30, attributes := #[] }, { accessFlags := 74, nameIndex := 154, descriptorIndex := 155, attributes := #[] }, { accessFlags := 10, nameIndex := 217, descriptorIndex := 218, attributes := #[] }, { accessFlags := 10, nameIndex := 221, descriptorIndex := 222, attributes := #[] }, { accessFlags := 8, nameIndex := 562, descriptorIndex := 563, attributes := #[] }])
  fields := #[{ name := "in", type := (.object "java/io/InputStream"), accessFlags := 25, slot := 0, constantValue := 0 }, { name := "out", type := (.object "java/io/PrintStream"), accessFlags := 25, slot := 1, constantValue := 0 }, { name := "err", type := (.object "java/io/PrintStream"), accessFlags := 25, slot := 2, constantValue := 0 }, { name := "initialIn", type := (.object "java/io/InputStream"), accessFlags := 10, slot := 3, constantValue := 0 }, { name := "NEVER", type := .int, accessFlags := 26, slot := 4, constantValue := 0 }, { name := "MAYBE", type := .int, accessFlags := 26, slot := 5, constantValue := 0 }, { name := "allowSecurityManager", type := .int, accessFlags := 10, slot := 6, constantValue := 0 }, { name := "security", type := (.object "java/lang/SecurityManager"), accessFlags := 74, slot := 7, constantValue := 0 }, { name := "notSupportedJnuEncoding", type := (.object "java/lang/String"), accessFlags := 10, slot := 8, constantValue := 0 }, { name := "cons", type := (.object "java/io/Console"), accessFlags := 74, slot := 9, constantValue := 0 }, { name := "initialErrStream", type := (.object "java/io/PrintStream"), accessFlags := 74, slot := 10, constantValue := 0 }, { name := "props", type := (.object "java/util/Properties"), accessFlags := 10, slot := 11, constantValue := 0 }, { name := "lineSeparator", type := (.object "java/lang/String"), accessFlags := 10, slot := 12, constantValue := 0 }, { name := "bootLayer", type := (.object "java/lang/ModuleLayer"), accessFlags := 8, slot := 13, constantValue := 0 }]
  methods := #[k3m0, k3m1]
  instanceTypes := #[]
  staticTypes := #[(.object "java/io/InputStream"), (.object "java/io/PrintStream"), (.object "java/io/PrintStream"), (.object "java/io/InputStream"), .int, .int, .int, (.object "java/lang/SecurityManager"), (.object "java/lang/String"), (.object "java/io/Console"), (.object "java/io/PrintStream"), (.object "java/util/Properties"), (.object "java/lang/String"), (.object "java/lang/ModuleLayer")]
  resolved := Array.replicate 834 none
  statics := none }

def pool4 : Array CpInfo := pool [(1, u "java/lang/Cloneable"), (0, .class_ 1), (0, u "java/lang/Object"), (0, .class_ 3)] 3

/-- java/lang/Cloneable -/
def k4 : Class := { plain "java/lang/Cloneable" (some 0) with
  accessFlags := 1537
  interfaces := #[]
  cf := some (fileOf pool4 2 #[] #[] 1537 4 #[] #[])
  fields := #[]
  methods := #[]
  instanceTypes := #[]
  staticTypes := #[]
  resolved := Array.replicate 8 none
  statics := none }

def pool5 : Array CpInfo := pool [(1, u "java/io/Serializable"), (0, .class_ 1), (0, u "java/lang/Object"), (0, .class_ 3)] 3

/-- java/io/Serializable -/
def k5 : Class := { plain "java/io/Serializable" (some 0) with
  accessFlags := 1537
  interfaces := #[]
  cf := some (fileOf pool5 2 #[] #[] 1537 4 #[] #[])
  fields := #[]
  methods := #[]
  instanceTypes := #[]
  staticTypes := #[]
  resolved := Array.replicate 8 none
  statics := none }

/-- the primitive byte -/
def k6 : Class := { plain "byte" none with kind := .primitive 'B', accessFlags := 0x411 }
/-- [B -/
def k7 : Class := { plain "[B" (some 0) with kind := .array 6 .byte, interfaces := #[4, 5], accessFlags := 1041 }

/-- the primitive int -/
def k8 : Class := { plain "int" none with kind := .primitive 'I', accessFlags := 0x411 }
/-- [I -/
def k9 : Class := { plain "[I" (some 0) with kind := .array 8 .int, interfaces := #[4, 5], accessFlags := 1041 }

def heap : Heap := #[]
def classes : Array Class := #[k0, k1, k2, k3, k4, k5, k6, k7, k8, k9]
def interned : List (Array UInt16 × Addr) := []
def slotsUsed : Nat := 0
def theMethod : MethodId := ⟨1, 1⟩
def args0 : Array Value := #[.int 3, .int 2, .int 3, .int 4, .int 5]
def aboutOver (below : List Frame) : State where
  vm := { classes := classes, interned := interned.toArray }
  heap := heap
  slotsUsed := slotsUsed
  threads := #[{ frames := .invoking theMethod args0 :: below }]
def below0 : List Frame := [.native { method := ⟨0, 0⟩, args := #[] }]
def about1 : State := aboutOver below0
def p0 : Program := .bare "" "" ""
def e0 : Env := launch0.env 0 0 0
theorem w_frames : about1.frames = Frame.invoking theMethod args0 :: below0 := rfl
set_option maxRecDepth 65536 in
theorem w_args : argsFit about1.vm theMethod args0 = true := by decide +kernel
set_option maxRecDepth 65536 in
theorem w_heap : heapFits about1 = true := by decide +kernel
set_option maxRecDepth 65536 in
theorem w_runnable : about1.curStatus? = some .runnable := by decide +kernel
set_option maxRecDepth 65536 in
theorem w_alone : about1.alone = true := by decide +kernel
set_option maxRecDepth 65536 in
theorem w_named : about1.methodNamed? x = some theMethod := by decide +kernel
set_option maxRecDepth 65536 in
theorem w_hears : about1.hears theMethod below0 = true := by decide +kernel
set_option maxRecDepth 65536 in
theorem w_ripe : about1.ripe theMethod args0 below0 = true := by decide +kernel
theorem w_running : about1.status = .running := rfl
set_option maxRecDepth 65536 in
theorem w_room : about1.hasRoom e0.platform room_1 = true :=
  launch0.hasRoom_least _ room_1 (by decide +kernel) (by decide +kernel) (by decide +kernel) (by decide +kernel) (by decide +kernel) (by decide +kernel)
theorem allAtoms_all (ts : List Jvm.Cond) (a : Array Jvm.Value) (st : Jvm.State) : (allAtoms ts).before a st = ts.all (fun c => c.before a st) := by
  induction ts with
  | nil => rfl
  | cons c t ih =>
    show (Jvm.Cond.and c (allAtoms t)).before a st = _
    rw [Jvm.Cond.before_and, ih, List.all_cons]
def words1 : List Jvm.Cond := Jvm.Cond.code x code maxLocals ret :: tables_1
/-- a 'code' word, met by the world's own term for the bytes: nothing is compared byte by byte -/
theorem code_word {y : MethodName} {bytes : ByteArray} {mx : Nat} {rt : Option FieldType} {a : Array Value} {s : State} {m : MethodId} {meth : Method} {c : Code} (h1 : s.methodNamed? y = some m) (h2 : s.vm.method? m = some meth) (h3 : meth.code = some c) (h4 : c.code = bytes)
    (h5 : (c.maxLocals == mx && c.exceptionTable.isEmpty && decide (c.maxStack ≤ mostOperands) && decide (meth.sig.returnType = rt) && !meth.locks && decide (parseMethodDescriptor y.desc = some meth.sig)) = true) : (Jvm.Cond.code y bytes mx rt).before a s = true := by
  simp only [Bool.and_eq_true, beq_iff_eq, Bool.not_eq_true', decide_eq_true_eq] at h5
  obtain ⟨⟨⟨⟨⟨g1, g2⟩, g3⟩, g4⟩, g5⟩, g6⟩ := h5
  simp [Cond.before, Cond.holds, Cond.value, h1, h2, h3, h4, g1, g2, g3, g4, g5, g6]
def isCode : Jvm.Cond → Bool
  | .code _ _ _ _ => true
  | _ => false
theorem all_split {L : List Jvm.Cond} {P : Jvm.Cond → Bool} (h1 : L.all (fun c => isCode c || P c) = true) (h2 : ∀ c ∈ L.filter isCode, P c = true) : L.all P = true := by
  refine List.all_eq_true.mpr fun c hc => ?_
  have h := List.all_eq_true.mp h1 c hc
  rcases Bool.eq_false_or_eq_true (isCode c) with hi | hi
  · exact h2 c (List.mem_filter.mpr ⟨hc, hi⟩)
  · simpa [hi] using h
set_option maxRecDepth 65536 in
theorem w_c0 : (Jvm.Cond.code x code maxLocals ret).before args0 about1 = true := code_word (m := ⟨1, 1⟩) (meth := k1m1) (c := k1c1) (by decide +kernel) rfl rfl rfl (by decide +kernel)
set_option maxRecDepth 65536 in
theorem w_c1 : (Jvm.Cond.code ({ cls := "com/example/concordat/concordat/identity/MllpFramePinLaw", name := "make", desc := "(IBBBB)[B" } : Jvm.MethodName) method_3_code (5 : Nat) (Option.some (Jvm.ClassFile.FieldType.array Jvm.ClassFile.FieldType.byte))).before args0 about1 = true := code_word (m := ⟨1, 2⟩) (meth := k1m2) (c := k1c2) (by decide +kernel) rfl rfl rfl (by decide +kernel)
set_option maxRecDepth 65536 in
theorem w_c2 : (Jvm.Cond.code ({ cls := "com/example/concordat/concordat/identity/Mllp", name := "frame", desc := "([B)[B" } : Jvm.MethodName) prog_50_method_3_code (2 : Nat) (Option.some (Jvm.ClassFile.FieldType.array Jvm.ClassFile.FieldType.byte))).before args0 about1 = true := code_word (m := ⟨2, 1⟩) (meth := k2m1) (c := k2c1) (by decide +kernel) rfl rfl rfl (by decide +kernel)
def codes1 : List Jvm.Cond := [Jvm.Cond.code x code maxLocals ret, Jvm.Cond.code ({ cls := "com/example/concordat/concordat/identity/MllpFramePinLaw", name := "make", desc := "(IBBBB)[B" } : Jvm.MethodName) method_3_code (5 : Nat) (Option.some (Jvm.ClassFile.FieldType.array Jvm.ClassFile.FieldType.byte)), Jvm.Cond.code ({ cls := "com/example/concordat/concordat/identity/Mllp", name := "frame", desc := "([B)[B" } : Jvm.MethodName) prog_50_method_3_code (2 : Nat) (Option.some (Jvm.ClassFile.FieldType.array Jvm.ClassFile.FieldType.byte))]
set_option maxRecDepth 65536 in
theorem codes_eq : words1.filter isCode = codes1 := rfl
theorem w_codes : ∀ c ∈ words1.filter isCode, c.before args0 about1 = true := by
  rw [codes_eq]
  intro c hc
  simp only [codes1, List.mem_cons, List.not_mem_nil, or_false] at hc
  rcases hc with rfl | rfl | rfl
  · exact w_c0
  · exact w_c1
  · exact w_c2
set_option maxRecDepth 65536 in
theorem w_t1 : words1.all (fun c => isCode c || c.before args0 about1) = true := by decide +kernel
theorem w_tables : (allAtoms (Jvm.Cond.code x code maxLocals ret :: tables_1)).before args0 about1 = true := by
  rw [allAtoms_all]
  show words1.all (fun c => c.before args0 about1) = true
  refine all_split ?_ w_codes
  rw [w_t1]
set_option maxRecDepth 65536 in
theorem w_case : (Jvm.Cond.and given_1 narrow_1).before args0 about1 = true := by decide +kernel
theorem w_applies : (headSpec (Jvm.Cond.code x code maxLocals ret :: tables_1) room_1).applies x e0.platform about1 = true :=
  (Spec.applies_iff w_frames).mpr ⟨w_running, w_runnable, w_alone, w_named, w_hears, w_ripe, w_room, w_tables⟩
theorem atStart : AtStart classFile x code maxLocals ret World_1 tables_1 room_1 Calls_1 rest_1 Pre_1 launch0 p0 e0 about1 theMethod args0 below0 :=
  ⟨lists_1, trivial, launch0.admits_env _ _ _, launch0.least_env, fairChoices_fair.cas, fairChoices_fair.clock, w_frames, w_args, w_heap, w_applies, trivial, trivial, w_case⟩
end start1
theorem witness_1 : WitnessClaimed_1 := ⟨start1.p0, start1.e0, start1.about1, start1.theMethod, start1.args0, start1.below0, start1.atStart⟩
end Jvm.Pilot.@@N@@
