import JvmDerived
import JvmDerived.Pilot.@@N@@Statement
import JvmDerived.Pilot.@@N@@Code
set_option linter.unusedVariables false
set_option linter.unusedSimpArgs false
namespace Jvm.RoadKit
open Sem ClassFile Op Lib Jvm.Stand Jvm.Free Jvm.LawKit
section New
variable {p : Program} {l : Launch} {e : Env} {R : Room} {s : State} {m : MethodId} {args : Array Value} {below : List Frame} {meth : Method} {c : Code} {T : State} {locs : List Loc} {cells slots : Nat}
theorem retI (X : Stand p l e R s m args below meth c T locs cells slots) (hx : p.tables.exec = Jvm.exec) {pc : Nat} {Ls : Array Slot} {z : Int32} {rest : List Value} (hret : meth.sig.returnType = some .int) (hd : decode c.code pc = .ok (.ireturn, 1)) {fs : List Frame}
    (hl : ∀ (f : JFrame) (acts : List Action), f.method = m → f.locked = none → f.entered = [] → (doReturn e (T.setTop f) acts (some (.int z))).1 = T.setFrames fs) : Steps p.tables e below (T.setTop (mkF m pc Ls (.int z :: rest))) (T.setFrames fs) := by
  have hm' : T.vm.method? m = some meth := X.method'
  have hn : narrow .int (.int z) = .int z := rfl
  show Steps p.tables e below (T.setTop { method := m, pc := pc, locals := Ls, stack := _ :: rest, locked := none }) _
  jvm_step X.here [X.here.top, hx, hd, hm', hret, hn]
  first | (intro acts; rw [hl _ acts rfl rfl rfl]) | rw [hl _ _ rfl rfl rfl]
  exact Steps.refl _
end New
end Jvm.RoadKit
namespace Jvm.Pilot.@@N@@
open Jvm Jvm.ClassFile Sem Op Lib Jvm.Free Jvm.Stand Jvm.LawKit Jvm.RoadKit Bundle Jvm.Pilot.@@N@@.Jvm.D
theorem own_lt {i n : Nat} (h : i < n) (hn : n ≤ 255) : Int32.ofNat i < Int32.ofNat n := by
  rw [Int32.lt_iff_toInt_lt, Int32.toInt_ofNat_of_lt (by omega), Int32.toInt_ofNat_of_lt (by omega)]
  omega
theorem own_nn {n : Nat} (hn : n ≤ 255) : ¬ Int32.ofNat n < 0 := by
  rw [Int32.lt_iff_toInt_lt, Int32.toInt_ofNat_of_lt (by omega), show (0 : Int32).toInt = 0 from rfl]
  omega
theorem own_n32 {n : Nat} (hn : n ≤ 255) : (Int32.ofNat n).toNatClampNeg = n := by
  rw [Int32.toNatClampNeg, Int32.toInt_ofNat_of_lt (by omega)]; rfl
theorem own_one (i : Nat) : Int32.ofNat i + (1 : Int32) = Int32.ofNat (i + 1) := (Int32.ofNat_add i 1).symm
theorem own_mask (x : Int32) : ∃ n : Nat, n ≤ 7 ∧ (x &&& (7 : Int32)) = Int32.ofNat n := by
  refine ⟨(x &&& 7).toBitVec.toNat, ?_, ?_⟩
  · simp only [Int32.toBitVec_and, BitVec.toNat_and]
    exact Nat.and_le_right
  · apply Int32.toBitVec_inj.mp
    show _ = BitVec.ofNat 32 _
    rw [BitVec.ofNat_toNat]; simp
theorem own_n5 (x : Int32) : let v := (x &&& (7 : Int32)) - ((x &&& (7 : Int32)) / (5 : Int32)) * (5 : Int32); v = 0 ∨ v = 1 ∨ v = 2 ∨ v = 3 ∨ v = 4 := by
  obtain ⟨n, hn, e⟩ := own_mask x
  intro v
  show (x &&& (7 : Int32)) - ((x &&& (7 : Int32)) / (5 : Int32)) * (5 : Int32) = 0 ∨ _
  have h : n = 0 ∨ n = 1 ∨ n = 2 ∨ n = 3 ∨ n = 4 ∨ n = 5 ∨ n = 6 ∨ n = 7 := by omega
  have ev : v = Int32.ofNat n - (Int32.ofNat n / (5 : Int32)) * (5 : Int32) := by show (x &&& (7 : Int32)) - ((x &&& (7 : Int32)) / (5 : Int32)) * (5 : Int32) = _; rw [e]
  rw [show (x &&& (7 : Int32)) - ((x &&& (7 : Int32)) / (5 : Int32)) * (5 : Int32) = v from rfl, ev]
  rcases h with rfl | rfl | rfl | rfl | rfl | rfl | rfl | rfl <;> decide
/-- what the law writes at place j -/
def own_f (a b c d : Int32) : Nat → Int32
  | 0 => a
  | 1 => b
  | 2 => c
  | _ => d
theorem d1_8 : decode prog_19_method_7_code 8 = .ok (.iload 4, 2) := by decide +kernel
theorem d1_10 : decode prog_19_method_7_code 10 = .ok (.iload_n 3, 1) := by decide +kernel
theorem d1_11 : decode prog_19_method_7_code 11 = .ok (.if_icmp .ge 23, 3) := by decide +kernel
theorem d1_14 : decode prog_19_method_7_code 14 = .ok (.aload_n 2, 1) := by decide +kernel
theorem d1_15 : decode prog_19_method_7_code 15 = .ok (.iload 4, 2) := by decide +kernel
theorem d1_17 : decode prog_19_method_7_code 17 = .ok (.iaload, 1) := by decide +kernel
theorem d1_18 : decode prog_19_method_7_code 18 = .ok (.istore 5, 2) := by decide +kernel
theorem d1_20 : decode prog_19_method_7_code 20 = .ok (.iload 5, 2) := by decide +kernel
theorem d1_22 : decode prog_19_method_7_code 22 = .ok (.iload_n 1, 1) := by decide +kernel
theorem d1_23 : decode prog_19_method_7_code 23 = .ok (.if_icmp .ne 5, 3) := by decide +kernel
theorem d1_28 : decode prog_19_method_7_code 28 = .ok (.iinc 4 1, 3) := by decide +kernel
theorem d1_31 : decode prog_19_method_7_code 31 = .ok (.goto (-23), 3) := by decide +kernel
theorem os1_18 {s0 : Slot} {z1 : Value} {z2 : Value} {z3 : Value} {z4 : Value} {s5 : Slot} {v : Int32} (h : One s5) : storeLocals #[s0, .val z1, .val z2, .val z3, .val z4, s5] 5 (.int v) = some #[s0, .val z1, .val z2, .val z3, .val z4, .val (.int v)] := by
  rcases h with rfl | ⟨w, rfl, hw⟩
  · rfl
  · cases w <;> first | rfl | (simp [Value.category] at hw)
set_option maxRecDepth 65536 in
set_option maxHeartbeats 40000000 in
theorem tn1_on {p : Program} {l : Launch} {e : Env} {R : Room} {s : State} {m : MethodId} {args : Array Value} {below : List Frame} {meth : Method} {c : Code} {T0 : State} {locs : List Loc} {cells slots : Nat} {Z : State} {a0 : Array Value} {h0 : Heap} (s0 : Slot) (i1 : Int32) (o2 : Addr) (i3 : Int32) (i4 : Int32) (s5 : Slot) (w3 : Int32) (cl_o2 : Cell)
    (X0 : Stand p l e R s m args below meth c T0 locs cells slots) (hx : p.tables.exec = Jvm.exec) (hZ : Z.Warmed39 s.vm) (hw : ∀ d ∈ tables_1, d.before a0 Z = true) (hby : c.code = prog_19_method_7_code) (hml : c.maxLocals = 6) (hown : s.vm.findClass "com/example/covercull/covercull/Interactions" = some m.cls) (e0 : T0.heap = h0) (Ar_o2 : Arr Z h0 o2 cl_o2 .int) (hin17 : ¬ (i4 < 0 ∨ cl_o2.slots.size ≤ (i4).toNatClampNeg)) (hat17 : cl_o2.slots[(i4).toNatClampNeg]? = some (.int w3)) (hs5 : One s5) (hc11 : i4 < i3) (hc23 : ¬ (w3 = i1)) :
    ∃ (T' : State), Stand p l e R s m args below meth c T' locs cells slots ∧ T'.heap = h0 ∧
      ∀ target, Steps p.tables e below (T'.setTop (mkF m 8 #[s0, .val (.int i1), .val (.ref o2), .val (.int i3), .val (.int (i4 + (1 : Int32))), .val (.int w3)] [])) target → Steps p.tables e below (T0.setTop (mkF m 8 #[s0, .val (.int i1), .val (.ref o2), .val (.int i3), .val (.int i4), s5] [])) target := by
  refine ⟨T0, X0, e0, fun target kt => ?_⟩
  show Steps p.tables e below (T0.setTop (mkF m 8 #[s0, .val (.int i1), .val (.ref o2), .val (.int i3), .val (.int i4), s5] [])) _
  refine XS.iload X0.here hx rfl (hb hby d1_8) rfl ?_
  show Steps p.tables e below (T0.setTop (mkF m 10 #[s0, .val (.int i1), .val (.ref o2), .val (.int i3), .val (.int i4), s5] [(.int i4)])) _
  refine XS.iloadN X0.here hx rfl (hb hby d1_10) rfl ?_
  show Steps p.tables e below (T0.setTop (mkF m 11 #[s0, .val (.int i1), .val (.ref o2), .val (.int i3), .val (.int i4), s5] [(.int i3), (.int i4)])) _
  refine XS.icmpNo X0.here hx rfl (hb hby d1_11) rfl (tlt hc11).2.1 ?_
  show Steps p.tables e below (T0.setTop (mkF m 14 #[s0, .val (.int i1), .val (.ref o2), .val (.int i3), .val (.int i4), s5] [])) _
  refine XS.aloadN X0.here hx rfl (hb hby d1_14) rfl rfl ?_
  show Steps p.tables e below (T0.setTop (mkF m 15 #[s0, .val (.int i1), .val (.ref o2), .val (.int i3), .val (.int i4), s5] [(.ref o2)])) _
  refine XS.iload X0.here hx rfl (hb hby d1_15) rfl ?_
  show Steps p.tables e below (T0.setTop (mkF m 17 #[s0, .val (.int i1), .val (.ref o2), .val (.int i3), .val (.int i4), s5] [(.int i4), (.ref o2)])) _
  refine X0.iaload hx (j := i4) (v := (.int w3)) (by rw [e0]; exact Ar_o2.1) (State.isArrayOf_alike hZ.alike Ar_o2.2.1) Ar_o2.2.2 hin17 hat17 (g := (mkF m 17 #[s0, .val (.int i1), .val (.ref o2), .val (.int i3), .val (.int i4), s5] [(.int i4), (.ref o2)])) rfl rfl (hb hby d1_17) _ ?_
  show Steps p.tables e below (T0.setTop (mkF m 18 #[s0, .val (.int i1), .val (.ref o2), .val (.int i3), .val (.int i4), s5] [(.int w3)])) _
  refine XS.istore X0.here hx rfl (hb hby d1_18) rfl (l' := #[s0, .val (.int i1), .val (.ref o2), .val (.int i3), .val (.int i4), .val (.int w3)]) (os1_18 hs5) ?_
  show Steps p.tables e below (T0.setTop (mkF m 20 #[s0, .val (.int i1), .val (.ref o2), .val (.int i3), .val (.int i4), .val (.int w3)] [])) _
  refine XS.iload X0.here hx rfl (hb hby d1_20) rfl ?_
  show Steps p.tables e below (T0.setTop (mkF m 22 #[s0, .val (.int i1), .val (.ref o2), .val (.int i3), .val (.int i4), .val (.int w3)] [(.int w3)])) _
  refine XS.iloadN X0.here hx rfl (hb hby d1_22) rfl ?_
  show Steps p.tables e below (T0.setTop (mkF m 23 #[s0, .val (.int i1), .val (.ref o2), .val (.int i3), .val (.int i4), .val (.int w3)] [(.int i1), (.int w3)])) _
  refine XS.icmpYes X0.here hx rfl (pc0 := 23) (pc' := 28) rfl (hb hby d1_23) rfl (feq hc23).2 (by decide) (by decide) ?_
  show Steps p.tables e below (T0.setTop (mkF m 28 #[s0, .val (.int i1), .val (.ref o2), .val (.int i3), .val (.int i4), .val (.int w3)] [])) _
  refine XS.iinc X0.here hx rfl (hb hby d1_28) rfl (l' := #[s0, .val (.int i1), .val (.ref o2), .val (.int i3), .val (.int (i4 + (1 : Int32))), .val (.int w3)]) rfl ?_
  show Steps p.tables e below (T0.setTop (mkF m 31 #[s0, .val (.int i1), .val (.ref o2), .val (.int i3), .val (.int (i4 + (1 : Int32))), .val (.int w3)] [])) _
  refine XS.goto X0.here hx rfl (pc0 := 31) (pc' := 8) rfl (hb hby d1_31) (by decide) (by decide) ?_
  exact kt
theorem os1_18_tn1_in {s0 : Slot} {z1 : Value} {z2 : Value} {z3 : Value} {z4 : Value} {s5 : Slot} {v : Int32} (h : One s5) : storeLocals #[s0, .val z1, .val z2, .val z3, .val z4, s5] 5 (.int v) = some #[s0, .val z1, .val z2, .val z3, .val z4, .val (.int v)] := by
  rcases h with rfl | ⟨w, rfl, hw⟩
  · rfl
  · cases w <;> first | rfl | (simp [Value.category] at hw)
set_option maxRecDepth 65536 in
set_option maxHeartbeats 40000000 in
theorem tn1_in {p : Program} {l : Launch} {e : Env} {R : Room} {s : State} {m : MethodId} {args : Array Value} {below : List Frame} {meth : Method} {c : Code} {T0 : State} {locs : List Loc} {cells slots : Nat} {Z : State} {a0 : Array Value} {h0 : Heap} (s0 : Slot) (i1 : Int32) (o2 : Addr) (i3 : Int32) (i4 : Int32) (s5 : Slot) (w3 : Int32) (cl_o2 : Cell)
    (X0 : Stand p l e R s m args below meth c T0 locs cells slots) (hx : p.tables.exec = Jvm.exec) (hZ : Z.Warmed39 s.vm) (hw : ∀ d ∈ tables_1, d.before a0 Z = true) (hby : c.code = prog_19_method_7_code) (hml : c.maxLocals = 6) (hown : s.vm.findClass "com/example/covercull/covercull/Interactions" = some m.cls) (e0 : T0.heap = h0) (Ar_o2 : Arr Z h0 o2 cl_o2 .int) (hin17 : ¬ (i4 < 0 ∨ cl_o2.slots.size ≤ (i4).toNatClampNeg)) (hat17 : cl_o2.slots[(i4).toNatClampNeg]? = some (.int w3)) (hs5 : One s5) (hc11 : i4 < i3) (hc23 : w3 = i1) :
    ∃ (T' : State), Stand p l e R s m args below meth c T' locs cells slots ∧ T'.heap = h0 ∧
      ∀ target, Steps p.tables e below (T'.setTop (mkF m 26 #[s0, .val (.int i1), .val (.ref o2), .val (.int i3), .val (.int i4), .val (.int w3)] [])) target → Steps p.tables e below (T0.setTop (mkF m 8 #[s0, .val (.int i1), .val (.ref o2), .val (.int i3), .val (.int i4), s5] [])) target := by
  refine ⟨T0, X0, e0, fun target kt => ?_⟩
  show Steps p.tables e below (T0.setTop (mkF m 8 #[s0, .val (.int i1), .val (.ref o2), .val (.int i3), .val (.int i4), s5] [])) _
  refine XS.iload X0.here hx rfl (hb hby d1_8) rfl ?_
  show Steps p.tables e below (T0.setTop (mkF m 10 #[s0, .val (.int i1), .val (.ref o2), .val (.int i3), .val (.int i4), s5] [(.int i4)])) _
  refine XS.iloadN X0.here hx rfl (hb hby d1_10) rfl ?_
  show Steps p.tables e below (T0.setTop (mkF m 11 #[s0, .val (.int i1), .val (.ref o2), .val (.int i3), .val (.int i4), s5] [(.int i3), (.int i4)])) _
  refine XS.icmpNo X0.here hx rfl (hb hby d1_11) rfl (tlt hc11).2.1 ?_
  show Steps p.tables e below (T0.setTop (mkF m 14 #[s0, .val (.int i1), .val (.ref o2), .val (.int i3), .val (.int i4), s5] [])) _
  refine XS.aloadN X0.here hx rfl (hb hby d1_14) rfl rfl ?_
  show Steps p.tables e below (T0.setTop (mkF m 15 #[s0, .val (.int i1), .val (.ref o2), .val (.int i3), .val (.int i4), s5] [(.ref o2)])) _
  refine XS.iload X0.here hx rfl (hb hby d1_15) rfl ?_
  show Steps p.tables e below (T0.setTop (mkF m 17 #[s0, .val (.int i1), .val (.ref o2), .val (.int i3), .val (.int i4), s5] [(.int i4), (.ref o2)])) _
  refine X0.iaload hx (j := i4) (v := (.int w3)) (by rw [e0]; exact Ar_o2.1) (State.isArrayOf_alike hZ.alike Ar_o2.2.1) Ar_o2.2.2 hin17 hat17 (g := (mkF m 17 #[s0, .val (.int i1), .val (.ref o2), .val (.int i3), .val (.int i4), s5] [(.int i4), (.ref o2)])) rfl rfl (hb hby d1_17) _ ?_
  show Steps p.tables e below (T0.setTop (mkF m 18 #[s0, .val (.int i1), .val (.ref o2), .val (.int i3), .val (.int i4), s5] [(.int w3)])) _
  refine XS.istore X0.here hx rfl (hb hby d1_18) rfl (l' := #[s0, .val (.int i1), .val (.ref o2), .val (.int i3), .val (.int i4), .val (.int w3)]) (os1_18_tn1_in hs5) ?_
  show Steps p.tables e below (T0.setTop (mkF m 20 #[s0, .val (.int i1), .val (.ref o2), .val (.int i3), .val (.int i4), .val (.int w3)] [])) _
  refine XS.iload X0.here hx rfl (hb hby d1_20) rfl ?_
  show Steps p.tables e below (T0.setTop (mkF m 22 #[s0, .val (.int i1), .val (.ref o2), .val (.int i3), .val (.int i4), .val (.int w3)] [(.int w3)])) _
  refine XS.iloadN X0.here hx rfl (hb hby d1_22) rfl ?_
  show Steps p.tables e below (T0.setTop (mkF m 23 #[s0, .val (.int i1), .val (.ref o2), .val (.int i3), .val (.int i4), .val (.int w3)] [(.int i1), (.int w3)])) _
  refine XS.icmpNo X0.here hx rfl (hb hby d1_23) rfl (teq hc23).2 ?_
  exact kt
set_option maxRecDepth 65536 in
set_option maxHeartbeats 40000000 in
theorem tn1_out {p : Program} {l : Launch} {e : Env} {R : Room} {s : State} {m : MethodId} {args : Array Value} {below : List Frame} {meth : Method} {c : Code} {T0 : State} {locs : List Loc} {cells slots : Nat} {Z : State} {a0 : Array Value} {h0 : Heap} (s0 : Slot) (s1 : Slot) (s2 : Slot) (i3 : Int32) (i4 : Int32) (s5 : Slot)
    (X0 : Stand p l e R s m args below meth c T0 locs cells slots) (hx : p.tables.exec = Jvm.exec) (hZ : Z.Warmed39 s.vm) (hw : ∀ d ∈ tables_1, d.before a0 Z = true) (hby : c.code = prog_19_method_7_code) (hml : c.maxLocals = 6) (hown : s.vm.findClass "com/example/covercull/covercull/Interactions" = some m.cls) (e0 : T0.heap = h0) (hc11 : ¬ (i4 < i3)) :
    ∃ (T' : State), Stand p l e R s m args below meth c T' locs cells slots ∧ T'.heap = h0 ∧
      ∀ target, Steps p.tables e below (T'.setTop (mkF m 34 #[s0, s1, s2, .val (.int i3), .val (.int i4), s5] [])) target → Steps p.tables e below (T0.setTop (mkF m 8 #[s0, s1, s2, .val (.int i3), .val (.int i4), s5] [])) target := by
  refine ⟨T0, X0, e0, fun target kt => ?_⟩
  show Steps p.tables e below (T0.setTop (mkF m 8 #[s0, s1, s2, .val (.int i3), .val (.int i4), s5] [])) _
  refine XS.iload X0.here hx rfl (hb hby d1_8) rfl ?_
  show Steps p.tables e below (T0.setTop (mkF m 10 #[s0, s1, s2, .val (.int i3), .val (.int i4), s5] [(.int i4)])) _
  refine XS.iloadN X0.here hx rfl (hb hby d1_10) rfl ?_
  show Steps p.tables e below (T0.setTop (mkF m 11 #[s0, s1, s2, .val (.int i3), .val (.int i4), s5] [(.int i3), (.int i4)])) _
  refine XS.icmpYes X0.here hx rfl (pc0 := 11) (pc' := 34) rfl (hb hby d1_11) rfl (flt hc11).2.1 (by decide) (by decide) ?_
  exact kt
theorem loop1 {p : Program} {l : Launch} {e : Env} {R : Room} {s : State} {m : MethodId} {args : Array Value} {below : List Frame} {meth : Method} {c : Code} {locs : List Loc} {cells slots : Nat} {Z : State} {a0 : Array Value} {h0 : Heap} (s0 : Slot) (x : Int32) (o2 : Addr) (f : Nat → Int32) (n : Nat) (hn : n ≤ 255) (hx : p.tables.exec = Jvm.exec) (hZ : Z.Warmed39 s.vm) (hw : ∀ d ∈ tables_1, d.before a0 Z = true) (hby : c.code = prog_19_method_7_code) (hml : c.maxLocals = 6) (hown : s.vm.findClass "com/example/covercull/covercull/Interactions" = some m.cls) (cl : Cell) (Ar : Arr Z h0 o2 cl .int) (S : cl.slots.size = (Int32.ofNat n).toNatClampNeg) (hat : ∀ j, j < n → cl.slots[j]? = some (.int (f j))) :
    ∀ (k i : Nat) (T0 : State) (s5 : Slot), One s5 → i + k = n → Stand p l e R s m args below meth c T0 locs cells slots → T0.heap = h0 →
      (∃ (T' : State) (z : Int32) (s5' : Slot), Stand p l e R s m args below meth c T' locs cells slots ∧ T'.heap = h0 ∧ (∃ j, i ≤ j ∧ j < n ∧ f j = x) ∧
        ∀ target, Steps p.tables e below (T'.setTop (mkF m 26 #[s0, .val (.int x), .val (.ref o2), .val (.int (Int32.ofNat n)), .val (.int z), s5'] [])) target → Steps p.tables e below (T0.setTop (mkF m 8 #[s0, .val (.int x), .val (.ref o2), .val (.int (Int32.ofNat n)), .val (.int (Int32.ofNat i)), s5] [])) target) ∨
      (∃ (T' : State) (s5' : Slot), Stand p l e R s m args below meth c T' locs cells slots ∧ T'.heap = h0 ∧ (∀ j, i ≤ j → j < n → ¬ f j = x) ∧
        ∀ target, Steps p.tables e below (T'.setTop (mkF m 34 #[s0, .val (.int x), .val (.ref o2), .val (.int (Int32.ofNat n)), .val (.int (Int32.ofNat n)), s5'] [])) target → Steps p.tables e below (T0.setTop (mkF m 8 #[s0, .val (.int x), .val (.ref o2), .val (.int (Int32.ofNat n)), .val (.int (Int32.ofNat i)), s5] [])) target) := by
  intro k
  induction k with
  | zero =>
    intro i T0 s5 h5 hi X0 e0
    have hi' : i = n := by omega
    obtain ⟨T1, X1, e1, st1⟩ := tn1_out s0 (.val (.int x)) (.val (.ref o2)) (Int32.ofNat n) (Int32.ofNat n) s5 X0 hx hZ hw hby hml hown e0 Int32.lt_irrefl
    refine Or.inr ⟨T1, s5, X1, e1, fun j h1 h2 => absurd h2 (by omega), fun target h => ?_⟩
    rw [hi']
    exact st1 target h
  | succ k ih =>
    intro i T0 s5 h5 hi X0 e0
    have hin : ¬ (Int32.ofNat i < 0 ∨ cl.slots.size ≤ (Int32.ofNat i).toNatClampNeg) := by
      rw [S, own_n32 hn, own_n32 (by omega)]
      exact fun q => q.elim (own_nn (by omega)) (fun q => by omega)
    have hai : cl.slots[(Int32.ofNat i).toNatClampNeg]? = some (.int (f i)) := by rw [own_n32 (by omega)]; exact hat i (by omega)
    by_cases q : f i = x
    · obtain ⟨T1, X1, e1, st1⟩ := tn1_in s0 x o2 (Int32.ofNat n) (Int32.ofNat i) s5 (f i) cl X0 hx hZ hw hby hml hown e0 Ar hin hai h5 (own_lt (by omega) hn) q
      exact Or.inl ⟨T1, _, _, X1, e1, ⟨i, Nat.le_refl _, by omega, q⟩, st1⟩
    · obtain ⟨T1, X1, e1, st1⟩ := tn1_on s0 x o2 (Int32.ofNat n) (Int32.ofNat i) s5 (f i) cl X0 hx hZ hw hby hml hown e0 Ar hin hai h5 (own_lt (by omega) hn) q
      rw [own_one] at st1
      rcases ih (i + 1) T1 (.val (.int (f i))) (One.val rfl) (by omega) X1 e1 with ⟨T', z, s5', X', e', ⟨j, j1, j2, j3⟩, st⟩ | ⟨T', s5', X', e', hj, st⟩
      · exact Or.inl ⟨T', z, s5', X', e', ⟨j, by omega, j2, j3⟩, fun target h => st1 target (st target h)⟩
      · refine Or.inr ⟨T', s5', X', e', fun j h1 h2 => ?_, fun target h => st1 target (st target h)⟩
        by_cases g : i = j
        · subst g; exact q
        · exact hj j (by omega) h2
theorem d1_0 : decode prog_19_method_7_code 0 = .ok (.aload_n 0, 1) := by decide +kernel
theorem d1_1 : decode prog_19_method_7_code 1 = .ok (.astore_n 2, 1) := by decide +kernel
theorem d1_2 : decode prog_19_method_7_code 2 = .ok (.aload_n 2, 1) := by decide +kernel
theorem d1_3 : decode prog_19_method_7_code 3 = .ok (.arraylength, 1) := by decide +kernel
theorem d1_4 : decode prog_19_method_7_code 4 = .ok (.istore_n 3, 1) := by decide +kernel
theorem d1_5 : decode prog_19_method_7_code 5 = .ok (.iconst 0, 1) := by decide +kernel
theorem d1_6 : decode prog_19_method_7_code 6 = .ok (.istore 4, 2) := by decide +kernel
theorem d1_34 : decode prog_19_method_7_code 34 = .ok (.iconst 0, 1) := by decide +kernel
theorem d1_35 : decode prog_19_method_7_code 35 = .ok (.ireturn, 1) := by decide +kernel
theorem pn_1 : plainName "com/example/covercull/covercull/Interactions" = true := by first | (simp [plainName, overriddenIn]; done) | decide +kernel
theorem ef_1 (m : MethodId) (x0 : Addr) (x1 : Int32) : entryFrame m #[(.ref x0), (.int x1)] 6 = mkF m 0 #[.val (.ref x0), .val (.int x1), .unset, .unset, .unset, .unset] [] := by first | (simp [entryFrame, mkF, argsToLocals, Value.category]; done) | rfl
theorem d1_26 : decode prog_19_method_7_code 26 = .ok (.iconst 1, 1) := by decide +kernel
theorem d1_27 : decode prog_19_method_7_code 27 = .ok (.ireturn, 1) := by decide +kernel
def Q1 (Z : State) (a1 : Addr) (p2 : Int32) (f : Nat → Int32) (n : Nat) (h0 : Heap) (n0 : Nat) (v : Option Value) (h : Heap) (L : List Loc) : Prop := ((v = some (.int (1 : Int32)) ∧ ∃ j, j < n ∧ f j = p2) ∨ (v = some (.int (0 : Int32)) ∧ ∀ j, j < n → ¬ f j = p2)) ∧ Fr n0 L ∧ h = h0
set_option maxRecDepth 65536 in
set_option maxHeartbeats 40000000 in
theorem rm1 (l : Launch) (Z : State) (a0 : Array Value) (hw : ∀ d ∈ tables_1, d.before a0 Z = true) (ws : List Jvm.Cond) (a1 : Addr) (p2 : Int32) (f : Nat → Int32) (n : Nat) (hn : n ≤ 255) (cl : Cell) (h0 : Heap) (n0 : Nat) (Z0 : n0 ≤ h0.size) (Ar : Arr Z h0 a1 cl .int) (S : cl.slots.size = (Int32.ofNat n).toNatClampNeg) (hat : ∀ j, j < n → cl.slots[j]? = some (.int (f j))) :
    MetFree l (⟨"com/example/covercull/covercull/Interactions", "contains", "([II)Z"⟩ : MethodName) (head1 (Jvm.Cond.code (⟨"com/example/covercull/covercull/Interactions", "contains", "([II)Z"⟩ : MethodName) prog_19_method_7_code 6 (some .boolean) :: ws) ({ frames := 0, cells := 0, slots := 0, locals := 0 } : Room)) (fun a U => a = #[(.ref a1), (.int p2)] ∧ Z.Warmed39 U.vm ∧ U.heap = h0) (fun _ _ _ _ _ => True) (fun _ U o U' => ∃ v L, o = .returned v ∧ Q1 Z a1 p2 f n h0 n0 v U'.heap L ∧ FrameEnd U o U' L ({ frames := 0, cells := 0, slots := 0, locals := 0 } : Room).cells ({ frames := 0, cells := 0, slots := 0, locals := 0 } : Room).slots) := by
  refine MetFree.of_bodySF (plainFor_of_name pn_1) hisR ?_
  intro p e s m args below meth c s₁ Bd hml0 hP hK
  obtain ⟨rfl, hZ, hh⟩ := hP
  have hx := Bd.exec
  have hby := Bd.bytes
  have hml : c.maxLocals = 6 := hml0
  have hown : s.vm.findClass "com/example/covercull/covercull/Interactions" = some m.cls := findClass_of_methodNamed Bd.named
  have hnm := (name_of_methodNamed Bd.named Bd.method).1
  have X0 : Stand p l e ({ frames := 0, cells := 0, slots := 0, locals := 0 } : Room) s m #[(.ref a1), (.int p2)] below meth c s₁ [] 0 0 := Stand.of_body Bd
  have e0 : s₁.heap = h0 := by rw [← hh, Bd.state]; rfl
  have N0 := Fr.nil n0
  have pre0 : ∀ t, Steps p.tables e below (s₁.setTop (mkF m 0 #[.val (.ref a1), .val (.int p2), .unset, .unset, .unset, .unset] [])) t → Steps p.tables e below (s₁.setTop (entryFrame m #[(.ref a1), (.int p2)] 6)) t := fun t k => castTop (ef_1 m a1 p2) k
  rcases loop1 (.val (.ref a1)) p2 a1 f n hn hx hZ hw hby hml hown cl Ar S hat n 0 s₁ .unset One.u (by omega) X0 e0 with ⟨T1, z, s5, X1, e1, ⟨j, -, j2, j3⟩, st1⟩ | ⟨T1, s5, X1, e1, hj, st1⟩
  · obtain ⟨fs, hr, hrun, hended, hW, hsame⟩ := X1.leave (v := some (.int (1 : Int32))) (fun h => by rw [Bd.returns] at h; cases h)
    refine ⟨_, _, pre0 _ ?_, hrun, hended, _, _, rfl, ?_, ⟨_, rfl⟩, hW, hsame.mono (by decide) (by decide)⟩
    · show Steps p.tables e below (s₁.setTop (mkF m 0 #[.val (.ref a1), .val (.int p2), .unset, .unset, .unset, .unset] [])) _
      refine XS.aloadN X0.here hx rfl (hb hby d1_0) rfl rfl ?_
      show Steps p.tables e below (s₁.setTop (mkF m 1 #[.val (.ref a1), .val (.int p2), .unset, .unset, .unset, .unset] [(.ref a1)])) _
      refine XS.astoreN X0.here hx rfl (hb hby d1_1) rfl rfl (l' := #[.val (.ref a1), .val (.int p2), .val (.ref a1), .unset, .unset, .unset]) rfl ?_
      show Steps p.tables e below (s₁.setTop (mkF m 2 #[.val (.ref a1), .val (.int p2), .val (.ref a1), .unset, .unset, .unset] [])) _
      refine XS.aloadN X0.here hx rfl (hb hby d1_2) rfl rfl ?_
      show Steps p.tables e below (s₁.setTop (mkF m 3 #[.val (.ref a1), .val (.int p2), .val (.ref a1), .unset, .unset, .unset] [(.ref a1)])) _
      refine X0.arraylength hx (cell := cl) (by rw [e0]; exact Ar.1) (State.isArrayOf_alike hZ.alike Ar.2.1) (g := (mkF m 3 #[.val (.ref a1), .val (.int p2), .val (.ref a1), .unset, .unset, .unset] [(.ref a1)])) rfl rfl (hb hby d1_3) _ ?_
      rw [len_of S (own_nn hn)]
      show Steps p.tables e below (s₁.setTop (mkF m 4 #[.val (.ref a1), .val (.int p2), .val (.ref a1), .unset, .unset, .unset] [(.int (Int32.ofNat n))])) _
      refine XS.istoreN X0.here hx rfl (hb hby d1_4) rfl (l' := #[.val (.ref a1), .val (.int p2), .val (.ref a1), .val (.int (Int32.ofNat n)), .unset, .unset]) rfl ?_
      show Steps p.tables e below (s₁.setTop (mkF m 5 #[.val (.ref a1), .val (.int p2), .val (.ref a1), .val (.int (Int32.ofNat n)), .unset, .unset] [])) _
      refine XS.iconst X0.here hx rfl (hb hby d1_5) ?_
      show Steps p.tables e below (s₁.setTop (mkF m 6 #[.val (.ref a1), .val (.int p2), .val (.ref a1), .val (.int (Int32.ofNat n)), .unset, .unset] [(.int (0 : Int32))])) _
      refine XS.istore X0.here hx rfl (hb hby d1_6) rfl (l' := #[.val (.ref a1), .val (.int p2), .val (.ref a1), .val (.int (Int32.ofNat n)), .val (.int (0 : Int32)), .unset]) rfl ?_
      show Steps p.tables e below (s₁.setTop (mkF m 8 #[.val (.ref a1), .val (.int p2), .val (.ref a1), .val (.int (Int32.ofNat n)), .val (.int (0 : Int32)), .unset] [])) _
      refine st1 _ ?_
      show Steps p.tables e below (T1.setTop (mkF m 26 #[.val (.ref a1), .val (.int p2), .val (.ref a1), .val (.int (Int32.ofNat n)), .val (.int z), s5] [])) _
      refine XS.iconst X1.here hx rfl (hb hby d1_26) ?_
      show Steps p.tables e below (T1.setTop (mkF m 27 #[.val (.ref a1), .val (.int p2), .val (.ref a1), .val (.int (Int32.ofNat n)), .val (.int z), s5] [(.int (1 : Int32))])) _
      exact retN X1 hx (t := .boolean) Bd.returns (by simp) (hb hby d1_27) hr
    · show Q1 Z a1 p2 f n h0 n0 _ T1.heap _
      rw [e1]
      exact ⟨Or.inl ⟨rfl, j, j2, j3⟩, N0, rfl⟩
  · obtain ⟨fs, hr, hrun, hended, hW, hsame⟩ := X1.leave (v := some (.int (0 : Int32))) (fun h => by rw [Bd.returns] at h; cases h)
    refine ⟨_, _, pre0 _ ?_, hrun, hended, _, _, rfl, ?_, ⟨_, rfl⟩, hW, hsame.mono (by decide) (by decide)⟩
    · show Steps p.tables e below (s₁.setTop (mkF m 0 #[.val (.ref a1), .val (.int p2), .unset, .unset, .unset, .unset] [])) _
      refine XS.aloadN X0.here hx rfl (hb hby d1_0) rfl rfl ?_
      show Steps p.tables e below (s₁.setTop (mkF m 1 #[.val (.ref a1), .val (.int p2), .unset, .unset, .unset, .unset] [(.ref a1)])) _
      refine XS.astoreN X0.here hx rfl (hb hby d1_1) rfl rfl (l' := #[.val (.ref a1), .val (.int p2), .val (.ref a1), .unset, .unset, .unset]) rfl ?_
      show Steps p.tables e below (s₁.setTop (mkF m 2 #[.val (.ref a1), .val (.int p2), .val (.ref a1), .unset, .unset, .unset] [])) _
      refine XS.aloadN X0.here hx rfl (hb hby d1_2) rfl rfl ?_
      show Steps p.tables e below (s₁.setTop (mkF m 3 #[.val (.ref a1), .val (.int p2), .val (.ref a1), .unset, .unset, .unset] [(.ref a1)])) _
      refine X0.arraylength hx (cell := cl) (by rw [e0]; exact Ar.1) (State.isArrayOf_alike hZ.alike Ar.2.1) (g := (mkF m 3 #[.val (.ref a1), .val (.int p2), .val (.ref a1), .unset, .unset, .unset] [(.ref a1)])) rfl rfl (hb hby d1_3) _ ?_
      rw [len_of S (own_nn hn)]
      show Steps p.tables e below (s₁.setTop (mkF m 4 #[.val (.ref a1), .val (.int p2), .val (.ref a1), .unset, .unset, .unset] [(.int (Int32.ofNat n))])) _
      refine XS.istoreN X0.here hx rfl (hb hby d1_4) rfl (l' := #[.val (.ref a1), .val (.int p2), .val (.ref a1), .val (.int (Int32.ofNat n)), .unset, .unset]) rfl ?_
      show Steps p.tables e below (s₁.setTop (mkF m 5 #[.val (.ref a1), .val (.int p2), .val (.ref a1), .val (.int (Int32.ofNat n)), .unset, .unset] [])) _
      refine XS.iconst X0.here hx rfl (hb hby d1_5) ?_
      show Steps p.tables e below (s₁.setTop (mkF m 6 #[.val (.ref a1), .val (.int p2), .val (.ref a1), .val (.int (Int32.ofNat n)), .unset, .unset] [(.int (0 : Int32))])) _
      refine XS.istore X0.here hx rfl (hb hby d1_6) rfl (l' := #[.val (.ref a1), .val (.int p2), .val (.ref a1), .val (.int (Int32.ofNat n)), .val (.int (0 : Int32)), .unset]) rfl ?_
      show Steps p.tables e below (s₁.setTop (mkF m 8 #[.val (.ref a1), .val (.int p2), .val (.ref a1), .val (.int (Int32.ofNat n)), .val (.int (0 : Int32)), .unset] [])) _
      refine st1 _ ?_
      show Steps p.tables e below (T1.setTop (mkF m 34 #[.val (.ref a1), .val (.int p2), .val (.ref a1), .val (.int (Int32.ofNat n)), .val (.int (Int32.ofNat n)), s5] [])) _
      refine XS.iconst X1.here hx rfl (hb hby d1_34) ?_
      show Steps p.tables e below (T1.setTop (mkF m 35 #[.val (.ref a1), .val (.int p2), .val (.ref a1), .val (.int (Int32.ofNat n)), .val (.int (Int32.ofNat n)), s5] [(.int (0 : Int32))])) _
      exact retN X1 hx (t := .boolean) Bd.returns (by simp) (hb hby d1_35) hr
    · show Q1 Z a1 p2 f n h0 n0 _ T1.heap _
      rw [e1]
      exact ⟨Or.inr ⟨rfl, fun j h => hj j (Nat.zero_le _) h⟩, N0, rfl⟩
theorem os0_20 {z0 : Value} {s1 : Slot} {s2 : Slot} {s3 : Slot} {z4 : Value} {s5 : Slot} {s6 : Slot} {z7 : Value} {s8 : Slot} {s9 : Slot} {s10 : Slot} {v : Int32} (h : One s8) : storeLocals #[.val z0, s1, s2, s3, .val z4, s5, s6, .val z7, s8, s9, s10] 8 (.int v) = some #[.val z0, s1, s2, s3, .val z4, s5, s6, .val z7, .val (.int v), s9, s10] := by
  rcases h with rfl | ⟨w, rfl, hw⟩
  · rfl
  · cases w <;> first | rfl | (simp [Value.category] at hw)
set_option maxRecDepth 65536 in
set_option maxHeartbeats 40000000 in
theorem tn0_a_f {p : Program} {l : Launch} {e : Env} {R : Room} {s : State} {m : MethodId} {args : Array Value} {below : List Frame} {meth : Method} {c : Code} {T0 : State} {locs : List Loc} {cells slots : Nat} {Z : State} {a0 : Array Value} {h0 : Heap} (i0 : Int32) (s1 : Slot) (s2 : Slot) (s3 : Slot) (i4 : Int32) (s5 : Slot) (s6 : Slot) (i7 : Int32) (s8 : Slot) (s9 : Slot) (s10 : Slot)
    (X0 : Stand p l e R s m args below meth c T0 locs cells slots) (hx : p.tables.exec = Jvm.exec) (hZ : Z.Warmed39 s.vm) (hw : ∀ d ∈ tables_1, d.before a0 Z = true) (hby : c.code = code) (hml : c.maxLocals = 11) (hown : s.vm.findClass "com/example/covercull/covercull/InteractionsContainsPinLaw" = some m.cls) (e0 : T0.heap = h0) (hs8 : One s8) (hc24 : i7 = (0 : Int32)) :
    ∃ (T' : State), Stand p l e R s m args below meth c T' locs cells slots ∧ T'.heap = h0 ∧
      ∀ target, Steps p.tables e below (T'.setTop (mkF m 66 #[.val (.int i0), s1, s2, s3, .val (.int i4), s5, s6, .val (.int i7), .val (.int i0), s9, s10] [])) target → Steps p.tables e below (T0.setTop (mkF m 18 #[.val (.int i0), s1, s2, s3, .val (.int i4), s5, s6, .val (.int i7), s8, s9, s10] [])) target := by
  refine ⟨T0, X0, e0, fun target kt => ?_⟩
  show Steps p.tables e below (T0.setTop (mkF m 18 #[.val (.int i0), s1, s2, s3, .val (.int i4), s5, s6, .val (.int i7), s8, s9, s10] [])) _
  refine XS.iload X0.here hx rfl (hb hby at_18) rfl ?_
  show Steps p.tables e below (T0.setTop (mkF m 20 #[.val (.int i0), s1, s2, s3, .val (.int i4), s5, s6, .val (.int i7), s8, s9, s10] [(.int i4)])) _
  refine XS.istore X0.here hx rfl (hb hby at_20) rfl (l' := #[.val (.int i0), s1, s2, s3, .val (.int i4), s5, s6, .val (.int i7), .val (.int i4), s9, s10]) (os0_20 hs8) ?_
  show Steps p.tables e below (T0.setTop (mkF m 22 #[.val (.int i0), s1, s2, s3, .val (.int i4), s5, s6, .val (.int i7), .val (.int i4), s9, s10] [])) _
  refine XS.iload X0.here hx rfl (hb hby at_22) rfl ?_
  show Steps p.tables e below (T0.setTop (mkF m 24 #[.val (.int i0), s1, s2, s3, .val (.int i4), s5, s6, .val (.int i7), .val (.int i4), s9, s10] [(.int i7)])) _
  refine XS.ifNo X0.here hx rfl (hb hby at_24) rfl ((if0 _ _).trans (teq hc24).2) ?_
  show Steps p.tables e below (T0.setTop (mkF m 27 #[.val (.int i0), s1, s2, s3, .val (.int i4), s5, s6, .val (.int i7), .val (.int i4), s9, s10] [])) _
  refine XS.iloadN X0.here hx rfl (hb hby at_27) rfl ?_
  show Steps p.tables e below (T0.setTop (mkF m 28 #[.val (.int i0), s1, s2, s3, .val (.int i4), s5, s6, .val (.int i7), .val (.int i4), s9, s10] [(.int i0)])) _
  refine XS.istore X0.here hx rfl (hb hby at_28) rfl (l' := #[.val (.int i0), s1, s2, s3, .val (.int i4), s5, s6, .val (.int i7), .val (.int i0), s9, s10]) rfl ?_
  show Steps p.tables e below (T0.setTop (mkF m 30 #[.val (.int i0), s1, s2, s3, .val (.int i4), s5, s6, .val (.int i7), .val (.int i0), s9, s10] [])) _
  refine XS.goto X0.here hx rfl (pc0 := 30) (pc' := 66) rfl (hb hby at_30) (by decide) (by decide) ?_
  exact kt
theorem os0_20_tn0_a_tf {s0 : Slot} {z1 : Value} {s2 : Slot} {s3 : Slot} {z4 : Value} {s5 : Slot} {s6 : Slot} {z7 : Value} {s8 : Slot} {s9 : Slot} {s10 : Slot} {v : Int32} (h : One s8) : storeLocals #[s0, .val z1, s2, s3, .val z4, s5, s6, .val z7, s8, s9, s10] 8 (.int v) = some #[s0, .val z1, s2, s3, .val z4, s5, s6, .val z7, .val (.int v), s9, s10] := by
  rcases h with rfl | ⟨w, rfl, hw⟩
  · rfl
  · cases w <;> first | rfl | (simp [Value.category] at hw)
set_option maxRecDepth 65536 in
set_option maxHeartbeats 40000000 in
theorem tn0_a_tf {p : Program} {l : Launch} {e : Env} {R : Room} {s : State} {m : MethodId} {args : Array Value} {below : List Frame} {meth : Method} {c : Code} {T0 : State} {locs : List Loc} {cells slots : Nat} {Z : State} {a0 : Array Value} {h0 : Heap} (s0 : Slot) (i1 : Int32) (s2 : Slot) (s3 : Slot) (i4 : Int32) (s5 : Slot) (s6 : Slot) (i7 : Int32) (s8 : Slot) (s9 : Slot) (s10 : Slot)
    (X0 : Stand p l e R s m args below meth c T0 locs cells slots) (hx : p.tables.exec = Jvm.exec) (hZ : Z.Warmed39 s.vm) (hw : ∀ d ∈ tables_1, d.before a0 Z = true) (hby : c.code = code) (hml : c.maxLocals = 11) (hown : s.vm.findClass "com/example/covercull/covercull/InteractionsContainsPinLaw" = some m.cls) (e0 : T0.heap = h0) (hs8 : One s8) (hc24 : ¬ (i7 = (0 : Int32))) (hc36 : i7 = (1 : Int32)) :
    ∃ (T' : State), Stand p l e R s m args below meth c T' locs cells slots ∧ T'.heap = h0 ∧
      ∀ target, Steps p.tables e below (T'.setTop (mkF m 66 #[s0, .val (.int i1), s2, s3, .val (.int i4), s5, s6, .val (.int i7), .val (.int i1), s9, s10] [])) target → Steps p.tables e below (T0.setTop (mkF m 18 #[s0, .val (.int i1), s2, s3, .val (.int i4), s5, s6, .val (.int i7), s8, s9, s10] [])) target := by
  refine ⟨T0, X0, e0, fun target kt => ?_⟩
  show Steps p.tables e below (T0.setTop (mkF m 18 #[s0, .val (.int i1), s2, s3, .val (.int i4), s5, s6, .val (.int i7), s8, s9, s10] [])) _
  refine XS.iload X0.here hx rfl (hb hby at_18) rfl ?_
  show Steps p.tables e below (T0.setTop (mkF m 20 #[s0, .val (.int i1), s2, s3, .val (.int i4), s5, s6, .val (.int i7), s8, s9, s10] [(.int i4)])) _
  refine XS.istore X0.here hx rfl (hb hby at_20) rfl (l' := #[s0, .val (.int i1), s2, s3, .val (.int i4), s5, s6, .val (.int i7), .val (.int i4), s9, s10]) (os0_20_tn0_a_tf hs8) ?_
  show Steps p.tables e below (T0.setTop (mkF m 22 #[s0, .val (.int i1), s2, s3, .val (.int i4), s5, s6, .val (.int i7), .val (.int i4), s9, s10] [])) _
  refine XS.iload X0.here hx rfl (hb hby at_22) rfl ?_
  show Steps p.tables e below (T0.setTop (mkF m 24 #[s0, .val (.int i1), s2, s3, .val (.int i4), s5, s6, .val (.int i7), .val (.int i4), s9, s10] [(.int i7)])) _
  refine XS.ifYes X0.here hx rfl (pc0 := 24) (pc' := 33) rfl (hb hby at_24) rfl ((if0 _ _).trans (feq hc24).2) (by decide) (by decide) ?_
  show Steps p.tables e below (T0.setTop (mkF m 33 #[s0, .val (.int i1), s2, s3, .val (.int i4), s5, s6, .val (.int i7), .val (.int i4), s9, s10] [])) _
  refine XS.iload X0.here hx rfl (hb hby at_33) rfl ?_
  show Steps p.tables e below (T0.setTop (mkF m 35 #[s0, .val (.int i1), s2, s3, .val (.int i4), s5, s6, .val (.int i7), .val (.int i4), s9, s10] [(.int i7)])) _
  refine XS.iconst X0.here hx rfl (hb hby at_35) ?_
  show Steps p.tables e below (T0.setTop (mkF m 36 #[s0, .val (.int i1), s2, s3, .val (.int i4), s5, s6, .val (.int i7), .val (.int i4), s9, s10] [(.int (1 : Int32)), (.int i7)])) _
  refine XS.icmpNo X0.here hx rfl (hb hby at_36) rfl (teq hc36).2 ?_
  show Steps p.tables e below (T0.setTop (mkF m 39 #[s0, .val (.int i1), s2, s3, .val (.int i4), s5, s6, .val (.int i7), .val (.int i4), s9, s10] [])) _
  refine XS.iloadN X0.here hx rfl (hb hby at_39) rfl ?_
  show Steps p.tables e below (T0.setTop (mkF m 40 #[s0, .val (.int i1), s2, s3, .val (.int i4), s5, s6, .val (.int i7), .val (.int i4), s9, s10] [(.int i1)])) _
  refine XS.istore X0.here hx rfl (hb hby at_40) rfl (l' := #[s0, .val (.int i1), s2, s3, .val (.int i4), s5, s6, .val (.int i7), .val (.int i1), s9, s10]) rfl ?_
  show Steps p.tables e below (T0.setTop (mkF m 42 #[s0, .val (.int i1), s2, s3, .val (.int i4), s5, s6, .val (.int i7), .val (.int i1), s9, s10] [])) _
  refine XS.goto X0.here hx rfl (pc0 := 42) (pc' := 66) rfl (hb hby at_42) (by decide) (by decide) ?_
  exact kt
theorem os0_20_tn0_a_ttf {s0 : Slot} {s1 : Slot} {z2 : Value} {s3 : Slot} {z4 : Value} {s5 : Slot} {s6 : Slot} {z7 : Value} {s8 : Slot} {s9 : Slot} {s10 : Slot} {v : Int32} (h : One s8) : storeLocals #[s0, s1, .val z2, s3, .val z4, s5, s6, .val z7, s8, s9, s10] 8 (.int v) = some #[s0, s1, .val z2, s3, .val z4, s5, s6, .val z7, .val (.int v), s9, s10] := by
  rcases h with rfl | ⟨w, rfl, hw⟩
  · rfl
  · cases w <;> first | rfl | (simp [Value.category] at hw)
set_option maxRecDepth 65536 in
set_option maxHeartbeats 40000000 in
theorem tn0_a_ttf {p : Program} {l : Launch} {e : Env} {R : Room} {s : State} {m : MethodId} {args : Array Value} {below : List Frame} {meth : Method} {c : Code} {T0 : State} {locs : List Loc} {cells slots : Nat} {Z : State} {a0 : Array Value} {h0 : Heap} (s0 : Slot) (s1 : Slot) (i2 : Int32) (s3 : Slot) (i4 : Int32) (s5 : Slot) (s6 : Slot) (i7 : Int32) (s8 : Slot) (s9 : Slot) (s10 : Slot)
    (X0 : Stand p l e R s m args below meth c T0 locs cells slots) (hx : p.tables.exec = Jvm.exec) (hZ : Z.Warmed39 s.vm) (hw : ∀ d ∈ tables_1, d.before a0 Z = true) (hby : c.code = code) (hml : c.maxLocals = 11) (hown : s.vm.findClass "com/example/covercull/covercull/InteractionsContainsPinLaw" = some m.cls) (e0 : T0.heap = h0) (hs8 : One s8) (hc24 : ¬ (i7 = (0 : Int32))) (hc36 : ¬ (i7 = (1 : Int32))) (hc48 : i7 = (2 : Int32)) :
    ∃ (T' : State), Stand p l e R s m args below meth c T' locs cells slots ∧ T'.heap = h0 ∧
      ∀ target, Steps p.tables e below (T'.setTop (mkF m 66 #[s0, s1, .val (.int i2), s3, .val (.int i4), s5, s6, .val (.int i7), .val (.int i2), s9, s10] [])) target → Steps p.tables e below (T0.setTop (mkF m 18 #[s0, s1, .val (.int i2), s3, .val (.int i4), s5, s6, .val (.int i7), s8, s9, s10] [])) target := by
  refine ⟨T0, X0, e0, fun target kt => ?_⟩
  show Steps p.tables e below (T0.setTop (mkF m 18 #[s0, s1, .val (.int i2), s3, .val (.int i4), s5, s6, .val (.int i7), s8, s9, s10] [])) _
  refine XS.iload X0.here hx rfl (hb hby at_18) rfl ?_
  show Steps p.tables e below (T0.setTop (mkF m 20 #[s0, s1, .val (.int i2), s3, .val (.int i4), s5, s6, .val (.int i7), s8, s9, s10] [(.int i4)])) _
  refine XS.istore X0.here hx rfl (hb hby at_20) rfl (l' := #[s0, s1, .val (.int i2), s3, .val (.int i4), s5, s6, .val (.int i7), .val (.int i4), s9, s10]) (os0_20_tn0_a_ttf hs8) ?_
  show Steps p.tables e below (T0.setTop (mkF m 22 #[s0, s1, .val (.int i2), s3, .val (.int i4), s5, s6, .val (.int i7), .val (.int i4), s9, s10] [])) _
  refine XS.iload X0.here hx rfl (hb hby at_22) rfl ?_
  show Steps p.tables e below (T0.setTop (mkF m 24 #[s0, s1, .val (.int i2), s3, .val (.int i4), s5, s6, .val (.int i7), .val (.int i4), s9, s10] [(.int i7)])) _
  refine XS.ifYes X0.here hx rfl (pc0 := 24) (pc' := 33) rfl (hb hby at_24) rfl ((if0 _ _).trans (feq hc24).2) (by decide) (by decide) ?_
  show Steps p.tables e below (T0.setTop (mkF m 33 #[s0, s1, .val (.int i2), s3, .val (.int i4), s5, s6, .val (.int i7), .val (.int i4), s9, s10] [])) _
  refine XS.iload X0.here hx rfl (hb hby at_33) rfl ?_
  show Steps p.tables e below (T0.setTop (mkF m 35 #[s0, s1, .val (.int i2), s3, .val (.int i4), s5, s6, .val (.int i7), .val (.int i4), s9, s10] [(.int i7)])) _
  refine XS.iconst X0.here hx rfl (hb hby at_35) ?_
  show Steps p.tables e below (T0.setTop (mkF m 36 #[s0, s1, .val (.int i2), s3, .val (.int i4), s5, s6, .val (.int i7), .val (.int i4), s9, s10] [(.int (1 : Int32)), (.int i7)])) _
  refine XS.icmpYes X0.here hx rfl (pc0 := 36) (pc' := 45) rfl (hb hby at_36) rfl (feq hc36).2 (by decide) (by decide) ?_
  show Steps p.tables e below (T0.setTop (mkF m 45 #[s0, s1, .val (.int i2), s3, .val (.int i4), s5, s6, .val (.int i7), .val (.int i4), s9, s10] [])) _
  refine XS.iload X0.here hx rfl (hb hby at_45) rfl ?_
  show Steps p.tables e below (T0.setTop (mkF m 47 #[s0, s1, .val (.int i2), s3, .val (.int i4), s5, s6, .val (.int i7), .val (.int i4), s9, s10] [(.int i7)])) _
  refine XS.iconst X0.here hx rfl (hb hby at_47) ?_
  show Steps p.tables e below (T0.setTop (mkF m 48 #[s0, s1, .val (.int i2), s3, .val (.int i4), s5, s6, .val (.int i7), .val (.int i4), s9, s10] [(.int (2 : Int32)), (.int i7)])) _
  refine XS.icmpNo X0.here hx rfl (hb hby at_48) rfl (teq hc48).2 ?_
  show Steps p.tables e below (T0.setTop (mkF m 51 #[s0, s1, .val (.int i2), s3, .val (.int i4), s5, s6, .val (.int i7), .val (.int i4), s9, s10] [])) _
  refine XS.iloadN X0.here hx rfl (hb hby at_51) rfl ?_
  show Steps p.tables e below (T0.setTop (mkF m 52 #[s0, s1, .val (.int i2), s3, .val (.int i4), s5, s6, .val (.int i7), .val (.int i4), s9, s10] [(.int i2)])) _
  refine XS.istore X0.here hx rfl (hb hby at_52) rfl (l' := #[s0, s1, .val (.int i2), s3, .val (.int i4), s5, s6, .val (.int i7), .val (.int i2), s9, s10]) rfl ?_
  show Steps p.tables e below (T0.setTop (mkF m 54 #[s0, s1, .val (.int i2), s3, .val (.int i4), s5, s6, .val (.int i7), .val (.int i2), s9, s10] [])) _
  refine XS.goto X0.here hx rfl (pc0 := 54) (pc' := 66) rfl (hb hby at_54) (by decide) (by decide) ?_
  exact kt
theorem os0_20_tn0_a_tttf {s0 : Slot} {s1 : Slot} {s2 : Slot} {z3 : Value} {z4 : Value} {s5 : Slot} {s6 : Slot} {z7 : Value} {s8 : Slot} {s9 : Slot} {s10 : Slot} {v : Int32} (h : One s8) : storeLocals #[s0, s1, s2, .val z3, .val z4, s5, s6, .val z7, s8, s9, s10] 8 (.int v) = some #[s0, s1, s2, .val z3, .val z4, s5, s6, .val z7, .val (.int v), s9, s10] := by
  rcases h with rfl | ⟨w, rfl, hw⟩
  · rfl
  · cases w <;> first | rfl | (simp [Value.category] at hw)
set_option maxRecDepth 65536 in
set_option maxHeartbeats 40000000 in
theorem tn0_a_tttf {p : Program} {l : Launch} {e : Env} {R : Room} {s : State} {m : MethodId} {args : Array Value} {below : List Frame} {meth : Method} {c : Code} {T0 : State} {locs : List Loc} {cells slots : Nat} {Z : State} {a0 : Array Value} {h0 : Heap} (s0 : Slot) (s1 : Slot) (s2 : Slot) (i3 : Int32) (i4 : Int32) (s5 : Slot) (s6 : Slot) (i7 : Int32) (s8 : Slot) (s9 : Slot) (s10 : Slot)
    (X0 : Stand p l e R s m args below meth c T0 locs cells slots) (hx : p.tables.exec = Jvm.exec) (hZ : Z.Warmed39 s.vm) (hw : ∀ d ∈ tables_1, d.before a0 Z = true) (hby : c.code = code) (hml : c.maxLocals = 11) (hown : s.vm.findClass "com/example/covercull/covercull/InteractionsContainsPinLaw" = some m.cls) (e0 : T0.heap = h0) (hs8 : One s8) (hc24 : ¬ (i7 = (0 : Int32))) (hc36 : ¬ (i7 = (1 : Int32))) (hc48 : ¬ (i7 = (2 : Int32))) (hc60 : i7 = (3 : Int32)) :
    ∃ (T' : State), Stand p l e R s m args below meth c T' locs cells slots ∧ T'.heap = h0 ∧
      ∀ target, Steps p.tables e below (T'.setTop (mkF m 66 #[s0, s1, s2, .val (.int i3), .val (.int i4), s5, s6, .val (.int i7), .val (.int i3), s9, s10] [])) target → Steps p.tables e below (T0.setTop (mkF m 18 #[s0, s1, s2, .val (.int i3), .val (.int i4), s5, s6, .val (.int i7), s8, s9, s10] [])) target := by
  refine ⟨T0, X0, e0, fun target kt => ?_⟩
  show Steps p.tables e below (T0.setTop (mkF m 18 #[s0, s1, s2, .val (.int i3), .val (.int i4), s5, s6, .val (.int i7), s8, s9, s10] [])) _
  refine XS.iload X0.here hx rfl (hb hby at_18) rfl ?_
  show Steps p.tables e below (T0.setTop (mkF m 20 #[s0, s1, s2, .val (.int i3), .val (.int i4), s5, s6, .val (.int i7), s8, s9, s10] [(.int i4)])) _
  refine XS.istore X0.here hx rfl (hb hby at_20) rfl (l' := #[s0, s1, s2, .val (.int i3), .val (.int i4), s5, s6, .val (.int i7), .val (.int i4), s9, s10]) (os0_20_tn0_a_tttf hs8) ?_
  show Steps p.tables e below (T0.setTop (mkF m 22 #[s0, s1, s2, .val (.int i3), .val (.int i4), s5, s6, .val (.int i7), .val (.int i4), s9, s10] [])) _
  refine XS.iload X0.here hx rfl (hb hby at_22) rfl ?_
  show Steps p.tables e below (T0.setTop (mkF m 24 #[s0, s1, s2, .val (.int i3), .val (.int i4), s5, s6, .val (.int i7), .val (.int i4), s9, s10] [(.int i7)])) _
  refine XS.ifYes X0.here hx rfl (pc0 := 24) (pc' := 33) rfl (hb hby at_24) rfl ((if0 _ _).trans (feq hc24).2) (by decide) (by decide) ?_
  show Steps p.tables e below (T0.setTop (mkF m 33 #[s0, s1, s2, .val (.int i3), .val (.int i4), s5, s6, .val (.int i7), .val (.int i4), s9, s10] [])) _
  refine XS.iload X0.here hx rfl (hb hby at_33) rfl ?_
  show Steps p.tables e below (T0.setTop (mkF m 35 #[s0, s1, s2, .val (.int i3), .val (.int i4), s5, s6, .val (.int i7), .val (.int i4), s9, s10] [(.int i7)])) _
  refine XS.iconst X0.here hx rfl (hb hby at_35) ?_
  show Steps p.tables e below (T0.setTop (mkF m 36 #[s0, s1, s2, .val (.int i3), .val (.int i4), s5, s6, .val (.int i7), .val (.int i4), s9, s10] [(.int (1 : Int32)), (.int i7)])) _
  refine XS.icmpYes X0.here hx rfl (pc0 := 36) (pc' := 45) rfl (hb hby at_36) rfl (feq hc36).2 (by decide) (by decide) ?_
  show Steps p.tables e below (T0.setTop (mkF m 45 #[s0, s1, s2, .val (.int i3), .val (.int i4), s5, s6, .val (.int i7), .val (.int i4), s9, s10] [])) _
  refine XS.iload X0.here hx rfl (hb hby at_45) rfl ?_
  show Steps p.tables e below (T0.setTop (mkF m 47 #[s0, s1, s2, .val (.int i3), .val (.int i4), s5, s6, .val (.int i7), .val (.int i4), s9, s10] [(.int i7)])) _
  refine XS.iconst X0.here hx rfl (hb hby at_47) ?_
  show Steps p.tables e below (T0.setTop (mkF m 48 #[s0, s1, s2, .val (.int i3), .val (.int i4), s5, s6, .val (.int i7), .val (.int i4), s9, s10] [(.int (2 : Int32)), (.int i7)])) _
  refine XS.icmpYes X0.here hx rfl (pc0 := 48) (pc' := 57) rfl (hb hby at_48) rfl (feq hc48).2 (by decide) (by decide) ?_
  show Steps p.tables e below (T0.setTop (mkF m 57 #[s0, s1, s2, .val (.int i3), .val (.int i4), s5, s6, .val (.int i7), .val (.int i4), s9, s10] [])) _
  refine XS.iload X0.here hx rfl (hb hby at_57) rfl ?_
  show Steps p.tables e below (T0.setTop (mkF m 59 #[s0, s1, s2, .val (.int i3), .val (.int i4), s5, s6, .val (.int i7), .val (.int i4), s9, s10] [(.int i7)])) _
  refine XS.iconst X0.here hx rfl (hb hby at_59) ?_
  show Steps p.tables e below (T0.setTop (mkF m 60 #[s0, s1, s2, .val (.int i3), .val (.int i4), s5, s6, .val (.int i7), .val (.int i4), s9, s10] [(.int (3 : Int32)), (.int i7)])) _
  refine XS.icmpNo X0.here hx rfl (hb hby at_60) rfl (teq hc60).2 ?_
  show Steps p.tables e below (T0.setTop (mkF m 63 #[s0, s1, s2, .val (.int i3), .val (.int i4), s5, s6, .val (.int i7), .val (.int i4), s9, s10] [])) _
  refine XS.iloadN X0.here hx rfl (hb hby at_63) rfl ?_
  show Steps p.tables e below (T0.setTop (mkF m 64 #[s0, s1, s2, .val (.int i3), .val (.int i4), s5, s6, .val (.int i7), .val (.int i4), s9, s10] [(.int i3)])) _
  refine XS.istore X0.here hx rfl (hb hby at_64) rfl (l' := #[s0, s1, s2, .val (.int i3), .val (.int i4), s5, s6, .val (.int i7), .val (.int i3), s9, s10]) rfl ?_
  exact kt
theorem os0_20_tn0_a_tttt {s0 : Slot} {s1 : Slot} {s2 : Slot} {s3 : Slot} {z4 : Value} {s5 : Slot} {s6 : Slot} {z7 : Value} {s8 : Slot} {s9 : Slot} {s10 : Slot} {v : Int32} (h : One s8) : storeLocals #[s0, s1, s2, s3, .val z4, s5, s6, .val z7, s8, s9, s10] 8 (.int v) = some #[s0, s1, s2, s3, .val z4, s5, s6, .val z7, .val (.int v), s9, s10] := by
  rcases h with rfl | ⟨w, rfl, hw⟩
  · rfl
  · cases w <;> first | rfl | (simp [Value.category] at hw)
set_option maxRecDepth 65536 in
set_option maxHeartbeats 40000000 in
theorem tn0_a_tttt {p : Program} {l : Launch} {e : Env} {R : Room} {s : State} {m : MethodId} {args : Array Value} {below : List Frame} {meth : Method} {c : Code} {T0 : State} {locs : List Loc} {cells slots : Nat} {Z : State} {a0 : Array Value} {h0 : Heap} (s0 : Slot) (s1 : Slot) (s2 : Slot) (s3 : Slot) (i4 : Int32) (s5 : Slot) (s6 : Slot) (i7 : Int32) (s8 : Slot) (s9 : Slot) (s10 : Slot)
    (X0 : Stand p l e R s m args below meth c T0 locs cells slots) (hx : p.tables.exec = Jvm.exec) (hZ : Z.Warmed39 s.vm) (hw : ∀ d ∈ tables_1, d.before a0 Z = true) (hby : c.code = code) (hml : c.maxLocals = 11) (hown : s.vm.findClass "com/example/covercull/covercull/InteractionsContainsPinLaw" = some m.cls) (e0 : T0.heap = h0) (hs8 : One s8) (hc24 : ¬ (i7 = (0 : Int32))) (hc36 : ¬ (i7 = (1 : Int32))) (hc48 : ¬ (i7 = (2 : Int32))) (hc60 : ¬ (i7 = (3 : Int32))) :
    ∃ (T' : State), Stand p l e R s m args below meth c T' locs cells slots ∧ T'.heap = h0 ∧
      ∀ target, Steps p.tables e below (T'.setTop (mkF m 66 #[s0, s1, s2, s3, .val (.int i4), s5, s6, .val (.int i7), .val (.int i4), s9, s10] [])) target → Steps p.tables e below (T0.setTop (mkF m 18 #[s0, s1, s2, s3, .val (.int i4), s5, s6, .val (.int i7), s8, s9, s10] [])) target := by
  refine ⟨T0, X0, e0, fun target kt => ?_⟩
  show Steps p.tables e below (T0.setTop (mkF m 18 #[s0, s1, s2, s3, .val (.int i4), s5, s6, .val (.int i7), s8, s9, s10] [])) _
  refine XS.iload X0.here hx rfl (hb hby at_18) rfl ?_
  show Steps p.tables e below (T0.setTop (mkF m 20 #[s0, s1, s2, s3, .val (.int i4), s5, s6, .val (.int i7), s8, s9, s10] [(.int i4)])) _
  refine XS.istore X0.here hx rfl (hb hby at_20) rfl (l' := #[s0, s1, s2, s3, .val (.int i4), s5, s6, .val (.int i7), .val (.int i4), s9, s10]) (os0_20_tn0_a_tttt hs8) ?_
  show Steps p.tables e below (T0.setTop (mkF m 22 #[s0, s1, s2, s3, .val (.int i4), s5, s6, .val (.int i7), .val (.int i4), s9, s10] [])) _
  refine XS.iload X0.here hx rfl (hb hby at_22) rfl ?_
  show Steps p.tables e below (T0.setTop (mkF m 24 #[s0, s1, s2, s3, .val (.int i4), s5, s6, .val (.int i7), .val (.int i4), s9, s10] [(.int i7)])) _
  refine XS.ifYes X0.here hx rfl (pc0 := 24) (pc' := 33) rfl (hb hby at_24) rfl ((if0 _ _).trans (feq hc24).2) (by decide) (by decide) ?_
  show Steps p.tables e below (T0.setTop (mkF m 33 #[s0, s1, s2, s3, .val (.int i4), s5, s6, .val (.int i7), .val (.int i4), s9, s10] [])) _
  refine XS.iload X0.here hx rfl (hb hby at_33) rfl ?_
  show Steps p.tables e below (T0.setTop (mkF m 35 #[s0, s1, s2, s3, .val (.int i4), s5, s6, .val (.int i7), .val (.int i4), s9, s10] [(.int i7)])) _
  refine XS.iconst X0.here hx rfl (hb hby at_35) ?_
  show Steps p.tables e below (T0.setTop (mkF m 36 #[s0, s1, s2, s3, .val (.int i4), s5, s6, .val (.int i7), .val (.int i4), s9, s10] [(.int (1 : Int32)), (.int i7)])) _
  refine XS.icmpYes X0.here hx rfl (pc0 := 36) (pc' := 45) rfl (hb hby at_36) rfl (feq hc36).2 (by decide) (by decide) ?_
  show Steps p.tables e below (T0.setTop (mkF m 45 #[s0, s1, s2, s3, .val (.int i4), s5, s6, .val (.int i7), .val (.int i4), s9, s10] [])) _
  refine XS.iload X0.here hx rfl (hb hby at_45) rfl ?_
  show Steps p.tables e below (T0.setTop (mkF m 47 #[s0, s1, s2, s3, .val (.int i4), s5, s6, .val (.int i7), .val (.int i4), s9, s10] [(.int i7)])) _
  refine XS.iconst X0.here hx rfl (hb hby at_47) ?_
  show Steps p.tables e below (T0.setTop (mkF m 48 #[s0, s1, s2, s3, .val (.int i4), s5, s6, .val (.int i7), .val (.int i4), s9, s10] [(.int (2 : Int32)), (.int i7)])) _
  refine XS.icmpYes X0.here hx rfl (pc0 := 48) (pc' := 57) rfl (hb hby at_48) rfl (feq hc48).2 (by decide) (by decide) ?_
  show Steps p.tables e below (T0.setTop (mkF m 57 #[s0, s1, s2, s3, .val (.int i4), s5, s6, .val (.int i7), .val (.int i4), s9, s10] [])) _
  refine XS.iload X0.here hx rfl (hb hby at_57) rfl ?_
  show Steps p.tables e below (T0.setTop (mkF m 59 #[s0, s1, s2, s3, .val (.int i4), s5, s6, .val (.int i7), .val (.int i4), s9, s10] [(.int i7)])) _
  refine XS.iconst X0.here hx rfl (hb hby at_59) ?_
  show Steps p.tables e below (T0.setTop (mkF m 60 #[s0, s1, s2, s3, .val (.int i4), s5, s6, .val (.int i7), .val (.int i4), s9, s10] [(.int (3 : Int32)), (.int i7)])) _
  refine XS.icmpYes X0.here hx rfl (pc0 := 60) (pc' := 66) rfl (hb hby at_60) rfl (feq hc60).2 (by decide) (by decide) ?_
  exact kt
theorem os0_167 {s0 : Slot} {s1 : Slot} {s2 : Slot} {s3 : Slot} {s4 : Slot} {s5 : Slot} {z6 : Value} {s7 : Slot} {s8 : Slot} {s9 : Slot} {s10 : Slot} {v : Int32} (h : One s10) : storeLocals #[s0, s1, s2, s3, s4, s5, .val z6, s7, s8, s9, s10] 10 (.int v) = some #[s0, s1, s2, s3, s4, s5, .val z6, s7, s8, s9, .val (.int v)] := by
  rcases h with rfl | ⟨w, rfl, hw⟩
  · rfl
  · cases w <;> first | rfl | (simp [Value.category] at hw)
set_option maxRecDepth 65536 in
set_option maxHeartbeats 40000000 in
theorem tn0_c_tttt {p : Program} {l : Launch} {e : Env} {R : Room} {s : State} {m : MethodId} {args : Array Value} {below : List Frame} {meth : Method} {c : Code} {T0 : State} {locs : List Loc} {cells slots : Nat} {Z : State} {a0 : Array Value} {h0 : Heap} (s0 : Slot) (s1 : Slot) (s2 : Slot) (s3 : Slot) (s4 : Slot) (s5 : Slot) (i6 : Int32) (s7 : Slot) (s8 : Slot) (s9 : Slot) (s10 : Slot)
    (X0 : Stand p l e R s m args below meth c T0 locs cells slots) (hx : p.tables.exec = Jvm.exec) (hZ : Z.Warmed39 s.vm) (hw : ∀ d ∈ tables_1, d.before a0 Z = true) (hby : c.code = code) (hml : c.maxLocals = 11) (hown : s.vm.findClass "com/example/covercull/covercull/InteractionsContainsPinLaw" = some m.cls) (e0 : T0.heap = h0) (hs10 : One s10) (hc117 : ¬ ((0 : Int32) < i6)) (hc129 : ¬ ((1 : Int32) < i6)) (hc141 : ¬ ((2 : Int32) < i6)) (hc153 : ¬ ((3 : Int32) < i6)) :
    ∃ (T' : State), Stand p l e R s m args below meth c T' locs cells slots ∧ T'.heap = h0 ∧
      ∀ target, Steps p.tables e below (T'.setTop (mkF m 169 #[s0, s1, s2, s3, s4, s5, .val (.int i6), s7, s8, s9, .val (.int (0 : Int32))] [])) target → Steps p.tables e below (T0.setTop (mkF m 115 #[s0, s1, s2, s3, s4, s5, .val (.int i6), s7, s8, s9, s10] [])) target := by
  refine ⟨T0, X0, e0, fun target kt => ?_⟩
  show Steps p.tables e below (T0.setTop (mkF m 115 #[s0, s1, s2, s3, s4, s5, .val (.int i6), s7, s8, s9, s10] [])) _
  refine XS.iload X0.here hx rfl (hb hby at_115) rfl ?_
  show Steps p.tables e below (T0.setTop (mkF m 117 #[s0, s1, s2, s3, s4, s5, .val (.int i6), s7, s8, s9, s10] [(.int i6)])) _
  refine XS.ifYes X0.here hx rfl (pc0 := 117) (pc' := 126) rfl (hb hby at_117) rfl ((if0 _ _).trans (flt hc117).2.2.2) (by decide) (by decide) ?_
  show Steps p.tables e below (T0.setTop (mkF m 126 #[s0, s1, s2, s3, s4, s5, .val (.int i6), s7, s8, s9, s10] [])) _
  refine XS.iload X0.here hx rfl (hb hby at_126) rfl ?_
  show Steps p.tables e below (T0.setTop (mkF m 128 #[s0, s1, s2, s3, s4, s5, .val (.int i6), s7, s8, s9, s10] [(.int i6)])) _
  refine XS.iconst X0.here hx rfl (hb hby at_128) ?_
  show Steps p.tables e below (T0.setTop (mkF m 129 #[s0, s1, s2, s3, s4, s5, .val (.int i6), s7, s8, s9, s10] [(.int (1 : Int32)), (.int i6)])) _
  refine XS.icmpYes X0.here hx rfl (pc0 := 129) (pc' := 138) rfl (hb hby at_129) rfl (flt hc129).2.2.2 (by decide) (by decide) ?_
  show Steps p.tables e below (T0.setTop (mkF m 138 #[s0, s1, s2, s3, s4, s5, .val (.int i6), s7, s8, s9, s10] [])) _
  refine XS.iload X0.here hx rfl (hb hby at_138) rfl ?_
  show Steps p.tables e below (T0.setTop (mkF m 140 #[s0, s1, s2, s3, s4, s5, .val (.int i6), s7, s8, s9, s10] [(.int i6)])) _
  refine XS.iconst X0.here hx rfl (hb hby at_140) ?_
  show Steps p.tables e below (T0.setTop (mkF m 141 #[s0, s1, s2, s3, s4, s5, .val (.int i6), s7, s8, s9, s10] [(.int (2 : Int32)), (.int i6)])) _
  refine XS.icmpYes X0.here hx rfl (pc0 := 141) (pc' := 150) rfl (hb hby at_141) rfl (flt hc141).2.2.2 (by decide) (by decide) ?_
  show Steps p.tables e below (T0.setTop (mkF m 150 #[s0, s1, s2, s3, s4, s5, .val (.int i6), s7, s8, s9, s10] [])) _
  refine XS.iload X0.here hx rfl (hb hby at_150) rfl ?_
  show Steps p.tables e below (T0.setTop (mkF m 152 #[s0, s1, s2, s3, s4, s5, .val (.int i6), s7, s8, s9, s10] [(.int i6)])) _
  refine XS.iconst X0.here hx rfl (hb hby at_152) ?_
  show Steps p.tables e below (T0.setTop (mkF m 153 #[s0, s1, s2, s3, s4, s5, .val (.int i6), s7, s8, s9, s10] [(.int (3 : Int32)), (.int i6)])) _
  refine XS.icmpYes X0.here hx rfl (pc0 := 153) (pc' := 166) rfl (hb hby at_153) rfl (flt hc153).2.2.2 (by decide) (by decide) ?_
  show Steps p.tables e below (T0.setTop (mkF m 166 #[s0, s1, s2, s3, s4, s5, .val (.int i6), s7, s8, s9, s10] [])) _
  refine XS.iconst X0.here hx rfl (hb hby at_166) ?_
  show Steps p.tables e below (T0.setTop (mkF m 167 #[s0, s1, s2, s3, s4, s5, .val (.int i6), s7, s8, s9, s10] [(.int (0 : Int32))])) _
  refine XS.istore X0.here hx rfl (hb hby at_167) rfl (l' := #[s0, s1, s2, s3, s4, s5, .val (.int i6), s7, s8, s9, .val (.int (0 : Int32))]) (os0_167 hs10) ?_
  exact kt
theorem os0_167_tn0_c_ft {z0 : Value} {s1 : Slot} {s2 : Slot} {s3 : Slot} {s4 : Slot} {s5 : Slot} {z6 : Value} {s7 : Slot} {z8 : Value} {s9 : Slot} {s10 : Slot} {v : Int32} (h : One s10) : storeLocals #[.val z0, s1, s2, s3, s4, s5, .val z6, s7, .val z8, s9, s10] 10 (.int v) = some #[.val z0, s1, s2, s3, s4, s5, .val z6, s7, .val z8, s9, .val (.int v)] := by
  rcases h with rfl | ⟨w, rfl, hw⟩
  · rfl
  · cases w <;> first | rfl | (simp [Value.category] at hw)
set_option maxRecDepth 65536 in
set_option maxHeartbeats 40000000 in
theorem tn0_c_ft {p : Program} {l : Launch} {e : Env} {R : Room} {s : State} {m : MethodId} {args : Array Value} {below : List Frame} {meth : Method} {c : Code} {T0 : State} {locs : List Loc} {cells slots : Nat} {Z : State} {a0 : Array Value} {h0 : Heap} (i0 : Int32) (s1 : Slot) (s2 : Slot) (s3 : Slot) (s4 : Slot) (s5 : Slot) (i6 : Int32) (s7 : Slot) (i8 : Int32) (s9 : Slot) (s10 : Slot)
    (X0 : Stand p l e R s m args below meth c T0 locs cells slots) (hx : p.tables.exec = Jvm.exec) (hZ : Z.Warmed39 s.vm) (hw : ∀ d ∈ tables_1, d.before a0 Z = true) (hby : c.code = code) (hml : c.maxLocals = 11) (hown : s.vm.findClass "com/example/covercull/covercull/InteractionsContainsPinLaw" = some m.cls) (e0 : T0.heap = h0) (hs10 : One s10) (hc117 : (0 : Int32) < i6) (hc123 : i0 = i8) :
    ∃ (T' : State), Stand p l e R s m args below meth c T' locs cells slots ∧ T'.heap = h0 ∧
      ∀ target, Steps p.tables e below (T'.setTop (mkF m 169 #[.val (.int i0), s1, s2, s3, s4, s5, .val (.int i6), s7, .val (.int i8), s9, .val (.int (1 : Int32))] [])) target → Steps p.tables e below (T0.setTop (mkF m 115 #[.val (.int i0), s1, s2, s3, s4, s5, .val (.int i6), s7, .val (.int i8), s9, s10] [])) target := by
  refine ⟨T0, X0, e0, fun target kt => ?_⟩
  show Steps p.tables e below (T0.setTop (mkF m 115 #[.val (.int i0), s1, s2, s3, s4, s5, .val (.int i6), s7, .val (.int i8), s9, s10] [])) _
  refine XS.iload X0.here hx rfl (hb hby at_115) rfl ?_
  show Steps p.tables e below (T0.setTop (mkF m 117 #[.val (.int i0), s1, s2, s3, s4, s5, .val (.int i6), s7, .val (.int i8), s9, s10] [(.int i6)])) _
  refine XS.ifNo X0.here hx rfl (hb hby at_117) rfl ((if0 _ _).trans (tlt hc117).2.2.2) ?_
  show Steps p.tables e below (T0.setTop (mkF m 120 #[.val (.int i0), s1, s2, s3, s4, s5, .val (.int i6), s7, .val (.int i8), s9, s10] [])) _
  refine XS.iloadN X0.here hx rfl (hb hby at_120) rfl ?_
  show Steps p.tables e below (T0.setTop (mkF m 121 #[.val (.int i0), s1, s2, s3, s4, s5, .val (.int i6), s7, .val (.int i8), s9, s10] [(.int i0)])) _
  refine XS.iload X0.here hx rfl (hb hby at_121) rfl ?_
  show Steps p.tables e below (T0.setTop (mkF m 123 #[.val (.int i0), s1, s2, s3, s4, s5, .val (.int i6), s7, .val (.int i8), s9, s10] [(.int i8), (.int i0)])) _
  refine XS.icmpYes X0.here hx rfl (pc0 := 123) (pc' := 162) rfl (hb hby at_123) rfl (teq hc123).1 (by decide) (by decide) ?_
  show Steps p.tables e below (T0.setTop (mkF m 162 #[.val (.int i0), s1, s2, s3, s4, s5, .val (.int i6), s7, .val (.int i8), s9, s10] [])) _
  refine XS.iconst X0.here hx rfl (hb hby at_162) ?_
  show Steps p.tables e below (T0.setTop (mkF m 163 #[.val (.int i0), s1, s2, s3, s4, s5, .val (.int i6), s7, .val (.int i8), s9, s10] [(.int (1 : Int32))])) _
  refine XS.goto X0.here hx rfl (pc0 := 163) (pc' := 167) rfl (hb hby at_163) (by decide) (by decide) ?_
  show Steps p.tables e below (T0.setTop (mkF m 167 #[.val (.int i0), s1, s2, s3, s4, s5, .val (.int i6), s7, .val (.int i8), s9, s10] [(.int (1 : Int32))])) _
  refine XS.istore X0.here hx rfl (hb hby at_167) rfl (l' := #[.val (.int i0), s1, s2, s3, s4, s5, .val (.int i6), s7, .val (.int i8), s9, .val (.int (1 : Int32))]) (os0_167_tn0_c_ft hs10) ?_
  exact kt
theorem os0_167_tn0_c_ffttt {z0 : Value} {s1 : Slot} {s2 : Slot} {s3 : Slot} {s4 : Slot} {s5 : Slot} {z6 : Value} {s7 : Slot} {z8 : Value} {s9 : Slot} {s10 : Slot} {v : Int32} (h : One s10) : storeLocals #[.val z0, s1, s2, s3, s4, s5, .val z6, s7, .val z8, s9, s10] 10 (.int v) = some #[.val z0, s1, s2, s3, s4, s5, .val z6, s7, .val z8, s9, .val (.int v)] := by
  rcases h with rfl | ⟨w, rfl, hw⟩
  · rfl
  · cases w <;> first | rfl | (simp [Value.category] at hw)
set_option maxRecDepth 65536 in
set_option maxHeartbeats 40000000 in
theorem tn0_c_ffttt {p : Program} {l : Launch} {e : Env} {R : Room} {s : State} {m : MethodId} {args : Array Value} {below : List Frame} {meth : Method} {c : Code} {T0 : State} {locs : List Loc} {cells slots : Nat} {Z : State} {a0 : Array Value} {h0 : Heap} (i0 : Int32) (s1 : Slot) (s2 : Slot) (s3 : Slot) (s4 : Slot) (s5 : Slot) (i6 : Int32) (s7 : Slot) (i8 : Int32) (s9 : Slot) (s10 : Slot)
    (X0 : Stand p l e R s m args below meth c T0 locs cells slots) (hx : p.tables.exec = Jvm.exec) (hZ : Z.Warmed39 s.vm) (hw : ∀ d ∈ tables_1, d.before a0 Z = true) (hby : c.code = code) (hml : c.maxLocals = 11) (hown : s.vm.findClass "com/example/covercull/covercull/InteractionsContainsPinLaw" = some m.cls) (e0 : T0.heap = h0) (hs10 : One s10) (hc117 : (0 : Int32) < i6) (hc123 : ¬ (i0 = i8)) (hc129 : ¬ ((1 : Int32) < i6)) (hc141 : ¬ ((2 : Int32) < i6)) (hc153 : ¬ ((3 : Int32) < i6)) :
    ∃ (T' : State), Stand p l e R s m args below meth c T' locs cells slots ∧ T'.heap = h0 ∧
      ∀ target, Steps p.tables e below (T'.setTop (mkF m 169 #[.val (.int i0), s1, s2, s3, s4, s5, .val (.int i6), s7, .val (.int i8), s9, .val (.int (0 : Int32))] [])) target → Steps p.tables e below (T0.setTop (mkF m 115 #[.val (.int i0), s1, s2, s3, s4, s5, .val (.int i6), s7, .val (.int i8), s9, s10] [])) target := by
  refine ⟨T0, X0, e0, fun target kt => ?_⟩
  show Steps p.tables e below (T0.setTop (mkF m 115 #[.val (.int i0), s1, s2, s3, s4, s5, .val (.int i6), s7, .val (.int i8), s9, s10] [])) _
  refine XS.iload X0.here hx rfl (hb hby at_115) rfl ?_
  show Steps p.tables e below (T0.setTop (mkF m 117 #[.val (.int i0), s1, s2, s3, s4, s5, .val (.int i6), s7, .val (.int i8), s9, s10] [(.int i6)])) _
  refine XS.ifNo X0.here hx rfl (hb hby at_117) rfl ((if0 _ _).trans (tlt hc117).2.2.2) ?_
  show Steps p.tables e below (T0.setTop (mkF m 120 #[.val (.int i0), s1, s2, s3, s4, s5, .val (.int i6), s7, .val (.int i8), s9, s10] [])) _
  refine XS.iloadN X0.here hx rfl (hb hby at_120) rfl ?_
  show Steps p.tables e below (T0.setTop (mkF m 121 #[.val (.int i0), s1, s2, s3, s4, s5, .val (.int i6), s7, .val (.int i8), s9, s10] [(.int i0)])) _
  refine XS.iload X0.here hx rfl (hb hby at_121) rfl ?_
  show Steps p.tables e below (T0.setTop (mkF m 123 #[.val (.int i0), s1, s2, s3, s4, s5, .val (.int i6), s7, .val (.int i8), s9, s10] [(.int i8), (.int i0)])) _
  refine XS.icmpNo X0.here hx rfl (hb hby at_123) rfl (feq hc123).1 ?_
  show Steps p.tables e below (T0.setTop (mkF m 126 #[.val (.int i0), s1, s2, s3, s4, s5, .val (.int i6), s7, .val (.int i8), s9, s10] [])) _
  refine XS.iload X0.here hx rfl (hb hby at_126) rfl ?_
  show Steps p.tables e below (T0.setTop (mkF m 128 #[.val (.int i0), s1, s2, s3, s4, s5, .val (.int i6), s7, .val (.int i8), s9, s10] [(.int i6)])) _
  refine XS.iconst X0.here hx rfl (hb hby at_128) ?_
  show Steps p.tables e below (T0.setTop (mkF m 129 #[.val (.int i0), s1, s2, s3, s4, s5, .val (.int i6), s7, .val (.int i8), s9, s10] [(.int (1 : Int32)), (.int i6)])) _
  refine XS.icmpYes X0.here hx rfl (pc0 := 129) (pc' := 138) rfl (hb hby at_129) rfl (flt hc129).2.2.2 (by decide) (by decide) ?_
  show Steps p.tables e below (T0.setTop (mkF m 138 #[.val (.int i0), s1, s2, s3, s4, s5, .val (.int i6), s7, .val (.int i8), s9, s10] [])) _
  refine XS.iload X0.here hx rfl (hb hby at_138) rfl ?_
  show Steps p.tables e below (T0.setTop (mkF m 140 #[.val (.int i0), s1, s2, s3, s4, s5, .val (.int i6), s7, .val (.int i8), s9, s10] [(.int i6)])) _
  refine XS.iconst X0.here hx rfl (hb hby at_140) ?_
  show Steps p.tables e below (T0.setTop (mkF m 141 #[.val (.int i0), s1, s2, s3, s4, s5, .val (.int i6), s7, .val (.int i8), s9, s10] [(.int (2 : Int32)), (.int i6)])) _
  refine XS.icmpYes X0.here hx rfl (pc0 := 141) (pc' := 150) rfl (hb hby at_141) rfl (flt hc141).2.2.2 (by decide) (by decide) ?_
  show Steps p.tables e below (T0.setTop (mkF m 150 #[.val (.int i0), s1, s2, s3, s4, s5, .val (.int i6), s7, .val (.int i8), s9, s10] [])) _
  refine XS.iload X0.here hx rfl (hb hby at_150) rfl ?_
  show Steps p.tables e below (T0.setTop (mkF m 152 #[.val (.int i0), s1, s2, s3, s4, s5, .val (.int i6), s7, .val (.int i8), s9, s10] [(.int i6)])) _
  refine XS.iconst X0.here hx rfl (hb hby at_152) ?_
  show Steps p.tables e below (T0.setTop (mkF m 153 #[.val (.int i0), s1, s2, s3, s4, s5, .val (.int i6), s7, .val (.int i8), s9, s10] [(.int (3 : Int32)), (.int i6)])) _
  refine XS.icmpYes X0.here hx rfl (pc0 := 153) (pc' := 166) rfl (hb hby at_153) rfl (flt hc153).2.2.2 (by decide) (by decide) ?_
  show Steps p.tables e below (T0.setTop (mkF m 166 #[.val (.int i0), s1, s2, s3, s4, s5, .val (.int i6), s7, .val (.int i8), s9, s10] [])) _
  refine XS.iconst X0.here hx rfl (hb hby at_166) ?_
  show Steps p.tables e below (T0.setTop (mkF m 167 #[.val (.int i0), s1, s2, s3, s4, s5, .val (.int i6), s7, .val (.int i8), s9, s10] [(.int (0 : Int32))])) _
  refine XS.istore X0.here hx rfl (hb hby at_167) rfl (l' := #[.val (.int i0), s1, s2, s3, s4, s5, .val (.int i6), s7, .val (.int i8), s9, .val (.int (0 : Int32))]) (os0_167_tn0_c_ffttt hs10) ?_
  exact kt
theorem os0_167_tn0_c_ffft {z0 : Value} {z1 : Value} {s2 : Slot} {s3 : Slot} {s4 : Slot} {s5 : Slot} {z6 : Value} {s7 : Slot} {z8 : Value} {s9 : Slot} {s10 : Slot} {v : Int32} (h : One s10) : storeLocals #[.val z0, .val z1, s2, s3, s4, s5, .val z6, s7, .val z8, s9, s10] 10 (.int v) = some #[.val z0, .val z1, s2, s3, s4, s5, .val z6, s7, .val z8, s9, .val (.int v)] := by
  rcases h with rfl | ⟨w, rfl, hw⟩
  · rfl
  · cases w <;> first | rfl | (simp [Value.category] at hw)
set_option maxRecDepth 65536 in
set_option maxHeartbeats 40000000 in
theorem tn0_c_ffft {p : Program} {l : Launch} {e : Env} {R : Room} {s : State} {m : MethodId} {args : Array Value} {below : List Frame} {meth : Method} {c : Code} {T0 : State} {locs : List Loc} {cells slots : Nat} {Z : State} {a0 : Array Value} {h0 : Heap} (i0 : Int32) (i1 : Int32) (s2 : Slot) (s3 : Slot) (s4 : Slot) (s5 : Slot) (i6 : Int32) (s7 : Slot) (i8 : Int32) (s9 : Slot) (s10 : Slot)
    (X0 : Stand p l e R s m args below meth c T0 locs cells slots) (hx : p.tables.exec = Jvm.exec) (hZ : Z.Warmed39 s.vm) (hw : ∀ d ∈ tables_1, d.before a0 Z = true) (hby : c.code = code) (hml : c.maxLocals = 11) (hown : s.vm.findClass "com/example/covercull/covercull/InteractionsContainsPinLaw" = some m.cls) (e0 : T0.heap = h0) (hs10 : One s10) (hc117 : (0 : Int32) < i6) (hc123 : ¬ (i0 = i8)) (hc129 : (1 : Int32) < i6) (hc135 : i1 = i8) :
    ∃ (T' : State), Stand p l e R s m args below meth c T' locs cells slots ∧ T'.heap = h0 ∧
      ∀ target, Steps p.tables e below (T'.setTop (mkF m 169 #[.val (.int i0), .val (.int i1), s2, s3, s4, s5, .val (.int i6), s7, .val (.int i8), s9, .val (.int (1 : Int32))] [])) target → Steps p.tables e below (T0.setTop (mkF m 115 #[.val (.int i0), .val (.int i1), s2, s3, s4, s5, .val (.int i6), s7, .val (.int i8), s9, s10] [])) target := by
  refine ⟨T0, X0, e0, fun target kt => ?_⟩
  show Steps p.tables e below (T0.setTop (mkF m 115 #[.val (.int i0), .val (.int i1), s2, s3, s4, s5, .val (.int i6), s7, .val (.int i8), s9, s10] [])) _
  refine XS.iload X0.here hx rfl (hb hby at_115) rfl ?_
  show Steps p.tables e below (T0.setTop (mkF m 117 #[.val (.int i0), .val (.int i1), s2, s3, s4, s5, .val (.int i6), s7, .val (.int i8), s9, s10] [(.int i6)])) _
  refine XS.ifNo X0.here hx rfl (hb hby at_117) rfl ((if0 _ _).trans (tlt hc117).2.2.2) ?_
  show Steps p.tables e below (T0.setTop (mkF m 120 #[.val (.int i0), .val (.int i1), s2, s3, s4, s5, .val (.int i6), s7, .val (.int i8), s9, s10] [])) _
  refine XS.iloadN X0.here hx rfl (hb hby at_120) rfl ?_
  show Steps p.tables e below (T0.setTop (mkF m 121 #[.val (.int i0), .val (.int i1), s2, s3, s4, s5, .val (.int i6), s7, .val (.int i8), s9, s10] [(.int i0)])) _
  refine XS.iload X0.here hx rfl (hb hby at_121) rfl ?_
  show Steps p.tables e below (T0.setTop (mkF m 123 #[.val (.int i0), .val (.int i1), s2, s3, s4, s5, .val (.int i6), s7, .val (.int i8), s9, s10] [(.int i8), (.int i0)])) _
  refine XS.icmpNo X0.here hx rfl (hb hby at_123) rfl (feq hc123).1 ?_
  show Steps p.tables e below (T0.setTop (mkF m 126 #[.val (.int i0), .val (.int i1), s2, s3, s4, s5, .val (.int i6), s7, .val (.int i8), s9, s10] [])) _
  refine XS.iload X0.here hx rfl (hb hby at_126) rfl ?_
  show Steps p.tables e below (T0.setTop (mkF m 128 #[.val (.int i0), .val (.int i1), s2, s3, s4, s5, .val (.int i6), s7, .val (.int i8), s9, s10] [(.int i6)])) _
  refine XS.iconst X0.here hx rfl (hb hby at_128) ?_
  show Steps p.tables e below (T0.setTop (mkF m 129 #[.val (.int i0), .val (.int i1), s2, s3, s4, s5, .val (.int i6), s7, .val (.int i8), s9, s10] [(.int (1 : Int32)), (.int i6)])) _
  refine XS.icmpNo X0.here hx rfl (hb hby at_129) rfl (tlt hc129).2.2.2 ?_
  show Steps p.tables e below (T0.setTop (mkF m 132 #[.val (.int i0), .val (.int i1), s2, s3, s4, s5, .val (.int i6), s7, .val (.int i8), s9, s10] [])) _
  refine XS.iloadN X0.here hx rfl (hb hby at_132) rfl ?_
  show Steps p.tables e below (T0.setTop (mkF m 133 #[.val (.int i0), .val (.int i1), s2, s3, s4, s5, .val (.int i6), s7, .val (.int i8), s9, s10] [(.int i1)])) _
  refine XS.iload X0.here hx rfl (hb hby at_133) rfl ?_
  show Steps p.tables e below (T0.setTop (mkF m 135 #[.val (.int i0), .val (.int i1), s2, s3, s4, s5, .val (.int i6), s7, .val (.int i8), s9, s10] [(.int i8), (.int i1)])) _
  refine XS.icmpYes X0.here hx rfl (pc0 := 135) (pc' := 162) rfl (hb hby at_135) rfl (teq hc135).1 (by decide) (by decide) ?_
  show Steps p.tables e below (T0.setTop (mkF m 162 #[.val (.int i0), .val (.int i1), s2, s3, s4, s5, .val (.int i6), s7, .val (.int i8), s9, s10] [])) _
  refine XS.iconst X0.here hx rfl (hb hby at_162) ?_
  show Steps p.tables e below (T0.setTop (mkF m 163 #[.val (.int i0), .val (.int i1), s2, s3, s4, s5, .val (.int i6), s7, .val (.int i8), s9, s10] [(.int (1 : Int32))])) _
  refine XS.goto X0.here hx rfl (pc0 := 163) (pc' := 167) rfl (hb hby at_163) (by decide) (by decide) ?_
  show Steps p.tables e below (T0.setTop (mkF m 167 #[.val (.int i0), .val (.int i1), s2, s3, s4, s5, .val (.int i6), s7, .val (.int i8), s9, s10] [(.int (1 : Int32))])) _
  refine XS.istore X0.here hx rfl (hb hby at_167) rfl (l' := #[.val (.int i0), .val (.int i1), s2, s3, s4, s5, .val (.int i6), s7, .val (.int i8), s9, .val (.int (1 : Int32))]) (os0_167_tn0_c_ffft hs10) ?_
  exact kt
theorem os0_167_tn0_c_fffftt {z0 : Value} {z1 : Value} {s2 : Slot} {s3 : Slot} {s4 : Slot} {s5 : Slot} {z6 : Value} {s7 : Slot} {z8 : Value} {s9 : Slot} {s10 : Slot} {v : Int32} (h : One s10) : storeLocals #[.val z0, .val z1, s2, s3, s4, s5, .val z6, s7, .val z8, s9, s10] 10 (.int v) = some #[.val z0, .val z1, s2, s3, s4, s5, .val z6, s7, .val z8, s9, .val (.int v)] := by
  rcases h with rfl | ⟨w, rfl, hw⟩
  · rfl
  · cases w <;> first | rfl | (simp [Value.category] at hw)
set_option maxRecDepth 65536 in
set_option maxHeartbeats 40000000 in
theorem tn0_c_fffftt {p : Program} {l : Launch} {e : Env} {R : Room} {s : State} {m : MethodId} {args : Array Value} {below : List Frame} {meth : Method} {c : Code} {T0 : State} {locs : List Loc} {cells slots : Nat} {Z : State} {a0 : Array Value} {h0 : Heap} (i0 : Int32) (i1 : Int32) (s2 : Slot) (s3 : Slot) (s4 : Slot) (s5 : Slot) (i6 : Int32) (s7 : Slot) (i8 : Int32) (s9 : Slot) (s10 : Slot)
    (X0 : Stand p l e R s m args below meth c T0 locs cells slots) (hx : p.tables.exec = Jvm.exec) (hZ : Z.Warmed39 s.vm) (hw : ∀ d ∈ tables_1, d.before a0 Z = true) (hby : c.code = code) (hml : c.maxLocals = 11) (hown : s.vm.findClass "com/example/covercull/covercull/InteractionsContainsPinLaw" = some m.cls) (e0 : T0.heap = h0) (hs10 : One s10) (hc117 : (0 : Int32) < i6) (hc123 : ¬ (i0 = i8)) (hc129 : (1 : Int32) < i6) (hc135 : ¬ (i1 = i8)) (hc141 : ¬ ((2 : Int32) < i6)) (hc153 : ¬ ((3 : Int32) < i6)) :
    ∃ (T' : State), Stand p l e R s m args below meth c T' locs cells slots ∧ T'.heap = h0 ∧
      ∀ target, Steps p.tables e below (T'.setTop (mkF m 169 #[.val (.int i0), .val (.int i1), s2, s3, s4, s5, .val (.int i6), s7, .val (.int i8), s9, .val (.int (0 : Int32))] [])) target → Steps p.tables e below (T0.setTop (mkF m 115 #[.val (.int i0), .val (.int i1), s2, s3, s4, s5, .val (.int i6), s7, .val (.int i8), s9, s10] [])) target := by
  refine ⟨T0, X0, e0, fun target kt => ?_⟩
  show Steps p.tables e below (T0.setTop (mkF m 115 #[.val (.int i0), .val (.int i1), s2, s3, s4, s5, .val (.int i6), s7, .val (.int i8), s9, s10] [])) _
  refine XS.iload X0.here hx rfl (hb hby at_115) rfl ?_
  show Steps p.tables e below (T0.setTop (mkF m 117 #[.val (.int i0), .val (.int i1), s2, s3, s4, s5, .val (.int i6), s7, .val (.int i8), s9, s10] [(.int i6)])) _
  refine XS.ifNo X0.here hx rfl (hb hby at_117) rfl ((if0 _ _).trans (tlt hc117).2.2.2) ?_
  show Steps p.tables e below (T0.setTop (mkF m 120 #[.val (.int i0), .val (.int i1), s2, s3, s4, s5, .val (.int i6), s7, .val (.int i8), s9, s10] [])) _
  refine XS.iloadN X0.here hx rfl (hb hby at_120) rfl ?_
  show Steps p.tables e below (T0.setTop (mkF m 121 #[.val (.int i0), .val (.int i1), s2, s3, s4, s5, .val (.int i6), s7, .val (.int i8), s9, s10] [(.int i0)])) _
  refine XS.iload X0.here hx rfl (hb hby at_121) rfl ?_
  show Steps p.tables e below (T0.setTop (mkF m 123 #[.val (.int i0), .val (.int i1), s2, s3, s4, s5, .val (.int i6), s7, .val (.int i8), s9, s10] [(.int i8), (.int i0)])) _
  refine XS.icmpNo X0.here hx rfl (hb hby at_123) rfl (feq hc123).1 ?_
  show Steps p.tables e below (T0.setTop (mkF m 126 #[.val (.int i0), .val (.int i1), s2, s3, s4, s5, .val (.int i6), s7, .val (.int i8), s9, s10] [])) _
  refine XS.iload X0.here hx rfl (hb hby at_126) rfl ?_
  show Steps p.tables e below (T0.setTop (mkF m 128 #[.val (.int i0), .val (.int i1), s2, s3, s4, s5, .val (.int i6), s7, .val (.int i8), s9, s10] [(.int i6)])) _
  refine XS.iconst X0.here hx rfl (hb hby at_128) ?_
  show Steps p.tables e below (T0.setTop (mkF m 129 #[.val (.int i0), .val (.int i1), s2, s3, s4, s5, .val (.int i6), s7, .val (.int i8), s9, s10] [(.int (1 : Int32)), (.int i6)])) _
  refine XS.icmpNo X0.here hx rfl (hb hby at_129) rfl (tlt hc129).2.2.2 ?_
  show Steps p.tables e below (T0.setTop (mkF m 132 #[.val (.int i0), .val (.int i1), s2, s3, s4, s5, .val (.int i6), s7, .val (.int i8), s9, s10] [])) _
  refine XS.iloadN X0.here hx rfl (hb hby at_132) rfl ?_
  show Steps p.tables e below (T0.setTop (mkF m 133 #[.val (.int i0), .val (.int i1), s2, s3, s4, s5, .val (.int i6), s7, .val (.int i8), s9, s10] [(.int i1)])) _
  refine XS.iload X0.here hx rfl (hb hby at_133) rfl ?_
  show Steps p.tables e below (T0.setTop (mkF m 135 #[.val (.int i0), .val (.int i1), s2, s3, s4, s5, .val (.int i6), s7, .val (.int i8), s9, s10] [(.int i8), (.int i1)])) _
  refine XS.icmpNo X0.here hx rfl (hb hby at_135) rfl (feq hc135).1 ?_
  show Steps p.tables e below (T0.setTop (mkF m 138 #[.val (.int i0), .val (.int i1), s2, s3, s4, s5, .val (.int i6), s7, .val (.int i8), s9, s10] [])) _
  refine XS.iload X0.here hx rfl (hb hby at_138) rfl ?_
  show Steps p.tables e below (T0.setTop (mkF m 140 #[.val (.int i0), .val (.int i1), s2, s3, s4, s5, .val (.int i6), s7, .val (.int i8), s9, s10] [(.int i6)])) _
  refine XS.iconst X0.here hx rfl (hb hby at_140) ?_
  show Steps p.tables e below (T0.setTop (mkF m 141 #[.val (.int i0), .val (.int i1), s2, s3, s4, s5, .val (.int i6), s7, .val (.int i8), s9, s10] [(.int (2 : Int32)), (.int i6)])) _
  refine XS.icmpYes X0.here hx rfl (pc0 := 141) (pc' := 150) rfl (hb hby at_141) rfl (flt hc141).2.2.2 (by decide) (by decide) ?_
  show Steps p.tables e below (T0.setTop (mkF m 150 #[.val (.int i0), .val (.int i1), s2, s3, s4, s5, .val (.int i6), s7, .val (.int i8), s9, s10] [])) _
  refine XS.iload X0.here hx rfl (hb hby at_150) rfl ?_
  show Steps p.tables e below (T0.setTop (mkF m 152 #[.val (.int i0), .val (.int i1), s2, s3, s4, s5, .val (.int i6), s7, .val (.int i8), s9, s10] [(.int i6)])) _
  refine XS.iconst X0.here hx rfl (hb hby at_152) ?_
  show Steps p.tables e below (T0.setTop (mkF m 153 #[.val (.int i0), .val (.int i1), s2, s3, s4, s5, .val (.int i6), s7, .val (.int i8), s9, s10] [(.int (3 : Int32)), (.int i6)])) _
  refine XS.icmpYes X0.here hx rfl (pc0 := 153) (pc' := 166) rfl (hb hby at_153) rfl (flt hc153).2.2.2 (by decide) (by decide) ?_
  show Steps p.tables e below (T0.setTop (mkF m 166 #[.val (.int i0), .val (.int i1), s2, s3, s4, s5, .val (.int i6), s7, .val (.int i8), s9, s10] [])) _
  refine XS.iconst X0.here hx rfl (hb hby at_166) ?_
  show Steps p.tables e below (T0.setTop (mkF m 167 #[.val (.int i0), .val (.int i1), s2, s3, s4, s5, .val (.int i6), s7, .val (.int i8), s9, s10] [(.int (0 : Int32))])) _
  refine XS.istore X0.here hx rfl (hb hby at_167) rfl (l' := #[.val (.int i0), .val (.int i1), s2, s3, s4, s5, .val (.int i6), s7, .val (.int i8), s9, .val (.int (0 : Int32))]) (os0_167_tn0_c_fffftt hs10) ?_
  exact kt
theorem os0_167_tn0_c_ffffft {z0 : Value} {z1 : Value} {z2 : Value} {s3 : Slot} {s4 : Slot} {s5 : Slot} {z6 : Value} {s7 : Slot} {z8 : Value} {s9 : Slot} {s10 : Slot} {v : Int32} (h : One s10) : storeLocals #[.val z0, .val z1, .val z2, s3, s4, s5, .val z6, s7, .val z8, s9, s10] 10 (.int v) = some #[.val z0, .val z1, .val z2, s3, s4, s5, .val z6, s7, .val z8, s9, .val (.int v)] := by
  rcases h with rfl | ⟨w, rfl, hw⟩
  · rfl
  · cases w <;> first | rfl | (simp [Value.category] at hw)
set_option maxRecDepth 65536 in
set_option maxHeartbeats 40000000 in
theorem tn0_c_ffffft {p : Program} {l : Launch} {e : Env} {R : Room} {s : State} {m : MethodId} {args : Array Value} {below : List Frame} {meth : Method} {c : Code} {T0 : State} {locs : List Loc} {cells slots : Nat} {Z : State} {a0 : Array Value} {h0 : Heap} (i0 : Int32) (i1 : Int32) (i2 : Int32) (s3 : Slot) (s4 : Slot) (s5 : Slot) (i6 : Int32) (s7 : Slot) (i8 : Int32) (s9 : Slot) (s10 : Slot)
    (X0 : Stand p l e R s m args below meth c T0 locs cells slots) (hx : p.tables.exec = Jvm.exec) (hZ : Z.Warmed39 s.vm) (hw : ∀ d ∈ tables_1, d.before a0 Z = true) (hby : c.code = code) (hml : c.maxLocals = 11) (hown : s.vm.findClass "com/example/covercull/covercull/InteractionsContainsPinLaw" = some m.cls) (e0 : T0.heap = h0) (hs10 : One s10) (hc117 : (0 : Int32) < i6) (hc123 : ¬ (i0 = i8)) (hc129 : (1 : Int32) < i6) (hc135 : ¬ (i1 = i8)) (hc141 : (2 : Int32) < i6) (hc147 : i2 = i8) :
    ∃ (T' : State), Stand p l e R s m args below meth c T' locs cells slots ∧ T'.heap = h0 ∧
      ∀ target, Steps p.tables e below (T'.setTop (mkF m 169 #[.val (.int i0), .val (.int i1), .val (.int i2), s3, s4, s5, .val (.int i6), s7, .val (.int i8), s9, .val (.int (1 : Int32))] [])) target → Steps p.tables e below (T0.setTop (mkF m 115 #[.val (.int i0), .val (.int i1), .val (.int i2), s3, s4, s5, .val (.int i6), s7, .val (.int i8), s9, s10] [])) target := by
  refine ⟨T0, X0, e0, fun target kt => ?_⟩
  show Steps p.tables e below (T0.setTop (mkF m 115 #[.val (.int i0), .val (.int i1), .val (.int i2), s3, s4, s5, .val (.int i6), s7, .val (.int i8), s9, s10] [])) _
  refine XS.iload X0.here hx rfl (hb hby at_115) rfl ?_
  show Steps p.tables e below (T0.setTop (mkF m 117 #[.val (.int i0), .val (.int i1), .val (.int i2), s3, s4, s5, .val (.int i6), s7, .val (.int i8), s9, s10] [(.int i6)])) _
  refine XS.ifNo X0.here hx rfl (hb hby at_117) rfl ((if0 _ _).trans (tlt hc117).2.2.2) ?_
  show Steps p.tables e below (T0.setTop (mkF m 120 #[.val (.int i0), .val (.int i1), .val (.int i2), s3, s4, s5, .val (.int i6), s7, .val (.int i8), s9, s10] [])) _
  refine XS.iloadN X0.here hx rfl (hb hby at_120) rfl ?_
  show Steps p.tables e below (T0.setTop (mkF m 121 #[.val (.int i0), .val (.int i1), .val (.int i2), s3, s4, s5, .val (.int i6), s7, .val (.int i8), s9, s10] [(.int i0)])) _
  refine XS.iload X0.here hx rfl (hb hby at_121) rfl ?_
  show Steps p.tables e below (T0.setTop (mkF m 123 #[.val (.int i0), .val (.int i1), .val (.int i2), s3, s4, s5, .val (.int i6), s7, .val (.int i8), s9, s10] [(.int i8), (.int i0)])) _
  refine XS.icmpNo X0.here hx rfl (hb hby at_123) rfl (feq hc123).1 ?_
  show Steps p.tables e below (T0.setTop (mkF m 126 #[.val (.int i0), .val (.int i1), .val (.int i2), s3, s4, s5, .val (.int i6), s7, .val (.int i8), s9, s10] [])) _
  refine XS.iload X0.here hx rfl (hb hby at_126) rfl ?_
  show Steps p.tables e below (T0.setTop (mkF m 128 #[.val (.int i0), .val (.int i1), .val (.int i2), s3, s4, s5, .val (.int i6), s7, .val (.int i8), s9, s10] [(.int i6)])) _
  refine XS.iconst X0.here hx rfl (hb hby at_128) ?_
  show Steps p.tables e below (T0.setTop (mkF m 129 #[.val (.int i0), .val (.int i1), .val (.int i2), s3, s4, s5, .val (.int i6), s7, .val (.int i8), s9, s10] [(.int (1 : Int32)), (.int i6)])) _
  refine XS.icmpNo X0.here hx rfl (hb hby at_129) rfl (tlt hc129).2.2.2 ?_
  show Steps p.tables e below (T0.setTop (mkF m 132 #[.val (.int i0), .val (.int i1), .val (.int i2), s3, s4, s5, .val (.int i6), s7, .val (.int i8), s9, s10] [])) _
  refine XS.iloadN X0.here hx rfl (hb hby at_132) rfl ?_
  show Steps p.tables e below (T0.setTop (mkF m 133 #[.val (.int i0), .val (.int i1), .val (.int i2), s3, s4, s5, .val (.int i6), s7, .val (.int i8), s9, s10] [(.int i1)])) _
  refine XS.iload X0.here hx rfl (hb hby at_133) rfl ?_
  show Steps p.tables e below (T0.setTop (mkF m 135 #[.val (.int i0), .val (.int i1), .val (.int i2), s3, s4, s5, .val (.int i6), s7, .val (.int i8), s9, s10] [(.int i8), (.int i1)])) _
  refine XS.icmpNo X0.here hx rfl (hb hby at_135) rfl (feq hc135).1 ?_
  show Steps p.tables e below (T0.setTop (mkF m 138 #[.val (.int i0), .val (.int i1), .val (.int i2), s3, s4, s5, .val (.int i6), s7, .val (.int i8), s9, s10] [])) _
  refine XS.iload X0.here hx rfl (hb hby at_138) rfl ?_
  show Steps p.tables e below (T0.setTop (mkF m 140 #[.val (.int i0), .val (.int i1), .val (.int i2), s3, s4, s5, .val (.int i6), s7, .val (.int i8), s9, s10] [(.int i6)])) _
  refine XS.iconst X0.here hx rfl (hb hby at_140) ?_
  show Steps p.tables e below (T0.setTop (mkF m 141 #[.val (.int i0), .val (.int i1), .val (.int i2), s3, s4, s5, .val (.int i6), s7, .val (.int i8), s9, s10] [(.int (2 : Int32)), (.int i6)])) _
  refine XS.icmpNo X0.here hx rfl (hb hby at_141) rfl (tlt hc141).2.2.2 ?_
  show Steps p.tables e below (T0.setTop (mkF m 144 #[.val (.int i0), .val (.int i1), .val (.int i2), s3, s4, s5, .val (.int i6), s7, .val (.int i8), s9, s10] [])) _
  refine XS.iloadN X0.here hx rfl (hb hby at_144) rfl ?_
  show Steps p.tables e below (T0.setTop (mkF m 145 #[.val (.int i0), .val (.int i1), .val (.int i2), s3, s4, s5, .val (.int i6), s7, .val (.int i8), s9, s10] [(.int i2)])) _
  refine XS.iload X0.here hx rfl (hb hby at_145) rfl ?_
  show Steps p.tables e below (T0.setTop (mkF m 147 #[.val (.int i0), .val (.int i1), .val (.int i2), s3, s4, s5, .val (.int i6), s7, .val (.int i8), s9, s10] [(.int i8), (.int i2)])) _
  refine XS.icmpYes X0.here hx rfl (pc0 := 147) (pc' := 162) rfl (hb hby at_147) rfl (teq hc147).1 (by decide) (by decide) ?_
  show Steps p.tables e below (T0.setTop (mkF m 162 #[.val (.int i0), .val (.int i1), .val (.int i2), s3, s4, s5, .val (.int i6), s7, .val (.int i8), s9, s10] [])) _
  refine XS.iconst X0.here hx rfl (hb hby at_162) ?_
  show Steps p.tables e below (T0.setTop (mkF m 163 #[.val (.int i0), .val (.int i1), .val (.int i2), s3, s4, s5, .val (.int i6), s7, .val (.int i8), s9, s10] [(.int (1 : Int32))])) _
  refine XS.goto X0.here hx rfl (pc0 := 163) (pc' := 167) rfl (hb hby at_163) (by decide) (by decide) ?_
  show Steps p.tables e below (T0.setTop (mkF m 167 #[.val (.int i0), .val (.int i1), .val (.int i2), s3, s4, s5, .val (.int i6), s7, .val (.int i8), s9, s10] [(.int (1 : Int32))])) _
  refine XS.istore X0.here hx rfl (hb hby at_167) rfl (l' := #[.val (.int i0), .val (.int i1), .val (.int i2), s3, s4, s5, .val (.int i6), s7, .val (.int i8), s9, .val (.int (1 : Int32))]) (os0_167_tn0_c_ffffft hs10) ?_
  exact kt
theorem os0_167_tn0_c_fffffft {z0 : Value} {z1 : Value} {z2 : Value} {s3 : Slot} {s4 : Slot} {s5 : Slot} {z6 : Value} {s7 : Slot} {z8 : Value} {s9 : Slot} {s10 : Slot} {v : Int32} (h : One s10) : storeLocals #[.val z0, .val z1, .val z2, s3, s4, s5, .val z6, s7, .val z8, s9, s10] 10 (.int v) = some #[.val z0, .val z1, .val z2, s3, s4, s5, .val z6, s7, .val z8, s9, .val (.int v)] := by
  rcases h with rfl | ⟨w, rfl, hw⟩
  · rfl
  · cases w <;> first | rfl | (simp [Value.category] at hw)
set_option maxRecDepth 65536 in
set_option maxHeartbeats 40000000 in
theorem tn0_c_fffffft {p : Program} {l : Launch} {e : Env} {R : Room} {s : State} {m : MethodId} {args : Array Value} {below : List Frame} {meth : Method} {c : Code} {T0 : State} {locs : List Loc} {cells slots : Nat} {Z : State} {a0 : Array Value} {h0 : Heap} (i0 : Int32) (i1 : Int32) (i2 : Int32) (s3 : Slot) (s4 : Slot) (s5 : Slot) (i6 : Int32) (s7 : Slot) (i8 : Int32) (s9 : Slot) (s10 : Slot)
    (X0 : Stand p l e R s m args below meth c T0 locs cells slots) (hx : p.tables.exec = Jvm.exec) (hZ : Z.Warmed39 s.vm) (hw : ∀ d ∈ tables_1, d.before a0 Z = true) (hby : c.code = code) (hml : c.maxLocals = 11) (hown : s.vm.findClass "com/example/covercull/covercull/InteractionsContainsPinLaw" = some m.cls) (e0 : T0.heap = h0) (hs10 : One s10) (hc117 : (0 : Int32) < i6) (hc123 : ¬ (i0 = i8)) (hc129 : (1 : Int32) < i6) (hc135 : ¬ (i1 = i8)) (hc141 : (2 : Int32) < i6) (hc147 : ¬ (i2 = i8)) (hc153 : ¬ ((3 : Int32) < i6)) :
    ∃ (T' : State), Stand p l e R s m args below meth c T' locs cells slots ∧ T'.heap = h0 ∧
      ∀ target, Steps p.tables e below (T'.setTop (mkF m 169 #[.val (.int i0), .val (.int i1), .val (.int i2), s3, s4, s5, .val (.int i6), s7, .val (.int i8), s9, .val (.int (0 : Int32))] [])) target → Steps p.tables e below (T0.setTop (mkF m 115 #[.val (.int i0), .val (.int i1), .val (.int i2), s3, s4, s5, .val (.int i6), s7, .val (.int i8), s9, s10] [])) target := by
  refine ⟨T0, X0, e0, fun target kt => ?_⟩
  show Steps p.tables e below (T0.setTop (mkF m 115 #[.val (.int i0), .val (.int i1), .val (.int i2), s3, s4, s5, .val (.int i6), s7, .val (.int i8), s9, s10] [])) _
  refine XS.iload X0.here hx rfl (hb hby at_115) rfl ?_
  show Steps p.tables e below (T0.setTop (mkF m 117 #[.val (.int i0), .val (.int i1), .val (.int i2), s3, s4, s5, .val (.int i6), s7, .val (.int i8), s9, s10] [(.int i6)])) _
  refine XS.ifNo X0.here hx rfl (hb hby at_117) rfl ((if0 _ _).trans (tlt hc117).2.2.2) ?_
  show Steps p.tables e below (T0.setTop (mkF m 120 #[.val (.int i0), .val (.int i1), .val (.int i2), s3, s4, s5, .val (.int i6), s7, .val (.int i8), s9, s10] [])) _
  refine XS.iloadN X0.here hx rfl (hb hby at_120) rfl ?_
  show Steps p.tables e below (T0.setTop (mkF m 121 #[.val (.int i0), .val (.int i1), .val (.int i2), s3, s4, s5, .val (.int i6), s7, .val (.int i8), s9, s10] [(.int i0)])) _
  refine XS.iload X0.here hx rfl (hb hby at_121) rfl ?_
  show Steps p.tables e below (T0.setTop (mkF m 123 #[.val (.int i0), .val (.int i1), .val (.int i2), s3, s4, s5, .val (.int i6), s7, .val (.int i8), s9, s10] [(.int i8), (.int i0)])) _
  refine XS.icmpNo X0.here hx rfl (hb hby at_123) rfl (feq hc123).1 ?_
  show Steps p.tables e below (T0.setTop (mkF m 126 #[.val (.int i0), .val (.int i1), .val (.int i2), s3, s4, s5, .val (.int i6), s7, .val (.int i8), s9, s10] [])) _
  refine XS.iload X0.here hx rfl (hb hby at_126) rfl ?_
  show Steps p.tables e below (T0.setTop (mkF m 128 #[.val (.int i0), .val (.int i1), .val (.int i2), s3, s4, s5, .val (.int i6), s7, .val (.int i8), s9, s10] [(.int i6)])) _
  refine XS.iconst X0.here hx rfl (hb hby at_128) ?_
  show Steps p.tables e below (T0.setTop (mkF m 129 #[.val (.int i0), .val (.int i1), .val (.int i2), s3, s4, s5, .val (.int i6), s7, .val (.int i8), s9, s10] [(.int (1 : Int32)), (.int i6)])) _
  refine XS.icmpNo X0.here hx rfl (hb hby at_129) rfl (tlt hc129).2.2.2 ?_
  show Steps p.tables e below (T0.setTop (mkF m 132 #[.val (.int i0), .val (.int i1), .val (.int i2), s3, s4, s5, .val (.int i6), s7, .val (.int i8), s9, s10] [])) _
  refine XS.iloadN X0.here hx rfl (hb hby at_132) rfl ?_
  show Steps p.tables e below (T0.setTop (mkF m 133 #[.val (.int i0), .val (.int i1), .val (.int i2), s3, s4, s5, .val (.int i6), s7, .val (.int i8), s9, s10] [(.int i1)])) _
  refine XS.iload X0.here hx rfl (hb hby at_133) rfl ?_
  show Steps p.tables e below (T0.setTop (mkF m 135 #[.val (.int i0), .val (.int i1), .val (.int i2), s3, s4, s5, .val (.int i6), s7, .val (.int i8), s9, s10] [(.int i8), (.int i1)])) _
  refine XS.icmpNo X0.here hx rfl (hb hby at_135) rfl (feq hc135).1 ?_
  show Steps p.tables e below (T0.setTop (mkF m 138 #[.val (.int i0), .val (.int i1), .val (.int i2), s3, s4, s5, .val (.int i6), s7, .val (.int i8), s9, s10] [])) _
  refine XS.iload X0.here hx rfl (hb hby at_138) rfl ?_
  show Steps p.tables e below (T0.setTop (mkF m 140 #[.val (.int i0), .val (.int i1), .val (.int i2), s3, s4, s5, .val (.int i6), s7, .val (.int i8), s9, s10] [(.int i6)])) _
  refine XS.iconst X0.here hx rfl (hb hby at_140) ?_
  show Steps p.tables e below (T0.setTop (mkF m 141 #[.val (.int i0), .val (.int i1), .val (.int i2), s3, s4, s5, .val (.int i6), s7, .val (.int i8), s9, s10] [(.int (2 : Int32)), (.int i6)])) _
  refine XS.icmpNo X0.here hx rfl (hb hby at_141) rfl (tlt hc141).2.2.2 ?_
  show Steps p.tables e below (T0.setTop (mkF m 144 #[.val (.int i0), .val (.int i1), .val (.int i2), s3, s4, s5, .val (.int i6), s7, .val (.int i8), s9, s10] [])) _
  refine XS.iloadN X0.here hx rfl (hb hby at_144) rfl ?_
  show Steps p.tables e below (T0.setTop (mkF m 145 #[.val (.int i0), .val (.int i1), .val (.int i2), s3, s4, s5, .val (.int i6), s7, .val (.int i8), s9, s10] [(.int i2)])) _
  refine XS.iload X0.here hx rfl (hb hby at_145) rfl ?_
  show Steps p.tables e below (T0.setTop (mkF m 147 #[.val (.int i0), .val (.int i1), .val (.int i2), s3, s4, s5, .val (.int i6), s7, .val (.int i8), s9, s10] [(.int i8), (.int i2)])) _
  refine XS.icmpNo X0.here hx rfl (hb hby at_147) rfl (feq hc147).1 ?_
  show Steps p.tables e below (T0.setTop (mkF m 150 #[.val (.int i0), .val (.int i1), .val (.int i2), s3, s4, s5, .val (.int i6), s7, .val (.int i8), s9, s10] [])) _
  refine XS.iload X0.here hx rfl (hb hby at_150) rfl ?_
  show Steps p.tables e below (T0.setTop (mkF m 152 #[.val (.int i0), .val (.int i1), .val (.int i2), s3, s4, s5, .val (.int i6), s7, .val (.int i8), s9, s10] [(.int i6)])) _
  refine XS.iconst X0.here hx rfl (hb hby at_152) ?_
  show Steps p.tables e below (T0.setTop (mkF m 153 #[.val (.int i0), .val (.int i1), .val (.int i2), s3, s4, s5, .val (.int i6), s7, .val (.int i8), s9, s10] [(.int (3 : Int32)), (.int i6)])) _
  refine XS.icmpYes X0.here hx rfl (pc0 := 153) (pc' := 166) rfl (hb hby at_153) rfl (flt hc153).2.2.2 (by decide) (by decide) ?_
  show Steps p.tables e below (T0.setTop (mkF m 166 #[.val (.int i0), .val (.int i1), .val (.int i2), s3, s4, s5, .val (.int i6), s7, .val (.int i8), s9, s10] [])) _
  refine XS.iconst X0.here hx rfl (hb hby at_166) ?_
  show Steps p.tables e below (T0.setTop (mkF m 167 #[.val (.int i0), .val (.int i1), .val (.int i2), s3, s4, s5, .val (.int i6), s7, .val (.int i8), s9, s10] [(.int (0 : Int32))])) _
  refine XS.istore X0.here hx rfl (hb hby at_167) rfl (l' := #[.val (.int i0), .val (.int i1), .val (.int i2), s3, s4, s5, .val (.int i6), s7, .val (.int i8), s9, .val (.int (0 : Int32))]) (os0_167_tn0_c_fffffft hs10) ?_
  exact kt
theorem os0_167_tn0_c_ffffffff {z0 : Value} {z1 : Value} {z2 : Value} {z3 : Value} {s4 : Slot} {s5 : Slot} {z6 : Value} {s7 : Slot} {z8 : Value} {s9 : Slot} {s10 : Slot} {v : Int32} (h : One s10) : storeLocals #[.val z0, .val z1, .val z2, .val z3, s4, s5, .val z6, s7, .val z8, s9, s10] 10 (.int v) = some #[.val z0, .val z1, .val z2, .val z3, s4, s5, .val z6, s7, .val z8, s9, .val (.int v)] := by
  rcases h with rfl | ⟨w, rfl, hw⟩
  · rfl
  · cases w <;> first | rfl | (simp [Value.category] at hw)
set_option maxRecDepth 65536 in
set_option maxHeartbeats 40000000 in
theorem tn0_c_ffffffff {p : Program} {l : Launch} {e : Env} {R : Room} {s : State} {m : MethodId} {args : Array Value} {below : List Frame} {meth : Method} {c : Code} {T0 : State} {locs : List Loc} {cells slots : Nat} {Z : State} {a0 : Array Value} {h0 : Heap} (i0 : Int32) (i1 : Int32) (i2 : Int32) (i3 : Int32) (s4 : Slot) (s5 : Slot) (i6 : Int32) (s7 : Slot) (i8 : Int32) (s9 : Slot) (s10 : Slot)
    (X0 : Stand p l e R s m args below meth c T0 locs cells slots) (hx : p.tables.exec = Jvm.exec) (hZ : Z.Warmed39 s.vm) (hw : ∀ d ∈ tables_1, d.before a0 Z = true) (hby : c.code = code) (hml : c.maxLocals = 11) (hown : s.vm.findClass "com/example/covercull/covercull/InteractionsContainsPinLaw" = some m.cls) (e0 : T0.heap = h0) (hs10 : One s10) (hc117 : (0 : Int32) < i6) (hc123 : ¬ (i0 = i8)) (hc129 : (1 : Int32) < i6) (hc135 : ¬ (i1 = i8)) (hc141 : (2 : Int32) < i6) (hc147 : ¬ (i2 = i8)) (hc153 : (3 : Int32) < i6) (hc159 : i3 = i8) :
    ∃ (T' : State), Stand p l e R s m args below meth c T' locs cells slots ∧ T'.heap = h0 ∧
      ∀ target, Steps p.tables e below (T'.setTop (mkF m 169 #[.val (.int i0), .val (.int i1), .val (.int i2), .val (.int i3), s4, s5, .val (.int i6), s7, .val (.int i8), s9, .val (.int (1 : Int32))] [])) target → Steps p.tables e below (T0.setTop (mkF m 115 #[.val (.int i0), .val (.int i1), .val (.int i2), .val (.int i3), s4, s5, .val (.int i6), s7, .val (.int i8), s9, s10] [])) target := by
  refine ⟨T0, X0, e0, fun target kt => ?_⟩
  show Steps p.tables e below (T0.setTop (mkF m 115 #[.val (.int i0), .val (.int i1), .val (.int i2), .val (.int i3), s4, s5, .val (.int i6), s7, .val (.int i8), s9, s10] [])) _
  refine XS.iload X0.here hx rfl (hb hby at_115) rfl ?_
  show Steps p.tables e below (T0.setTop (mkF m 117 #[.val (.int i0), .val (.int i1), .val (.int i2), .val (.int i3), s4, s5, .val (.int i6), s7, .val (.int i8), s9, s10] [(.int i6)])) _
  refine XS.ifNo X0.here hx rfl (hb hby at_117) rfl ((if0 _ _).trans (tlt hc117).2.2.2) ?_
  show Steps p.tables e below (T0.setTop (mkF m 120 #[.val (.int i0), .val (.int i1), .val (.int i2), .val (.int i3), s4, s5, .val (.int i6), s7, .val (.int i8), s9, s10] [])) _
  refine XS.iloadN X0.here hx rfl (hb hby at_120) rfl ?_
  show Steps p.tables e below (T0.setTop (mkF m 121 #[.val (.int i0), .val (.int i1), .val (.int i2), .val (.int i3), s4, s5, .val (.int i6), s7, .val (.int i8), s9, s10] [(.int i0)])) _
  refine XS.iload X0.here hx rfl (hb hby at_121) rfl ?_
  show Steps p.tables e below (T0.setTop (mkF m 123 #[.val (.int i0), .val (.int i1), .val (.int i2), .val (.int i3), s4, s5, .val (.int i6), s7, .val (.int i8), s9, s10] [(.int i8), (.int i0)])) _
  refine XS.icmpNo X0.here hx rfl (hb hby at_123) rfl (feq hc123).1 ?_
  show Steps p.tables e below (T0.setTop (mkF m 126 #[.val (.int i0), .val (.int i1), .val (.int i2), .val (.int i3), s4, s5, .val (.int i6), s7, .val (.int i8), s9, s10] [])) _
  refine XS.iload X0.here hx rfl (hb hby at_126) rfl ?_
  show Steps p.tables e below (T0.setTop (mkF m 128 #[.val (.int i0), .val (.int i1), .val (.int i2), .val (.int i3), s4, s5, .val (.int i6), s7, .val (.int i8), s9, s10] [(.int i6)])) _
  refine XS.iconst X0.here hx rfl (hb hby at_128) ?_
  show Steps p.tables e below (T0.setTop (mkF m 129 #[.val (.int i0), .val (.int i1), .val (.int i2), .val (.int i3), s4, s5, .val (.int i6), s7, .val (.int i8), s9, s10] [(.int (1 : Int32)), (.int i6)])) _
  refine XS.icmpNo X0.here hx rfl (hb hby at_129) rfl (tlt hc129).2.2.2 ?_
  show Steps p.tables e below (T0.setTop (mkF m 132 #[.val (.int i0), .val (.int i1), .val (.int i2), .val (.int i3), s4, s5, .val (.int i6), s7, .val (.int i8), s9, s10] [])) _
  refine XS.iloadN X0.here hx rfl (hb hby at_132) rfl ?_
  show Steps p.tables e below (T0.setTop (mkF m 133 #[.val (.int i0), .val (.int i1), .val (.int i2), .val (.int i3), s4, s5, .val (.int i6), s7, .val (.int i8), s9, s10] [(.int i1)])) _
  refine XS.iload X0.here hx rfl (hb hby at_133) rfl ?_
  show Steps p.tables e below (T0.setTop (mkF m 135 #[.val (.int i0), .val (.int i1), .val (.int i2), .val (.int i3), s4, s5, .val (.int i6), s7, .val (.int i8), s9, s10] [(.int i8), (.int i1)])) _
  refine XS.icmpNo X0.here hx rfl (hb hby at_135) rfl (feq hc135).1 ?_
  show Steps p.tables e below (T0.setTop (mkF m 138 #[.val (.int i0), .val (.int i1), .val (.int i2), .val (.int i3), s4, s5, .val (.int i6), s7, .val (.int i8), s9, s10] [])) _
  refine XS.iload X0.here hx rfl (hb hby at_138) rfl ?_
  show Steps p.tables e below (T0.setTop (mkF m 140 #[.val (.int i0), .val (.int i1), .val (.int i2), .val (.int i3), s4, s5, .val (.int i6), s7, .val (.int i8), s9, s10] [(.int i6)])) _
  refine XS.iconst X0.here hx rfl (hb hby at_140) ?_
  show Steps p.tables e below (T0.setTop (mkF m 141 #[.val (.int i0), .val (.int i1), .val (.int i2), .val (.int i3), s4, s5, .val (.int i6), s7, .val (.int i8), s9, s10] [(.int (2 : Int32)), (.int i6)])) _
  refine XS.icmpNo X0.here hx rfl (hb hby at_141) rfl (tlt hc141).2.2.2 ?_
  show Steps p.tables e below (T0.setTop (mkF m 144 #[.val (.int i0), .val (.int i1), .val (.int i2), .val (.int i3), s4, s5, .val (.int i6), s7, .val (.int i8), s9, s10] [])) _
  refine XS.iloadN X0.here hx rfl (hb hby at_144) rfl ?_
  show Steps p.tables e below (T0.setTop (mkF m 145 #[.val (.int i0), .val (.int i1), .val (.int i2), .val (.int i3), s4, s5, .val (.int i6), s7, .val (.int i8), s9, s10] [(.int i2)])) _
  refine XS.iload X0.here hx rfl (hb hby at_145) rfl ?_
  show Steps p.tables e below (T0.setTop (mkF m 147 #[.val (.int i0), .val (.int i1), .val (.int i2), .val (.int i3), s4, s5, .val (.int i6), s7, .val (.int i8), s9, s10] [(.int i8), (.int i2)])) _
  refine XS.icmpNo X0.here hx rfl (hb hby at_147) rfl (feq hc147).1 ?_
  show Steps p.tables e below (T0.setTop (mkF m 150 #[.val (.int i0), .val (.int i1), .val (.int i2), .val (.int i3), s4, s5, .val (.int i6), s7, .val (.int i8), s9, s10] [])) _
  refine XS.iload X0.here hx rfl (hb hby at_150) rfl ?_
  show Steps p.tables e below (T0.setTop (mkF m 152 #[.val (.int i0), .val (.int i1), .val (.int i2), .val (.int i3), s4, s5, .val (.int i6), s7, .val (.int i8), s9, s10] [(.int i6)])) _
  refine XS.iconst X0.here hx rfl (hb hby at_152) ?_
  show Steps p.tables e below (T0.setTop (mkF m 153 #[.val (.int i0), .val (.int i1), .val (.int i2), .val (.int i3), s4, s5, .val (.int i6), s7, .val (.int i8), s9, s10] [(.int (3 : Int32)), (.int i6)])) _
  refine XS.icmpNo X0.here hx rfl (hb hby at_153) rfl (tlt hc153).2.2.2 ?_
  show Steps p.tables e below (T0.setTop (mkF m 156 #[.val (.int i0), .val (.int i1), .val (.int i2), .val (.int i3), s4, s5, .val (.int i6), s7, .val (.int i8), s9, s10] [])) _
  refine XS.iloadN X0.here hx rfl (hb hby at_156) rfl ?_
  show Steps p.tables e below (T0.setTop (mkF m 157 #[.val (.int i0), .val (.int i1), .val (.int i2), .val (.int i3), s4, s5, .val (.int i6), s7, .val (.int i8), s9, s10] [(.int i3)])) _
  refine XS.iload X0.here hx rfl (hb hby at_157) rfl ?_
  show Steps p.tables e below (T0.setTop (mkF m 159 #[.val (.int i0), .val (.int i1), .val (.int i2), .val (.int i3), s4, s5, .val (.int i6), s7, .val (.int i8), s9, s10] [(.int i8), (.int i3)])) _
  refine XS.icmpNo X0.here hx rfl (hb hby at_159) rfl (teq hc159).2 ?_
  show Steps p.tables e below (T0.setTop (mkF m 162 #[.val (.int i0), .val (.int i1), .val (.int i2), .val (.int i3), s4, s5, .val (.int i6), s7, .val (.int i8), s9, s10] [])) _
  refine XS.iconst X0.here hx rfl (hb hby at_162) ?_
  show Steps p.tables e below (T0.setTop (mkF m 163 #[.val (.int i0), .val (.int i1), .val (.int i2), .val (.int i3), s4, s5, .val (.int i6), s7, .val (.int i8), s9, s10] [(.int (1 : Int32))])) _
  refine XS.goto X0.here hx rfl (pc0 := 163) (pc' := 167) rfl (hb hby at_163) (by decide) (by decide) ?_
  show Steps p.tables e below (T0.setTop (mkF m 167 #[.val (.int i0), .val (.int i1), .val (.int i2), .val (.int i3), s4, s5, .val (.int i6), s7, .val (.int i8), s9, s10] [(.int (1 : Int32))])) _
  refine XS.istore X0.here hx rfl (hb hby at_167) rfl (l' := #[.val (.int i0), .val (.int i1), .val (.int i2), .val (.int i3), s4, s5, .val (.int i6), s7, .val (.int i8), s9, .val (.int (1 : Int32))]) (os0_167_tn0_c_ffffffff hs10) ?_
  exact kt
theorem os0_167_tn0_c_ffffffft {z0 : Value} {z1 : Value} {z2 : Value} {z3 : Value} {s4 : Slot} {s5 : Slot} {z6 : Value} {s7 : Slot} {z8 : Value} {s9 : Slot} {s10 : Slot} {v : Int32} (h : One s10) : storeLocals #[.val z0, .val z1, .val z2, .val z3, s4, s5, .val z6, s7, .val z8, s9, s10] 10 (.int v) = some #[.val z0, .val z1, .val z2, .val z3, s4, s5, .val z6, s7, .val z8, s9, .val (.int v)] := by
  rcases h with rfl | ⟨w, rfl, hw⟩
  · rfl
  · cases w <;> first | rfl | (simp [Value.category] at hw)
set_option maxRecDepth 65536 in
set_option maxHeartbeats 40000000 in
theorem tn0_c_ffffffft {p : Program} {l : Launch} {e : Env} {R : Room} {s : State} {m : MethodId} {args : Array Value} {below : List Frame} {meth : Method} {c : Code} {T0 : State} {locs : List Loc} {cells slots : Nat} {Z : State} {a0 : Array Value} {h0 : Heap} (i0 : Int32) (i1 : Int32) (i2 : Int32) (i3 : Int32) (s4 : Slot) (s5 : Slot) (i6 : Int32) (s7 : Slot) (i8 : Int32) (s9 : Slot) (s10 : Slot)
    (X0 : Stand p l e R s m args below meth c T0 locs cells slots) (hx : p.tables.exec = Jvm.exec) (hZ : Z.Warmed39 s.vm) (hw : ∀ d ∈ tables_1, d.before a0 Z = true) (hby : c.code = code) (hml : c.maxLocals = 11) (hown : s.vm.findClass "com/example/covercull/covercull/InteractionsContainsPinLaw" = some m.cls) (e0 : T0.heap = h0) (hs10 : One s10) (hc117 : (0 : Int32) < i6) (hc123 : ¬ (i0 = i8)) (hc129 : (1 : Int32) < i6) (hc135 : ¬ (i1 = i8)) (hc141 : (2 : Int32) < i6) (hc147 : ¬ (i2 = i8)) (hc153 : (3 : Int32) < i6) (hc159 : ¬ (i3 = i8)) :
    ∃ (T' : State), Stand p l e R s m args below meth c T' locs cells slots ∧ T'.heap = h0 ∧
      ∀ target, Steps p.tables e below (T'.setTop (mkF m 169 #[.val (.int i0), .val (.int i1), .val (.int i2), .val (.int i3), s4, s5, .val (.int i6), s7, .val (.int i8), s9, .val (.int (0 : Int32))] [])) target → Steps p.tables e below (T0.setTop (mkF m 115 #[.val (.int i0), .val (.int i1), .val (.int i2), .val (.int i3), s4, s5, .val (.int i6), s7, .val (.int i8), s9, s10] [])) target := by
  refine ⟨T0, X0, e0, fun target kt => ?_⟩
  show Steps p.tables e below (T0.setTop (mkF m 115 #[.val (.int i0), .val (.int i1), .val (.int i2), .val (.int i3), s4, s5, .val (.int i6), s7, .val (.int i8), s9, s10] [])) _
  refine XS.iload X0.here hx rfl (hb hby at_115) rfl ?_
  show Steps p.tables e below (T0.setTop (mkF m 117 #[.val (.int i0), .val (.int i1), .val (.int i2), .val (.int i3), s4, s5, .val (.int i6), s7, .val (.int i8), s9, s10] [(.int i6)])) _
  refine XS.ifNo X0.here hx rfl (hb hby at_117) rfl ((if0 _ _).trans (tlt hc117).2.2.2) ?_
  show Steps p.tables e below (T0.setTop (mkF m 120 #[.val (.int i0), .val (.int i1), .val (.int i2), .val (.int i3), s4, s5, .val (.int i6), s7, .val (.int i8), s9, s10] [])) _
  refine XS.iloadN X0.here hx rfl (hb hby at_120) rfl ?_
  show Steps p.tables e below (T0.setTop (mkF m 121 #[.val (.int i0), .val (.int i1), .val (.int i2), .val (.int i3), s4, s5, .val (.int i6), s7, .val (.int i8), s9, s10] [(.int i0)])) _
  refine XS.iload X0.here hx rfl (hb hby at_121) rfl ?_
  show Steps p.tables e below (T0.setTop (mkF m 123 #[.val (.int i0), .val (.int i1), .val (.int i2), .val (.int i3), s4, s5, .val (.int i6), s7, .val (.int i8), s9, s10] [(.int i8), (.int i0)])) _
  refine XS.icmpNo X0.here hx rfl (hb hby at_123) rfl (feq hc123).1 ?_
  show Steps p.tables e below (T0.setTop (mkF m 126 #[.val (.int i0), .val (.int i1), .val (.int i2), .val (.int i3), s4, s5, .val (.int i6), s7, .val (.int i8), s9, s10] [])) _
  refine XS.iload X0.here hx rfl (hb hby at_126) rfl ?_
  show Steps p.tables e below (T0.setTop (mkF m 128 #[.val (.int i0), .val (.int i1), .val (.int i2), .val (.int i3), s4, s5, .val (.int i6), s7, .val (.int i8), s9, s10] [(.int i6)])) _
  refine XS.iconst X0.here hx rfl (hb hby at_128) ?_
  show Steps p.tables e below (T0.setTop (mkF m 129 #[.val (.int i0), .val (.int i1), .val (.int i2), .val (.int i3), s4, s5, .val (.int i6), s7, .val (.int i8), s9, s10] [(.int (1 : Int32)), (.int i6)])) _
  refine XS.icmpNo X0.here hx rfl (hb hby at_129) rfl (tlt hc129).2.2.2 ?_
  show Steps p.tables e below (T0.setTop (mkF m 132 #[.val (.int i0), .val (.int i1), .val (.int i2), .val (.int i3), s4, s5, .val (.int i6), s7, .val (.int i8), s9, s10] [])) _
  refine XS.iloadN X0.here hx rfl (hb hby at_132) rfl ?_
  show Steps p.tables e below (T0.setTop (mkF m 133 #[.val (.int i0), .val (.int i1), .val (.int i2), .val (.int i3), s4, s5, .val (.int i6), s7, .val (.int i8), s9, s10] [(.int i1)])) _
  refine XS.iload X0.here hx rfl (hb hby at_133) rfl ?_
  show Steps p.tables e below (T0.setTop (mkF m 135 #[.val (.int i0), .val (.int i1), .val (.int i2), .val (.int i3), s4, s5, .val (.int i6), s7, .val (.int i8), s9, s10] [(.int i8), (.int i1)])) _
  refine XS.icmpNo X0.here hx rfl (hb hby at_135) rfl (feq hc135).1 ?_
  show Steps p.tables e below (T0.setTop (mkF m 138 #[.val (.int i0), .val (.int i1), .val (.int i2), .val (.int i3), s4, s5, .val (.int i6), s7, .val (.int i8), s9, s10] [])) _
  refine XS.iload X0.here hx rfl (hb hby at_138) rfl ?_
  show Steps p.tables e below (T0.setTop (mkF m 140 #[.val (.int i0), .val (.int i1), .val (.int i2), .val (.int i3), s4, s5, .val (.int i6), s7, .val (.int i8), s9, s10] [(.int i6)])) _
  refine XS.iconst X0.here hx rfl (hb hby at_140) ?_
  show Steps p.tables e below (T0.setTop (mkF m 141 #[.val (.int i0), .val (.int i1), .val (.int i2), .val (.int i3), s4, s5, .val (.int i6), s7, .val (.int i8), s9, s10] [(.int (2 : Int32)), (.int i6)])) _
  refine XS.icmpNo X0.here hx rfl (hb hby at_141) rfl (tlt hc141).2.2.2 ?_
  show Steps p.tables e below (T0.setTop (mkF m 144 #[.val (.int i0), .val (.int i1), .val (.int i2), .val (.int i3), s4, s5, .val (.int i6), s7, .val (.int i8), s9, s10] [])) _
  refine XS.iloadN X0.here hx rfl (hb hby at_144) rfl ?_
  show Steps p.tables e below (T0.setTop (mkF m 145 #[.val (.int i0), .val (.int i1), .val (.int i2), .val (.int i3), s4, s5, .val (.int i6), s7, .val (.int i8), s9, s10] [(.int i2)])) _
  refine XS.iload X0.here hx rfl (hb hby at_145) rfl ?_
  show Steps p.tables e below (T0.setTop (mkF m 147 #[.val (.int i0), .val (.int i1), .val (.int i2), .val (.int i3), s4, s5, .val (.int i6), s7, .val (.int i8), s9, s10] [(.int i8), (.int i2)])) _
  refine XS.icmpNo X0.here hx rfl (hb hby at_147) rfl (feq hc147).1 ?_
  show Steps p.tables e below (T0.setTop (mkF m 150 #[.val (.int i0), .val (.int i1), .val (.int i2), .val (.int i3), s4, s5, .val (.int i6), s7, .val (.int i8), s9, s10] [])) _
  refine XS.iload X0.here hx rfl (hb hby at_150) rfl ?_
  show Steps p.tables e below (T0.setTop (mkF m 152 #[.val (.int i0), .val (.int i1), .val (.int i2), .val (.int i3), s4, s5, .val (.int i6), s7, .val (.int i8), s9, s10] [(.int i6)])) _
  refine XS.iconst X0.here hx rfl (hb hby at_152) ?_
  show Steps p.tables e below (T0.setTop (mkF m 153 #[.val (.int i0), .val (.int i1), .val (.int i2), .val (.int i3), s4, s5, .val (.int i6), s7, .val (.int i8), s9, s10] [(.int (3 : Int32)), (.int i6)])) _
  refine XS.icmpNo X0.here hx rfl (hb hby at_153) rfl (tlt hc153).2.2.2 ?_
  show Steps p.tables e below (T0.setTop (mkF m 156 #[.val (.int i0), .val (.int i1), .val (.int i2), .val (.int i3), s4, s5, .val (.int i6), s7, .val (.int i8), s9, s10] [])) _
  refine XS.iloadN X0.here hx rfl (hb hby at_156) rfl ?_
  show Steps p.tables e below (T0.setTop (mkF m 157 #[.val (.int i0), .val (.int i1), .val (.int i2), .val (.int i3), s4, s5, .val (.int i6), s7, .val (.int i8), s9, s10] [(.int i3)])) _
  refine XS.iload X0.here hx rfl (hb hby at_157) rfl ?_
  show Steps p.tables e below (T0.setTop (mkF m 159 #[.val (.int i0), .val (.int i1), .val (.int i2), .val (.int i3), s4, s5, .val (.int i6), s7, .val (.int i8), s9, s10] [(.int i8), (.int i3)])) _
  refine XS.icmpYes X0.here hx rfl (pc0 := 159) (pc' := 166) rfl (hb hby at_159) rfl (feq hc159).2 (by decide) (by decide) ?_
  show Steps p.tables e below (T0.setTop (mkF m 166 #[.val (.int i0), .val (.int i1), .val (.int i2), .val (.int i3), s4, s5, .val (.int i6), s7, .val (.int i8), s9, s10] [])) _
  refine XS.iconst X0.here hx rfl (hb hby at_166) ?_
  show Steps p.tables e below (T0.setTop (mkF m 167 #[.val (.int i0), .val (.int i1), .val (.int i2), .val (.int i3), s4, s5, .val (.int i6), s7, .val (.int i8), s9, s10] [(.int (0 : Int32))])) _
  refine XS.istore X0.here hx rfl (hb hby at_167) rfl (l' := #[.val (.int i0), .val (.int i1), .val (.int i2), .val (.int i3), s4, s5, .val (.int i6), s7, .val (.int i8), s9, .val (.int (0 : Int32))]) (os0_167_tn0_c_ffffffft hs10) ?_
  exact kt
set_option maxRecDepth 65536 in
set_option maxHeartbeats 40000000 in
theorem tn0_b0 {p : Program} {l : Launch} {e : Env} {s : State} {m : MethodId} {args : Array Value} {below : List Frame} {meth : Method} {c : Code} {T0 : State} {locs : List Loc} {Z : State} {a0 : Array Value} {h0 : Heap} (i0 i1 i2 i3 i4 i5 i7 i8 : Int32) (n0 : Nat)
    (X0 : Stand p l e room_1 s m args below meth c T0 locs 0 0) (hx : p.tables.exec = Jvm.exec) (hZ : Z.Warmed39 s.vm) (hw : ∀ d ∈ tables_1, d.before a0 Z = true) (hby : c.code = code) (hml : c.maxLocals = 11) (hown : s.vm.findClass "com/example/covercull/covercull/InteractionsContainsPinLaw" = some m.cls) (e0 : T0.heap = h0) (N0 : Fr n0 locs) (Z0 : n0 ≤ h0.size) :
    ∃ (T' : State) (h' : Heap) (b : Addr) (k : ClassId) (L : List Loc), Stand p l e room_1 s m args below meth c T' L 1 4 ∧ T'.heap = h' ∧ Fr n0 L ∧ n0 ≤ h'.size ∧ Arv Z h' b k .int (0 : Int32) [] (.int (0 : Int32)) ∧
      ∀ target, Steps p.tables e below (T'.setTop (mkF m 115 #[.val (.int i0), .val (.int i1), .val (.int i2), .val (.int i3), .val (.int i4), .val (.int i5), .val (.int (0 : Int32)), .val (.int i7), .val (.int i8), .val (.ref b), .unset] [])) target → Steps p.tables e below (T0.setTop (mkF m 66 #[.val (.int i0), .val (.int i1), .val (.int i2), .val (.int i3), .val (.int i4), .val (.int i5), .val (.int (0 : Int32)), .val (.int i7), .val (.int i8), .unset, .unset] [])) target := by
  obtain ⟨T7, h7, k7, X7, e7, E7, A7, st7⟩ := newP X0 hx hZ (hw _ (List.mem_of_getElem? (i := 0) rfl)) e0 (g := (mkF m 68 #[.val (.int i0), .val (.int i1), .val (.int i2), .val (.int i3), .val (.int i4), .val (.int i5), .val (.int (0 : Int32)), .val (.int i7), .val (.int i8), .unset, .unset] [(.int (0 : Int32))])) rfl (hb hby at_68) rfl (by decide) (cap := 4) (by decide) (by decide) (by decide) (by decide)
  obtain ⟨b7, g7⟩ : ∃ z, z = h0.size := ⟨_, rfl⟩
  rw [← g7] at A7 st7
  have V_b7 : Arv Z h7 b7 k7 .int (0 : Int32) (List.replicate 0 (.int (0 : Int32))) (.int (0 : Int32)) := (Arv.new A7 (by decide)).pad (pad_rep [] _ 0)
  have g_b7 : n0 ≤ b7 := Nat.le_trans Z0 (Nat.le_of_eq g7.symm)
  have sz_b7 : h0.size ≤ b7 := (Nat.le_trans (Keep.refl h0 []).1 (Nat.le_of_eq g7.symm))
  have K7 : Keep h0 h7 [] := (Keep.refl h0 []).ext E7
  refine ⟨T7, _, b7, k7, _, X7, e7, N0, Nat.le_trans Z0 K7.1, V_b7, fun target kt => ?_⟩
  show Steps p.tables e below (T0.setTop (mkF m 66 #[.val (.int i0), .val (.int i1), .val (.int i2), .val (.int i3), .val (.int i4), .val (.int i5), .val (.int (0 : Int32)), .val (.int i7), .val (.int i8), .unset, .unset] [])) _
  refine XS.iload X0.here hx rfl (hb hby at_66) rfl ?_
  show Steps p.tables e below (T0.setTop (mkF m 68 #[.val (.int i0), .val (.int i1), .val (.int i2), .val (.int i3), .val (.int i4), .val (.int i5), .val (.int (0 : Int32)), .val (.int i7), .val (.int i8), .unset, .unset] [(.int (0 : Int32))])) _
  refine st7 _ ?_
  show Steps p.tables e below (T7.setTop (mkF m 70 #[.val (.int i0), .val (.int i1), .val (.int i2), .val (.int i3), .val (.int i4), .val (.int i5), .val (.int (0 : Int32)), .val (.int i7), .val (.int i8), .unset, .unset] [(.ref b7)])) _
  refine XS.astore X7.here hx rfl (hb hby at_70) rfl rfl (l' := #[.val (.int i0), .val (.int i1), .val (.int i2), .val (.int i3), .val (.int i4), .val (.int i5), .val (.int (0 : Int32)), .val (.int i7), .val (.int i8), .val (.ref b7), .unset]) rfl ?_
  show Steps p.tables e below (T7.setTop (mkF m 72 #[.val (.int i0), .val (.int i1), .val (.int i2), .val (.int i3), .val (.int i4), .val (.int i5), .val (.int (0 : Int32)), .val (.int i7), .val (.int i8), .val (.ref b7), .unset] [])) _
  refine XS.iload X7.here hx rfl (hb hby at_72) rfl ?_
  show Steps p.tables e below (T7.setTop (mkF m 74 #[.val (.int i0), .val (.int i1), .val (.int i2), .val (.int i3), .val (.int i4), .val (.int i5), .val (.int (0 : Int32)), .val (.int i7), .val (.int i8), .val (.ref b7), .unset] [(.int (0 : Int32))])) _
  refine XS.ifYes X7.here hx rfl (pc0 := 74) (pc' := 82) rfl (hb hby at_74) rfl ((if0 _ _).trans (flt (by decide : ¬ ((0 : Int32) < (0 : Int32)))).2.2.2) (by decide) (by decide) ?_
  show Steps p.tables e below (T7.setTop (mkF m 82 #[.val (.int i0), .val (.int i1), .val (.int i2), .val (.int i3), .val (.int i4), .val (.int i5), .val (.int (0 : Int32)), .val (.int i7), .val (.int i8), .val (.ref b7), .unset] [])) _
  refine XS.iload X7.here hx rfl (hb hby at_82) rfl ?_
  show Steps p.tables e below (T7.setTop (mkF m 84 #[.val (.int i0), .val (.int i1), .val (.int i2), .val (.int i3), .val (.int i4), .val (.int i5), .val (.int (0 : Int32)), .val (.int i7), .val (.int i8), .val (.ref b7), .unset] [(.int (0 : Int32))])) _
  refine XS.iconst X7.here hx rfl (hb hby at_84) ?_
  show Steps p.tables e below (T7.setTop (mkF m 85 #[.val (.int i0), .val (.int i1), .val (.int i2), .val (.int i3), .val (.int i4), .val (.int i5), .val (.int (0 : Int32)), .val (.int i7), .val (.int i8), .val (.ref b7), .unset] [(.int (1 : Int32)), (.int (0 : Int32))])) _
  refine XS.icmpYes X7.here hx rfl (pc0 := 85) (pc' := 93) rfl (hb hby at_85) rfl (flt (by decide : ¬ ((1 : Int32) < (0 : Int32)))).2.2.2 (by decide) (by decide) ?_
  show Steps p.tables e below (T7.setTop (mkF m 93 #[.val (.int i0), .val (.int i1), .val (.int i2), .val (.int i3), .val (.int i4), .val (.int i5), .val (.int (0 : Int32)), .val (.int i7), .val (.int i8), .val (.ref b7), .unset] [])) _
  refine XS.iload X7.here hx rfl (hb hby at_93) rfl ?_
  show Steps p.tables e below (T7.setTop (mkF m 95 #[.val (.int i0), .val (.int i1), .val (.int i2), .val (.int i3), .val (.int i4), .val (.int i5), .val (.int (0 : Int32)), .val (.int i7), .val (.int i8), .val (.ref b7), .unset] [(.int (0 : Int32))])) _
  refine XS.iconst X7.here hx rfl (hb hby at_95) ?_
  show Steps p.tables e below (T7.setTop (mkF m 96 #[.val (.int i0), .val (.int i1), .val (.int i2), .val (.int i3), .val (.int i4), .val (.int i5), .val (.int (0 : Int32)), .val (.int i7), .val (.int i8), .val (.ref b7), .unset] [(.int (2 : Int32)), (.int (0 : Int32))])) _
  refine XS.icmpYes X7.here hx rfl (pc0 := 96) (pc' := 104) rfl (hb hby at_96) rfl (flt (by decide : ¬ ((2 : Int32) < (0 : Int32)))).2.2.2 (by decide) (by decide) ?_
  show Steps p.tables e below (T7.setTop (mkF m 104 #[.val (.int i0), .val (.int i1), .val (.int i2), .val (.int i3), .val (.int i4), .val (.int i5), .val (.int (0 : Int32)), .val (.int i7), .val (.int i8), .val (.ref b7), .unset] [])) _
  refine XS.iload X7.here hx rfl (hb hby at_104) rfl ?_
  show Steps p.tables e below (T7.setTop (mkF m 106 #[.val (.int i0), .val (.int i1), .val (.int i2), .val (.int i3), .val (.int i4), .val (.int i5), .val (.int (0 : Int32)), .val (.int i7), .val (.int i8), .val (.ref b7), .unset] [(.int (0 : Int32))])) _
  refine XS.iconst X7.here hx rfl (hb hby at_106) ?_
  show Steps p.tables e below (T7.setTop (mkF m 107 #[.val (.int i0), .val (.int i1), .val (.int i2), .val (.int i3), .val (.int i4), .val (.int i5), .val (.int (0 : Int32)), .val (.int i7), .val (.int i8), .val (.ref b7), .unset] [(.int (3 : Int32)), (.int (0 : Int32))])) _
  refine XS.icmpYes X7.here hx rfl (pc0 := 107) (pc' := 115) rfl (hb hby at_107) rfl (flt (by decide : ¬ ((3 : Int32) < (0 : Int32)))).2.2.2 (by decide) (by decide) ?_
  exact kt
set_option maxRecDepth 65536 in
set_option maxHeartbeats 40000000 in
theorem tn0_b1 {p : Program} {l : Launch} {e : Env} {s : State} {m : MethodId} {args : Array Value} {below : List Frame} {meth : Method} {c : Code} {T0 : State} {locs : List Loc} {Z : State} {a0 : Array Value} {h0 : Heap} (i0 i1 i2 i3 i4 i5 i7 i8 : Int32) (n0 : Nat)
    (X0 : Stand p l e room_1 s m args below meth c T0 locs 0 0) (hx : p.tables.exec = Jvm.exec) (hZ : Z.Warmed39 s.vm) (hw : ∀ d ∈ tables_1, d.before a0 Z = true) (hby : c.code = code) (hml : c.maxLocals = 11) (hown : s.vm.findClass "com/example/covercull/covercull/InteractionsContainsPinLaw" = some m.cls) (e0 : T0.heap = h0) (N0 : Fr n0 locs) (Z0 : n0 ≤ h0.size) :
    ∃ (T' : State) (h' : Heap) (b : Addr) (k : ClassId) (L : List Loc), Stand p l e room_1 s m args below meth c T' L 1 4 ∧ T'.heap = h' ∧ Fr n0 L ∧ n0 ≤ h'.size ∧ Arv Z h' b k .int (1 : Int32) [.int i0] (.int (0 : Int32)) ∧
      ∀ target, Steps p.tables e below (T'.setTop (mkF m 115 #[.val (.int i0), .val (.int i1), .val (.int i2), .val (.int i3), .val (.int i4), .val (.int i5), .val (.int (1 : Int32)), .val (.int i7), .val (.int i8), .val (.ref b), .unset] [])) target → Steps p.tables e below (T0.setTop (mkF m 66 #[.val (.int i0), .val (.int i1), .val (.int i2), .val (.int i3), .val (.int i4), .val (.int i5), .val (.int (1 : Int32)), .val (.int i7), .val (.int i8), .unset, .unset] [])) target := by
  obtain ⟨T7, h7, k7, X7, e7, E7, A7, st7⟩ := newP X0 hx hZ (hw _ (List.mem_of_getElem? (i := 0) rfl)) e0 (g := (mkF m 68 #[.val (.int i0), .val (.int i1), .val (.int i2), .val (.int i3), .val (.int i4), .val (.int i5), .val (.int (1 : Int32)), .val (.int i7), .val (.int i8), .unset, .unset] [(.int (1 : Int32))])) rfl (hb hby at_68) rfl (by decide) (cap := 4) (by decide) (by decide) (by decide) (by decide)
  obtain ⟨b7, g7⟩ : ∃ z, z = h0.size := ⟨_, rfl⟩
  rw [← g7] at A7 st7
  have V_b7 : Arv Z h7 b7 k7 .int (1 : Int32) (List.replicate 1 (.int (0 : Int32))) (.int (0 : Int32)) := (Arv.new A7 (by decide)).pad (pad_rep [] _ 1)
  have g_b7 : n0 ≤ b7 := Nat.le_trans Z0 (Nat.le_of_eq g7.symm)
  have sz_b7 : h0.size ≤ b7 := (Nat.le_trans (Keep.refl h0 []).1 (Nat.le_of_eq g7.symm))
  have K7 : Keep h0 h7 [] := (Keep.refl h0 []).ext E7
  obtain ⟨cl_b7_81, Ar_b7, q_b7, S_b7, N_b7, H_b7, G_b7⟩ := V_b7
  have hin81 : ¬ ((0 : Int32) < 0 ∨ cl_b7_81.slots.size ≤ ((0 : Int32)).toNatClampNeg) := inb_of S_b7 ⟨by decide, by decide⟩
  obtain ⟨T8, h8, X8, e8, W8, st8⟩ := stI X7 hx hZ e7 Ar_b7 (j := (0 : Int32)) hin81 (g := (mkF m 81 #[.val (.int i0), .val (.int i1), .val (.int i2), .val (.int i3), .val (.int i4), .val (.int i5), .val (.int (1 : Int32)), .val (.int i7), .val (.int i8), .val (.ref b7), .unset] [(.int i0), (.int (0 : Int32)), (.ref b7)])) rfl rfl (hb hby at_81)
  have V_b7_8 := Arv.set Ar_b7 q_b7 S_b7 N_b7 H_b7 G_b7 rfl W8 0 rfl (Nat.le_of_ble_eq_true rfl)
  have K8 : Keep h0 h8 [] := K7.wr W8 (Or.inr sz_b7)
  have N8 := Fr.snoc X8 N0 g_b7
  refine ⟨T8, _, b7, k7, _, X8, e8, N8, Nat.le_trans Z0 K8.1, V_b7_8, fun target kt => ?_⟩
  show Steps p.tables e below (T0.setTop (mkF m 66 #[.val (.int i0), .val (.int i1), .val (.int i2), .val (.int i3), .val (.int i4), .val (.int i5), .val (.int (1 : Int32)), .val (.int i7), .val (.int i8), .unset, .unset] [])) _
  refine XS.iload X0.here hx rfl (hb hby at_66) rfl ?_
  show Steps p.tables e below (T0.setTop (mkF m 68 #[.val (.int i0), .val (.int i1), .val (.int i2), .val (.int i3), .val (.int i4), .val (.int i5), .val (.int (1 : Int32)), .val (.int i7), .val (.int i8), .unset, .unset] [(.int (1 : Int32))])) _
  refine st7 _ ?_
  show Steps p.tables e below (T7.setTop (mkF m 70 #[.val (.int i0), .val (.int i1), .val (.int i2), .val (.int i3), .val (.int i4), .val (.int i5), .val (.int (1 : Int32)), .val (.int i7), .val (.int i8), .unset, .unset] [(.ref b7)])) _
  refine XS.astore X7.here hx rfl (hb hby at_70) rfl rfl (l' := #[.val (.int i0), .val (.int i1), .val (.int i2), .val (.int i3), .val (.int i4), .val (.int i5), .val (.int (1 : Int32)), .val (.int i7), .val (.int i8), .val (.ref b7), .unset]) rfl ?_
  show Steps p.tables e below (T7.setTop (mkF m 72 #[.val (.int i0), .val (.int i1), .val (.int i2), .val (.int i3), .val (.int i4), .val (.int i5), .val (.int (1 : Int32)), .val (.int i7), .val (.int i8), .val (.ref b7), .unset] [])) _
  refine XS.iload X7.here hx rfl (hb hby at_72) rfl ?_
  show Steps p.tables e below (T7.setTop (mkF m 74 #[.val (.int i0), .val (.int i1), .val (.int i2), .val (.int i3), .val (.int i4), .val (.int i5), .val (.int (1 : Int32)), .val (.int i7), .val (.int i8), .val (.ref b7), .unset] [(.int (1 : Int32))])) _
  refine XS.ifNo X7.here hx rfl (hb hby at_74) rfl ((if0 _ _).trans (tlt (by decide : (0 : Int32) < (1 : Int32))).2.2.2) ?_
  show Steps p.tables e below (T7.setTop (mkF m 77 #[.val (.int i0), .val (.int i1), .val (.int i2), .val (.int i3), .val (.int i4), .val (.int i5), .val (.int (1 : Int32)), .val (.int i7), .val (.int i8), .val (.ref b7), .unset] [])) _
  refine XS.aload X7.here hx rfl (hb hby at_77) rfl rfl ?_
  show Steps p.tables e below (T7.setTop (mkF m 79 #[.val (.int i0), .val (.int i1), .val (.int i2), .val (.int i3), .val (.int i4), .val (.int i5), .val (.int (1 : Int32)), .val (.int i7), .val (.int i8), .val (.ref b7), .unset] [(.ref b7)])) _
  refine XS.iconst X7.here hx rfl (hb hby at_79) ?_
  show Steps p.tables e below (T7.setTop (mkF m 80 #[.val (.int i0), .val (.int i1), .val (.int i2), .val (.int i3), .val (.int i4), .val (.int i5), .val (.int (1 : Int32)), .val (.int i7), .val (.int i8), .val (.ref b7), .unset] [(.int (0 : Int32)), (.ref b7)])) _
  refine XS.iloadN X7.here hx rfl (hb hby at_80) rfl ?_
  show Steps p.tables e below (T7.setTop (mkF m 81 #[.val (.int i0), .val (.int i1), .val (.int i2), .val (.int i3), .val (.int i4), .val (.int i5), .val (.int (1 : Int32)), .val (.int i7), .val (.int i8), .val (.ref b7), .unset] [(.int i0), (.int (0 : Int32)), (.ref b7)])) _
  refine st8 _ ?_
  show Steps p.tables e below (T8.setTop (mkF m 82 #[.val (.int i0), .val (.int i1), .val (.int i2), .val (.int i3), .val (.int i4), .val (.int i5), .val (.int (1 : Int32)), .val (.int i7), .val (.int i8), .val (.ref b7), .unset] [])) _
  refine XS.iload X8.here hx rfl (hb hby at_82) rfl ?_
  show Steps p.tables e below (T8.setTop (mkF m 84 #[.val (.int i0), .val (.int i1), .val (.int i2), .val (.int i3), .val (.int i4), .val (.int i5), .val (.int (1 : Int32)), .val (.int i7), .val (.int i8), .val (.ref b7), .unset] [(.int (1 : Int32))])) _
  refine XS.iconst X8.here hx rfl (hb hby at_84) ?_
  show Steps p.tables e below (T8.setTop (mkF m 85 #[.val (.int i0), .val (.int i1), .val (.int i2), .val (.int i3), .val (.int i4), .val (.int i5), .val (.int (1 : Int32)), .val (.int i7), .val (.int i8), .val (.ref b7), .unset] [(.int (1 : Int32)), (.int (1 : Int32))])) _
  refine XS.icmpYes X8.here hx rfl (pc0 := 85) (pc' := 93) rfl (hb hby at_85) rfl (flt (by decide : ¬ ((1 : Int32) < (1 : Int32)))).2.2.2 (by decide) (by decide) ?_
  show Steps p.tables e below (T8.setTop (mkF m 93 #[.val (.int i0), .val (.int i1), .val (.int i2), .val (.int i3), .val (.int i4), .val (.int i5), .val (.int (1 : Int32)), .val (.int i7), .val (.int i8), .val (.ref b7), .unset] [])) _
  refine XS.iload X8.here hx rfl (hb hby at_93) rfl ?_
  show Steps p.tables e below (T8.setTop (mkF m 95 #[.val (.int i0), .val (.int i1), .val (.int i2), .val (.int i3), .val (.int i4), .val (.int i5), .val (.int (1 : Int32)), .val (.int i7), .val (.int i8), .val (.ref b7), .unset] [(.int (1 : Int32))])) _
  refine XS.iconst X8.here hx rfl (hb hby at_95) ?_
  show Steps p.tables e below (T8.setTop (mkF m 96 #[.val (.int i0), .val (.int i1), .val (.int i2), .val (.int i3), .val (.int i4), .val (.int i5), .val (.int (1 : Int32)), .val (.int i7), .val (.int i8), .val (.ref b7), .unset] [(.int (2 : Int32)), (.int (1 : Int32))])) _
  refine XS.icmpYes X8.here hx rfl (pc0 := 96) (pc' := 104) rfl (hb hby at_96) rfl (flt (by decide : ¬ ((2 : Int32) < (1 : Int32)))).2.2.2 (by decide) (by decide) ?_
  show Steps p.tables e below (T8.setTop (mkF m 104 #[.val (.int i0), .val (.int i1), .val (.int i2), .val (.int i3), .val (.int i4), .val (.int i5), .val (.int (1 : Int32)), .val (.int i7), .val (.int i8), .val (.ref b7), .unset] [])) _
  refine XS.iload X8.here hx rfl (hb hby at_104) rfl ?_
  show Steps p.tables e below (T8.setTop (mkF m 106 #[.val (.int i0), .val (.int i1), .val (.int i2), .val (.int i3), .val (.int i4), .val (.int i5), .val (.int (1 : Int32)), .val (.int i7), .val (.int i8), .val (.ref b7), .unset] [(.int (1 : Int32))])) _
  refine XS.iconst X8.here hx rfl (hb hby at_106) ?_
  show Steps p.tables e below (T8.setTop (mkF m 107 #[.val (.int i0), .val (.int i1), .val (.int i2), .val (.int i3), .val (.int i4), .val (.int i5), .val (.int (1 : Int32)), .val (.int i7), .val (.int i8), .val (.ref b7), .unset] [(.int (3 : Int32)), (.int (1 : Int32))])) _
  refine XS.icmpYes X8.here hx rfl (pc0 := 107) (pc' := 115) rfl (hb hby at_107) rfl (flt (by decide : ¬ ((3 : Int32) < (1 : Int32)))).2.2.2 (by decide) (by decide) ?_
  exact kt
set_option maxRecDepth 65536 in
set_option maxHeartbeats 40000000 in
theorem tn0_b2 {p : Program} {l : Launch} {e : Env} {s : State} {m : MethodId} {args : Array Value} {below : List Frame} {meth : Method} {c : Code} {T0 : State} {locs : List Loc} {Z : State} {a0 : Array Value} {h0 : Heap} (i0 i1 i2 i3 i4 i5 i7 i8 : Int32) (n0 : Nat)
    (X0 : Stand p l e room_1 s m args below meth c T0 locs 0 0) (hx : p.tables.exec = Jvm.exec) (hZ : Z.Warmed39 s.vm) (hw : ∀ d ∈ tables_1, d.before a0 Z = true) (hby : c.code = code) (hml : c.maxLocals = 11) (hown : s.vm.findClass "com/example/covercull/covercull/InteractionsContainsPinLaw" = some m.cls) (e0 : T0.heap = h0) (N0 : Fr n0 locs) (Z0 : n0 ≤ h0.size) :
    ∃ (T' : State) (h' : Heap) (b : Addr) (k : ClassId) (L : List Loc), Stand p l e room_1 s m args below meth c T' L 1 4 ∧ T'.heap = h' ∧ Fr n0 L ∧ n0 ≤ h'.size ∧ Arv Z h' b k .int (2 : Int32) [.int i0, .int i1] (.int (0 : Int32)) ∧
      ∀ target, Steps p.tables e below (T'.setTop (mkF m 115 #[.val (.int i0), .val (.int i1), .val (.int i2), .val (.int i3), .val (.int i4), .val (.int i5), .val (.int (2 : Int32)), .val (.int i7), .val (.int i8), .val (.ref b), .unset] [])) target → Steps p.tables e below (T0.setTop (mkF m 66 #[.val (.int i0), .val (.int i1), .val (.int i2), .val (.int i3), .val (.int i4), .val (.int i5), .val (.int (2 : Int32)), .val (.int i7), .val (.int i8), .unset, .unset] [])) target := by
  obtain ⟨T7, h7, k7, X7, e7, E7, A7, st7⟩ := newP X0 hx hZ (hw _ (List.mem_of_getElem? (i := 0) rfl)) e0 (g := (mkF m 68 #[.val (.int i0), .val (.int i1), .val (.int i2), .val (.int i3), .val (.int i4), .val (.int i5), .val (.int (2 : Int32)), .val (.int i7), .val (.int i8), .unset, .unset] [(.int (2 : Int32))])) rfl (hb hby at_68) rfl (by decide) (cap := 4) (by decide) (by decide) (by decide) (by decide)
  obtain ⟨b7, g7⟩ : ∃ z, z = h0.size := ⟨_, rfl⟩
  rw [← g7] at A7 st7
  have V_b7 : Arv Z h7 b7 k7 .int (2 : Int32) (List.replicate 2 (.int (0 : Int32))) (.int (0 : Int32)) := (Arv.new A7 (by decide)).pad (pad_rep [] _ 2)
  have g_b7 : n0 ≤ b7 := Nat.le_trans Z0 (Nat.le_of_eq g7.symm)
  have sz_b7 : h0.size ≤ b7 := (Nat.le_trans (Keep.refl h0 []).1 (Nat.le_of_eq g7.symm))
  have K7 : Keep h0 h7 [] := (Keep.refl h0 []).ext E7
  obtain ⟨cl_b7_81, Ar_b7, q_b7, S_b7, N_b7, H_b7, G_b7⟩ := V_b7
  have hin81 : ¬ ((0 : Int32) < 0 ∨ cl_b7_81.slots.size ≤ ((0 : Int32)).toNatClampNeg) := inb_of S_b7 ⟨by decide, by decide⟩
  obtain ⟨T8, h8, X8, e8, W8, st8⟩ := stI X7 hx hZ e7 Ar_b7 (j := (0 : Int32)) hin81 (g := (mkF m 81 #[.val (.int i0), .val (.int i1), .val (.int i2), .val (.int i3), .val (.int i4), .val (.int i5), .val (.int (2 : Int32)), .val (.int i7), .val (.int i8), .val (.ref b7), .unset] [(.int i0), (.int (0 : Int32)), (.ref b7)])) rfl rfl (hb hby at_81)
  have V_b7_8 := Arv.set Ar_b7 q_b7 S_b7 N_b7 H_b7 G_b7 rfl W8 0 rfl (Nat.le_of_ble_eq_true rfl)
  have K8 : Keep h0 h8 [] := K7.wr W8 (Or.inr sz_b7)
  have N8 := Fr.snoc X8 N0 g_b7
  obtain ⟨cl_b7_92, Ar_b7, q_b7, S_b7, N_b7, H_b7, G_b7⟩ := V_b7_8
  have hin92 : ¬ ((1 : Int32) < 0 ∨ cl_b7_92.slots.size ≤ ((1 : Int32)).toNatClampNeg) := inb_of S_b7 ⟨by decide, by decide⟩
  obtain ⟨T9, h9, X9, e9, W9, st9⟩ := stI X8 hx hZ e8 Ar_b7 (j := (1 : Int32)) hin92 (g := (mkF m 92 #[.val (.int i0), .val (.int i1), .val (.int i2), .val (.int i3), .val (.int i4), .val (.int i5), .val (.int (2 : Int32)), .val (.int i7), .val (.int i8), .val (.ref b7), .unset] [(.int i1), (.int (1 : Int32)), (.ref b7)])) rfl rfl (hb hby at_92)
  have V_b7_9 := Arv.set Ar_b7 q_b7 S_b7 N_b7 H_b7 G_b7 rfl W9 1 rfl (Nat.le_of_ble_eq_true rfl)
  have K9 : Keep h0 h9 [] := K8.wr W9 (Or.inr sz_b7)
  have N9 := Fr.snoc X9 N8 g_b7
  refine ⟨T9, _, b7, k7, _, X9, e9, N9, Nat.le_trans Z0 K9.1, V_b7_9, fun target kt => ?_⟩
  show Steps p.tables e below (T0.setTop (mkF m 66 #[.val (.int i0), .val (.int i1), .val (.int i2), .val (.int i3), .val (.int i4), .val (.int i5), .val (.int (2 : Int32)), .val (.int i7), .val (.int i8), .unset, .unset] [])) _
  refine XS.iload X0.here hx rfl (hb hby at_66) rfl ?_
  show Steps p.tables e below (T0.setTop (mkF m 68 #[.val (.int i0), .val (.int i1), .val (.int i2), .val (.int i3), .val (.int i4), .val (.int i5), .val (.int (2 : Int32)), .val (.int i7), .val (.int i8), .unset, .unset] [(.int (2 : Int32))])) _
  refine st7 _ ?_
  show Steps p.tables e below (T7.setTop (mkF m 70 #[.val (.int i0), .val (.int i1), .val (.int i2), .val (.int i3), .val (.int i4), .val (.int i5), .val (.int (2 : Int32)), .val (.int i7), .val (.int i8), .unset, .unset] [(.ref b7)])) _
  refine XS.astore X7.here hx rfl (hb hby at_70) rfl rfl (l' := #[.val (.int i0), .val (.int i1), .val (.int i2), .val (.int i3), .val (.int i4), .val (.int i5), .val (.int (2 : Int32)), .val (.int i7), .val (.int i8), .val (.ref b7), .unset]) rfl ?_
  show Steps p.tables e below (T7.setTop (mkF m 72 #[.val (.int i0), .val (.int i1), .val (.int i2), .val (.int i3), .val (.int i4), .val (.int i5), .val (.int (2 : Int32)), .val (.int i7), .val (.int i8), .val (.ref b7), .unset] [])) _
  refine XS.iload X7.here hx rfl (hb hby at_72) rfl ?_
  show Steps p.tables e below (T7.setTop (mkF m 74 #[.val (.int i0), .val (.int i1), .val (.int i2), .val (.int i3), .val (.int i4), .val (.int i5), .val (.int (2 : Int32)), .val (.int i7), .val (.int i8), .val (.ref b7), .unset] [(.int (2 : Int32))])) _
  refine XS.ifNo X7.here hx rfl (hb hby at_74) rfl ((if0 _ _).trans (tlt (by decide : (0 : Int32) < (2 : Int32))).2.2.2) ?_
  show Steps p.tables e below (T7.setTop (mkF m 77 #[.val (.int i0), .val (.int i1), .val (.int i2), .val (.int i3), .val (.int i4), .val (.int i5), .val (.int (2 : Int32)), .val (.int i7), .val (.int i8), .val (.ref b7), .unset] [])) _
  refine XS.aload X7.here hx rfl (hb hby at_77) rfl rfl ?_
  show Steps p.tables e below (T7.setTop (mkF m 79 #[.val (.int i0), .val (.int i1), .val (.int i2), .val (.int i3), .val (.int i4), .val (.int i5), .val (.int (2 : Int32)), .val (.int i7), .val (.int i8), .val (.ref b7), .unset] [(.ref b7)])) _
  refine XS.iconst X7.here hx rfl (hb hby at_79) ?_
  show Steps p.tables e below (T7.setTop (mkF m 80 #[.val (.int i0), .val (.int i1), .val (.int i2), .val (.int i3), .val (.int i4), .val (.int i5), .val (.int (2 : Int32)), .val (.int i7), .val (.int i8), .val (.ref b7), .unset] [(.int (0 : Int32)), (.ref b7)])) _
  refine XS.iloadN X7.here hx rfl (hb hby at_80) rfl ?_
  show Steps p.tables e below (T7.setTop (mkF m 81 #[.val (.int i0), .val (.int i1), .val (.int i2), .val (.int i3), .val (.int i4), .val (.int i5), .val (.int (2 : Int32)), .val (.int i7), .val (.int i8), .val (.ref b7), .unset] [(.int i0), (.int (0 : Int32)), (.ref b7)])) _
  refine st8 _ ?_
  show Steps p.tables e below (T8.setTop (mkF m 82 #[.val (.int i0), .val (.int i1), .val (.int i2), .val (.int i3), .val (.int i4), .val (.int i5), .val (.int (2 : Int32)), .val (.int i7), .val (.int i8), .val (.ref b7), .unset] [])) _
  refine XS.iload X8.here hx rfl (hb hby at_82) rfl ?_
  show Steps p.tables e below (T8.setTop (mkF m 84 #[.val (.int i0), .val (.int i1), .val (.int i2), .val (.int i3), .val (.int i4), .val (.int i5), .val (.int (2 : Int32)), .val (.int i7), .val (.int i8), .val (.ref b7), .unset] [(.int (2 : Int32))])) _
  refine XS.iconst X8.here hx rfl (hb hby at_84) ?_
  show Steps p.tables e below (T8.setTop (mkF m 85 #[.val (.int i0), .val (.int i1), .val (.int i2), .val (.int i3), .val (.int i4), .val (.int i5), .val (.int (2 : Int32)), .val (.int i7), .val (.int i8), .val (.ref b7), .unset] [(.int (1 : Int32)), (.int (2 : Int32))])) _
  refine XS.icmpNo X8.here hx rfl (hb hby at_85) rfl (tlt (by decide : (1 : Int32) < (2 : Int32))).2.2.2 ?_
  show Steps p.tables e below (T8.setTop (mkF m 88 #[.val (.int i0), .val (.int i1), .val (.int i2), .val (.int i3), .val (.int i4), .val (.int i5), .val (.int (2 : Int32)), .val (.int i7), .val (.int i8), .val (.ref b7), .unset] [])) _
  refine XS.aload X8.here hx rfl (hb hby at_88) rfl rfl ?_
  show Steps p.tables e below (T8.setTop (mkF m 90 #[.val (.int i0), .val (.int i1), .val (.int i2), .val (.int i3), .val (.int i4), .val (.int i5), .val (.int (2 : Int32)), .val (.int i7), .val (.int i8), .val (.ref b7), .unset] [(.ref b7)])) _
  refine XS.iconst X8.here hx rfl (hb hby at_90) ?_
  show Steps p.tables e below (T8.setTop (mkF m 91 #[.val (.int i0), .val (.int i1), .val (.int i2), .val (.int i3), .val (.int i4), .val (.int i5), .val (.int (2 : Int32)), .val (.int i7), .val (.int i8), .val (.ref b7), .unset] [(.int (1 : Int32)), (.ref b7)])) _
  refine XS.iloadN X8.here hx rfl (hb hby at_91) rfl ?_
  show Steps p.tables e below (T8.setTop (mkF m 92 #[.val (.int i0), .val (.int i1), .val (.int i2), .val (.int i3), .val (.int i4), .val (.int i5), .val (.int (2 : Int32)), .val (.int i7), .val (.int i8), .val (.ref b7), .unset] [(.int i1), (.int (1 : Int32)), (.ref b7)])) _
  refine st9 _ ?_
  show Steps p.tables e below (T9.setTop (mkF m 93 #[.val (.int i0), .val (.int i1), .val (.int i2), .val (.int i3), .val (.int i4), .val (.int i5), .val (.int (2 : Int32)), .val (.int i7), .val (.int i8), .val (.ref b7), .unset] [])) _
  refine XS.iload X9.here hx rfl (hb hby at_93) rfl ?_
  show Steps p.tables e below (T9.setTop (mkF m 95 #[.val (.int i0), .val (.int i1), .val (.int i2), .val (.int i3), .val (.int i4), .val (.int i5), .val (.int (2 : Int32)), .val (.int i7), .val (.int i8), .val (.ref b7), .unset] [(.int (2 : Int32))])) _
  refine XS.iconst X9.here hx rfl (hb hby at_95) ?_
  show Steps p.tables e below (T9.setTop (mkF m 96 #[.val (.int i0), .val (.int i1), .val (.int i2), .val (.int i3), .val (.int i4), .val (.int i5), .val (.int (2 : Int32)), .val (.int i7), .val (.int i8), .val (.ref b7), .unset] [(.int (2 : Int32)), (.int (2 : Int32))])) _
  refine XS.icmpYes X9.here hx rfl (pc0 := 96) (pc' := 104) rfl (hb hby at_96) rfl (flt (by decide : ¬ ((2 : Int32) < (2 : Int32)))).2.2.2 (by decide) (by decide) ?_
  show Steps p.tables e below (T9.setTop (mkF m 104 #[.val (.int i0), .val (.int i1), .val (.int i2), .val (.int i3), .val (.int i4), .val (.int i5), .val (.int (2 : Int32)), .val (.int i7), .val (.int i8), .val (.ref b7), .unset] [])) _
  refine XS.iload X9.here hx rfl (hb hby at_104) rfl ?_
  show Steps p.tables e below (T9.setTop (mkF m 106 #[.val (.int i0), .val (.int i1), .val (.int i2), .val (.int i3), .val (.int i4), .val (.int i5), .val (.int (2 : Int32)), .val (.int i7), .val (.int i8), .val (.ref b7), .unset] [(.int (2 : Int32))])) _
  refine XS.iconst X9.here hx rfl (hb hby at_106) ?_
  show Steps p.tables e below (T9.setTop (mkF m 107 #[.val (.int i0), .val (.int i1), .val (.int i2), .val (.int i3), .val (.int i4), .val (.int i5), .val (.int (2 : Int32)), .val (.int i7), .val (.int i8), .val (.ref b7), .unset] [(.int (3 : Int32)), (.int (2 : Int32))])) _
  refine XS.icmpYes X9.here hx rfl (pc0 := 107) (pc' := 115) rfl (hb hby at_107) rfl (flt (by decide : ¬ ((3 : Int32) < (2 : Int32)))).2.2.2 (by decide) (by decide) ?_
  exact kt
set_option maxRecDepth 65536 in
set_option maxHeartbeats 40000000 in
theorem tn0_b3 {p : Program} {l : Launch} {e : Env} {s : State} {m : MethodId} {args : Array Value} {below : List Frame} {meth : Method} {c : Code} {T0 : State} {locs : List Loc} {Z : State} {a0 : Array Value} {h0 : Heap} (i0 i1 i2 i3 i4 i5 i7 i8 : Int32) (n0 : Nat)
    (X0 : Stand p l e room_1 s m args below meth c T0 locs 0 0) (hx : p.tables.exec = Jvm.exec) (hZ : Z.Warmed39 s.vm) (hw : ∀ d ∈ tables_1, d.before a0 Z = true) (hby : c.code = code) (hml : c.maxLocals = 11) (hown : s.vm.findClass "com/example/covercull/covercull/InteractionsContainsPinLaw" = some m.cls) (e0 : T0.heap = h0) (N0 : Fr n0 locs) (Z0 : n0 ≤ h0.size) :
    ∃ (T' : State) (h' : Heap) (b : Addr) (k : ClassId) (L : List Loc), Stand p l e room_1 s m args below meth c T' L 1 4 ∧ T'.heap = h' ∧ Fr n0 L ∧ n0 ≤ h'.size ∧ Arv Z h' b k .int (3 : Int32) [.int i0, .int i1, .int i2] (.int (0 : Int32)) ∧
      ∀ target, Steps p.tables e below (T'.setTop (mkF m 115 #[.val (.int i0), .val (.int i1), .val (.int i2), .val (.int i3), .val (.int i4), .val (.int i5), .val (.int (3 : Int32)), .val (.int i7), .val (.int i8), .val (.ref b), .unset] [])) target → Steps p.tables e below (T0.setTop (mkF m 66 #[.val (.int i0), .val (.int i1), .val (.int i2), .val (.int i3), .val (.int i4), .val (.int i5), .val (.int (3 : Int32)), .val (.int i7), .val (.int i8), .unset, .unset] [])) target := by
  obtain ⟨T7, h7, k7, X7, e7, E7, A7, st7⟩ := newP X0 hx hZ (hw _ (List.mem_of_getElem? (i := 0) rfl)) e0 (g := (mkF m 68 #[.val (.int i0), .val (.int i1), .val (.int i2), .val (.int i3), .val (.int i4), .val (.int i5), .val (.int (3 : Int32)), .val (.int i7), .val (.int i8), .unset, .unset] [(.int (3 : Int32))])) rfl (hb hby at_68) rfl (by decide) (cap := 4) (by decide) (by decide) (by decide) (by decide)
  obtain ⟨b7, g7⟩ : ∃ z, z = h0.size := ⟨_, rfl⟩
  rw [← g7] at A7 st7
  have V_b7 : Arv Z h7 b7 k7 .int (3 : Int32) (List.replicate 3 (.int (0 : Int32))) (.int (0 : Int32)) := (Arv.new A7 (by decide)).pad (pad_rep [] _ 3)
  have g_b7 : n0 ≤ b7 := Nat.le_trans Z0 (Nat.le_of_eq g7.symm)
  have sz_b7 : h0.size ≤ b7 := (Nat.le_trans (Keep.refl h0 []).1 (Nat.le_of_eq g7.symm))
  have K7 : Keep h0 h7 [] := (Keep.refl h0 []).ext E7
  obtain ⟨cl_b7_81, Ar_b7, q_b7, S_b7, N_b7, H_b7, G_b7⟩ := V_b7
  have hin81 : ¬ ((0 : Int32) < 0 ∨ cl_b7_81.slots.size ≤ ((0 : Int32)).toNatClampNeg) := inb_of S_b7 ⟨by decide, by decide⟩
  obtain ⟨T8, h8, X8, e8, W8, st8⟩ := stI X7 hx hZ e7 Ar_b7 (j := (0 : Int32)) hin81 (g := (mkF m 81 #[.val (.int i0), .val (.int i1), .val (.int i2), .val (.int i3), .val (.int i4), .val (.int i5), .val (.int (3 : Int32)), .val (.int i7), .val (.int i8), .val (.ref b7), .unset] [(.int i0), (.int (0 : Int32)), (.ref b7)])) rfl rfl (hb hby at_81)
  have V_b7_8 := Arv.set Ar_b7 q_b7 S_b7 N_b7 H_b7 G_b7 rfl W8 0 rfl (Nat.le_of_ble_eq_true rfl)
  have K8 : Keep h0 h8 [] := K7.wr W8 (Or.inr sz_b7)
  have N8 := Fr.snoc X8 N0 g_b7
  obtain ⟨cl_b7_92, Ar_b7, q_b7, S_b7, N_b7, H_b7, G_b7⟩ := V_b7_8
  have hin92 : ¬ ((1 : Int32) < 0 ∨ cl_b7_92.slots.size ≤ ((1 : Int32)).toNatClampNeg) := inb_of S_b7 ⟨by decide, by decide⟩
  obtain ⟨T9, h9, X9, e9, W9, st9⟩ := stI X8 hx hZ e8 Ar_b7 (j := (1 : Int32)) hin92 (g := (mkF m 92 #[.val (.int i0), .val (.int i1), .val (.int i2), .val (.int i3), .val (.int i4), .val (.int i5), .val (.int (3 : Int32)), .val (.int i7), .val (.int i8), .val (.ref b7), .unset] [(.int i1), (.int (1 : Int32)), (.ref b7)])) rfl rfl (hb hby at_92)
  have V_b7_9 := Arv.set Ar_b7 q_b7 S_b7 N_b7 H_b7 G_b7 rfl W9 1 rfl (Nat.le_of_ble_eq_true rfl)
  have K9 : Keep h0 h9 [] := K8.wr W9 (Or.inr sz_b7)
  have N9 := Fr.snoc X9 N8 g_b7
  obtain ⟨cl_b7_103, Ar_b7, q_b7, S_b7, N_b7, H_b7, G_b7⟩ := V_b7_9
  have hin103 : ¬ ((2 : Int32) < 0 ∨ cl_b7_103.slots.size ≤ ((2 : Int32)).toNatClampNeg) := inb_of S_b7 ⟨by decide, by decide⟩
  obtain ⟨T10, h10, X10, e10, W10, st10⟩ := stI X9 hx hZ e9 Ar_b7 (j := (2 : Int32)) hin103 (g := (mkF m 103 #[.val (.int i0), .val (.int i1), .val (.int i2), .val (.int i3), .val (.int i4), .val (.int i5), .val (.int (3 : Int32)), .val (.int i7), .val (.int i8), .val (.ref b7), .unset] [(.int i2), (.int (2 : Int32)), (.ref b7)])) rfl rfl (hb hby at_103)
  have V_b7_10 := Arv.set Ar_b7 q_b7 S_b7 N_b7 H_b7 G_b7 rfl W10 2 rfl (Nat.le_of_ble_eq_true rfl)
  have K10 : Keep h0 h10 [] := K9.wr W10 (Or.inr sz_b7)
  have N10 := Fr.snoc X10 N9 g_b7
  refine ⟨T10, _, b7, k7, _, X10, e10, N10, Nat.le_trans Z0 K10.1, V_b7_10, fun target kt => ?_⟩
  show Steps p.tables e below (T0.setTop (mkF m 66 #[.val (.int i0), .val (.int i1), .val (.int i2), .val (.int i3), .val (.int i4), .val (.int i5), .val (.int (3 : Int32)), .val (.int i7), .val (.int i8), .unset, .unset] [])) _
  refine XS.iload X0.here hx rfl (hb hby at_66) rfl ?_
  show Steps p.tables e below (T0.setTop (mkF m 68 #[.val (.int i0), .val (.int i1), .val (.int i2), .val (.int i3), .val (.int i4), .val (.int i5), .val (.int (3 : Int32)), .val (.int i7), .val (.int i8), .unset, .unset] [(.int (3 : Int32))])) _
  refine st7 _ ?_
  show Steps p.tables e below (T7.setTop (mkF m 70 #[.val (.int i0), .val (.int i1), .val (.int i2), .val (.int i3), .val (.int i4), .val (.int i5), .val (.int (3 : Int32)), .val (.int i7), .val (.int i8), .unset, .unset] [(.ref b7)])) _
  refine XS.astore X7.here hx rfl (hb hby at_70) rfl rfl (l' := #[.val (.int i0), .val (.int i1), .val (.int i2), .val (.int i3), .val (.int i4), .val (.int i5), .val (.int (3 : Int32)), .val (.int i7), .val (.int i8), .val (.ref b7), .unset]) rfl ?_
  show Steps p.tables e below (T7.setTop (mkF m 72 #[.val (.int i0), .val (.int i1), .val (.int i2), .val (.int i3), .val (.int i4), .val (.int i5), .val (.int (3 : Int32)), .val (.int i7), .val (.int i8), .val (.ref b7), .unset] [])) _
  refine XS.iload X7.here hx rfl (hb hby at_72) rfl ?_
  show Steps p.tables e below (T7.setTop (mkF m 74 #[.val (.int i0), .val (.int i1), .val (.int i2), .val (.int i3), .val (.int i4), .val (.int i5), .val (.int (3 : Int32)), .val (.int i7), .val (.int i8), .val (.ref b7), .unset] [(.int (3 : Int32))])) _
  refine XS.ifNo X7.here hx rfl (hb hby at_74) rfl ((if0 _ _).trans (tlt (by decide : (0 : Int32) < (3 : Int32))).2.2.2) ?_
  show Steps p.tables e below (T7.setTop (mkF m 77 #[.val (.int i0), .val (.int i1), .val (.int i2), .val (.int i3), .val (.int i4), .val (.int i5), .val (.int (3 : Int32)), .val (.int i7), .val (.int i8), .val (.ref b7), .unset] [])) _
  refine XS.aload X7.here hx rfl (hb hby at_77) rfl rfl ?_
  show Steps p.tables e below (T7.setTop (mkF m 79 #[.val (.int i0), .val (.int i1), .val (.int i2), .val (.int i3), .val (.int i4), .val (.int i5), .val (.int (3 : Int32)), .val (.int i7), .val (.int i8), .val (.ref b7), .unset] [(.ref b7)])) _
  refine XS.iconst X7.here hx rfl (hb hby at_79) ?_
  show Steps p.tables e below (T7.setTop (mkF m 80 #[.val (.int i0), .val (.int i1), .val (.int i2), .val (.int i3), .val (.int i4), .val (.int i5), .val (.int (3 : Int32)), .val (.int i7), .val (.int i8), .val (.ref b7), .unset] [(.int (0 : Int32)), (.ref b7)])) _
  refine XS.iloadN X7.here hx rfl (hb hby at_80) rfl ?_
  show Steps p.tables e below (T7.setTop (mkF m 81 #[.val (.int i0), .val (.int i1), .val (.int i2), .val (.int i3), .val (.int i4), .val (.int i5), .val (.int (3 : Int32)), .val (.int i7), .val (.int i8), .val (.ref b7), .unset] [(.int i0), (.int (0 : Int32)), (.ref b7)])) _
  refine st8 _ ?_
  show Steps p.tables e below (T8.setTop (mkF m 82 #[.val (.int i0), .val (.int i1), .val (.int i2), .val (.int i3), .val (.int i4), .val (.int i5), .val (.int (3 : Int32)), .val (.int i7), .val (.int i8), .val (.ref b7), .unset] [])) _
  refine XS.iload X8.here hx rfl (hb hby at_82) rfl ?_
  show Steps p.tables e below (T8.setTop (mkF m 84 #[.val (.int i0), .val (.int i1), .val (.int i2), .val (.int i3), .val (.int i4), .val (.int i5), .val (.int (3 : Int32)), .val (.int i7), .val (.int i8), .val (.ref b7), .unset] [(.int (3 : Int32))])) _
  refine XS.iconst X8.here hx rfl (hb hby at_84) ?_
  show Steps p.tables e below (T8.setTop (mkF m 85 #[.val (.int i0), .val (.int i1), .val (.int i2), .val (.int i3), .val (.int i4), .val (.int i5), .val (.int (3 : Int32)), .val (.int i7), .val (.int i8), .val (.ref b7), .unset] [(.int (1 : Int32)), (.int (3 : Int32))])) _
  refine XS.icmpNo X8.here hx rfl (hb hby at_85) rfl (tlt (by decide : (1 : Int32) < (3 : Int32))).2.2.2 ?_
  show Steps p.tables e below (T8.setTop (mkF m 88 #[.val (.int i0), .val (.int i1), .val (.int i2), .val (.int i3), .val (.int i4), .val (.int i5), .val (.int (3 : Int32)), .val (.int i7), .val (.int i8), .val (.ref b7), .unset] [])) _
  refine XS.aload X8.here hx rfl (hb hby at_88) rfl rfl ?_
  show Steps p.tables e below (T8.setTop (mkF m 90 #[.val (.int i0), .val (.int i1), .val (.int i2), .val (.int i3), .val (.int i4), .val (.int i5), .val (.int (3 : Int32)), .val (.int i7), .val (.int i8), .val (.ref b7), .unset] [(.ref b7)])) _
  refine XS.iconst X8.here hx rfl (hb hby at_90) ?_
  show Steps p.tables e below (T8.setTop (mkF m 91 #[.val (.int i0), .val (.int i1), .val (.int i2), .val (.int i3), .val (.int i4), .val (.int i5), .val (.int (3 : Int32)), .val (.int i7), .val (.int i8), .val (.ref b7), .unset] [(.int (1 : Int32)), (.ref b7)])) _
  refine XS.iloadN X8.here hx rfl (hb hby at_91) rfl ?_
  show Steps p.tables e below (T8.setTop (mkF m 92 #[.val (.int i0), .val (.int i1), .val (.int i2), .val (.int i3), .val (.int i4), .val (.int i5), .val (.int (3 : Int32)), .val (.int i7), .val (.int i8), .val (.ref b7), .unset] [(.int i1), (.int (1 : Int32)), (.ref b7)])) _
  refine st9 _ ?_
  show Steps p.tables e below (T9.setTop (mkF m 93 #[.val (.int i0), .val (.int i1), .val (.int i2), .val (.int i3), .val (.int i4), .val (.int i5), .val (.int (3 : Int32)), .val (.int i7), .val (.int i8), .val (.ref b7), .unset] [])) _
  refine XS.iload X9.here hx rfl (hb hby at_93) rfl ?_
  show Steps p.tables e below (T9.setTop (mkF m 95 #[.val (.int i0), .val (.int i1), .val (.int i2), .val (.int i3), .val (.int i4), .val (.int i5), .val (.int (3 : Int32)), .val (.int i7), .val (.int i8), .val (.ref b7), .unset] [(.int (3 : Int32))])) _
  refine XS.iconst X9.here hx rfl (hb hby at_95) ?_
  show Steps p.tables e below (T9.setTop (mkF m 96 #[.val (.int i0), .val (.int i1), .val (.int i2), .val (.int i3), .val (.int i4), .val (.int i5), .val (.int (3 : Int32)), .val (.int i7), .val (.int i8), .val (.ref b7), .unset] [(.int (2 : Int32)), (.int (3 : Int32))])) _
  refine XS.icmpNo X9.here hx rfl (hb hby at_96) rfl (tlt (by decide : (2 : Int32) < (3 : Int32))).2.2.2 ?_
  show Steps p.tables e below (T9.setTop (mkF m 99 #[.val (.int i0), .val (.int i1), .val (.int i2), .val (.int i3), .val (.int i4), .val (.int i5), .val (.int (3 : Int32)), .val (.int i7), .val (.int i8), .val (.ref b7), .unset] [])) _
  refine XS.aload X9.here hx rfl (hb hby at_99) rfl rfl ?_
  show Steps p.tables e below (T9.setTop (mkF m 101 #[.val (.int i0), .val (.int i1), .val (.int i2), .val (.int i3), .val (.int i4), .val (.int i5), .val (.int (3 : Int32)), .val (.int i7), .val (.int i8), .val (.ref b7), .unset] [(.ref b7)])) _
  refine XS.iconst X9.here hx rfl (hb hby at_101) ?_
  show Steps p.tables e below (T9.setTop (mkF m 102 #[.val (.int i0), .val (.int i1), .val (.int i2), .val (.int i3), .val (.int i4), .val (.int i5), .val (.int (3 : Int32)), .val (.int i7), .val (.int i8), .val (.ref b7), .unset] [(.int (2 : Int32)), (.ref b7)])) _
  refine XS.iloadN X9.here hx rfl (hb hby at_102) rfl ?_
  show Steps p.tables e below (T9.setTop (mkF m 103 #[.val (.int i0), .val (.int i1), .val (.int i2), .val (.int i3), .val (.int i4), .val (.int i5), .val (.int (3 : Int32)), .val (.int i7), .val (.int i8), .val (.ref b7), .unset] [(.int i2), (.int (2 : Int32)), (.ref b7)])) _
  refine st10 _ ?_
  show Steps p.tables e below (T10.setTop (mkF m 104 #[.val (.int i0), .val (.int i1), .val (.int i2), .val (.int i3), .val (.int i4), .val (.int i5), .val (.int (3 : Int32)), .val (.int i7), .val (.int i8), .val (.ref b7), .unset] [])) _
  refine XS.iload X10.here hx rfl (hb hby at_104) rfl ?_
  show Steps p.tables e below (T10.setTop (mkF m 106 #[.val (.int i0), .val (.int i1), .val (.int i2), .val (.int i3), .val (.int i4), .val (.int i5), .val (.int (3 : Int32)), .val (.int i7), .val (.int i8), .val (.ref b7), .unset] [(.int (3 : Int32))])) _
  refine XS.iconst X10.here hx rfl (hb hby at_106) ?_
  show Steps p.tables e below (T10.setTop (mkF m 107 #[.val (.int i0), .val (.int i1), .val (.int i2), .val (.int i3), .val (.int i4), .val (.int i5), .val (.int (3 : Int32)), .val (.int i7), .val (.int i8), .val (.ref b7), .unset] [(.int (3 : Int32)), (.int (3 : Int32))])) _
  refine XS.icmpYes X10.here hx rfl (pc0 := 107) (pc' := 115) rfl (hb hby at_107) rfl (flt (by decide : ¬ ((3 : Int32) < (3 : Int32)))).2.2.2 (by decide) (by decide) ?_
  exact kt
set_option maxRecDepth 65536 in
set_option maxHeartbeats 40000000 in
theorem tn0_b4 {p : Program} {l : Launch} {e : Env} {s : State} {m : MethodId} {args : Array Value} {below : List Frame} {meth : Method} {c : Code} {T0 : State} {locs : List Loc} {Z : State} {a0 : Array Value} {h0 : Heap} (i0 i1 i2 i3 i4 i5 i7 i8 : Int32) (n0 : Nat)
    (X0 : Stand p l e room_1 s m args below meth c T0 locs 0 0) (hx : p.tables.exec = Jvm.exec) (hZ : Z.Warmed39 s.vm) (hw : ∀ d ∈ tables_1, d.before a0 Z = true) (hby : c.code = code) (hml : c.maxLocals = 11) (hown : s.vm.findClass "com/example/covercull/covercull/InteractionsContainsPinLaw" = some m.cls) (e0 : T0.heap = h0) (N0 : Fr n0 locs) (Z0 : n0 ≤ h0.size) :
    ∃ (T' : State) (h' : Heap) (b : Addr) (k : ClassId) (L : List Loc), Stand p l e room_1 s m args below meth c T' L 1 4 ∧ T'.heap = h' ∧ Fr n0 L ∧ n0 ≤ h'.size ∧ Arv Z h' b k .int (4 : Int32) [.int i0, .int i1, .int i2, .int i3] (.int (0 : Int32)) ∧
      ∀ target, Steps p.tables e below (T'.setTop (mkF m 115 #[.val (.int i0), .val (.int i1), .val (.int i2), .val (.int i3), .val (.int i4), .val (.int i5), .val (.int (4 : Int32)), .val (.int i7), .val (.int i8), .val (.ref b), .unset] [])) target → Steps p.tables e below (T0.setTop (mkF m 66 #[.val (.int i0), .val (.int i1), .val (.int i2), .val (.int i3), .val (.int i4), .val (.int i5), .val (.int (4 : Int32)), .val (.int i7), .val (.int i8), .unset, .unset] [])) target := by
  obtain ⟨T7, h7, k7, X7, e7, E7, A7, st7⟩ := newP X0 hx hZ (hw _ (List.mem_of_getElem? (i := 0) rfl)) e0 (g := (mkF m 68 #[.val (.int i0), .val (.int i1), .val (.int i2), .val (.int i3), .val (.int i4), .val (.int i5), .val (.int (4 : Int32)), .val (.int i7), .val (.int i8), .unset, .unset] [(.int (4 : Int32))])) rfl (hb hby at_68) rfl (by decide) (cap := 4) (by decide) (by decide) (by decide) (by decide)
  obtain ⟨b7, g7⟩ : ∃ z, z = h0.size := ⟨_, rfl⟩
  rw [← g7] at A7 st7
  have V_b7 : Arv Z h7 b7 k7 .int (4 : Int32) (List.replicate 4 (.int (0 : Int32))) (.int (0 : Int32)) := (Arv.new A7 (by decide)).pad (pad_rep [] _ 4)
  have g_b7 : n0 ≤ b7 := Nat.le_trans Z0 (Nat.le_of_eq g7.symm)
  have sz_b7 : h0.size ≤ b7 := (Nat.le_trans (Keep.refl h0 []).1 (Nat.le_of_eq g7.symm))
  have K7 : Keep h0 h7 [] := (Keep.refl h0 []).ext E7
  obtain ⟨cl_b7_81, Ar_b7, q_b7, S_b7, N_b7, H_b7, G_b7⟩ := V_b7
  have hin81 : ¬ ((0 : Int32) < 0 ∨ cl_b7_81.slots.size ≤ ((0 : Int32)).toNatClampNeg) := inb_of S_b7 ⟨by decide, by decide⟩
  obtain ⟨T8, h8, X8, e8, W8, st8⟩ := stI X7 hx hZ e7 Ar_b7 (j := (0 : Int32)) hin81 (g := (mkF m 81 #[.val (.int i0), .val (.int i1), .val (.int i2), .val (.int i3), .val (.int i4), .val (.int i5), .val (.int (4 : Int32)), .val (.int i7), .val (.int i8), .val (.ref b7), .unset] [(.int i0), (.int (0 : Int32)), (.ref b7)])) rfl rfl (hb hby at_81)
  have V_b7_8 := Arv.set Ar_b7 q_b7 S_b7 N_b7 H_b7 G_b7 rfl W8 0 rfl (Nat.le_of_ble_eq_true rfl)
  have K8 : Keep h0 h8 [] := K7.wr W8 (Or.inr sz_b7)
  have N8 := Fr.snoc X8 N0 g_b7
  obtain ⟨cl_b7_92, Ar_b7, q_b7, S_b7, N_b7, H_b7, G_b7⟩ := V_b7_8
  have hin92 : ¬ ((1 : Int32) < 0 ∨ cl_b7_92.slots.size ≤ ((1 : Int32)).toNatClampNeg) := inb_of S_b7 ⟨by decide, by decide⟩
  obtain ⟨T9, h9, X9, e9, W9, st9⟩ := stI X8 hx hZ e8 Ar_b7 (j := (1 : Int32)) hin92 (g := (mkF m 92 #[.val (.int i0), .val (.int i1), .val (.int i2), .val (.int i3), .val (.int i4), .val (.int i5), .val (.int (4 : Int32)), .val (.int i7), .val (.int i8), .val (.ref b7), .unset] [(.int i1), (.int (1 : Int32)), (.ref b7)])) rfl rfl (hb hby at_92)
  have V_b7_9 := Arv.set Ar_b7 q_b7 S_b7 N_b7 H_b7 G_b7 rfl W9 1 rfl (Nat.le_of_ble_eq_true rfl)
  have K9 : Keep h0 h9 [] := K8.wr W9 (Or.inr sz_b7)
  have N9 := Fr.snoc X9 N8 g_b7
  obtain ⟨cl_b7_103, Ar_b7, q_b7, S_b7, N_b7, H_b7, G_b7⟩ := V_b7_9
  have hin103 : ¬ ((2 : Int32) < 0 ∨ cl_b7_103.slots.size ≤ ((2 : Int32)).toNatClampNeg) := inb_of S_b7 ⟨by decide, by decide⟩
  obtain ⟨T10, h10, X10, e10, W10, st10⟩ := stI X9 hx hZ e9 Ar_b7 (j := (2 : Int32)) hin103 (g := (mkF m 103 #[.val (.int i0), .val (.int i1), .val (.int i2), .val (.int i3), .val (.int i4), .val (.int i5), .val (.int (4 : Int32)), .val (.int i7), .val (.int i8), .val (.ref b7), .unset] [(.int i2), (.int (2 : Int32)), (.ref b7)])) rfl rfl (hb hby at_103)
  have V_b7_10 := Arv.set Ar_b7 q_b7 S_b7 N_b7 H_b7 G_b7 rfl W10 2 rfl (Nat.le_of_ble_eq_true rfl)
  have K10 : Keep h0 h10 [] := K9.wr W10 (Or.inr sz_b7)
  have N10 := Fr.snoc X10 N9 g_b7
  obtain ⟨cl_b7_114, Ar_b7, q_b7, S_b7, N_b7, H_b7, G_b7⟩ := V_b7_10
  have hin114 : ¬ ((3 : Int32) < 0 ∨ cl_b7_114.slots.size ≤ ((3 : Int32)).toNatClampNeg) := inb_of S_b7 ⟨by decide, by decide⟩
  obtain ⟨T11, h11, X11, e11, W11, st11⟩ := stI X10 hx hZ e10 Ar_b7 (j := (3 : Int32)) hin114 (g := (mkF m 114 #[.val (.int i0), .val (.int i1), .val (.int i2), .val (.int i3), .val (.int i4), .val (.int i5), .val (.int (4 : Int32)), .val (.int i7), .val (.int i8), .val (.ref b7), .unset] [(.int i3), (.int (3 : Int32)), (.ref b7)])) rfl rfl (hb hby at_114)
  have V_b7_11 := Arv.set Ar_b7 q_b7 S_b7 N_b7 H_b7 G_b7 rfl W11 3 rfl (Nat.le_of_ble_eq_true rfl)
  have K11 : Keep h0 h11 [] := K10.wr W11 (Or.inr sz_b7)
  have N11 := Fr.snoc X11 N10 g_b7
  refine ⟨T11, _, b7, k7, _, X11, e11, N11, Nat.le_trans Z0 K11.1, V_b7_11, fun target kt => ?_⟩
  show Steps p.tables e below (T0.setTop (mkF m 66 #[.val (.int i0), .val (.int i1), .val (.int i2), .val (.int i3), .val (.int i4), .val (.int i5), .val (.int (4 : Int32)), .val (.int i7), .val (.int i8), .unset, .unset] [])) _
  refine XS.iload X0.here hx rfl (hb hby at_66) rfl ?_
  show Steps p.tables e below (T0.setTop (mkF m 68 #[.val (.int i0), .val (.int i1), .val (.int i2), .val (.int i3), .val (.int i4), .val (.int i5), .val (.int (4 : Int32)), .val (.int i7), .val (.int i8), .unset, .unset] [(.int (4 : Int32))])) _
  refine st7 _ ?_
  show Steps p.tables e below (T7.setTop (mkF m 70 #[.val (.int i0), .val (.int i1), .val (.int i2), .val (.int i3), .val (.int i4), .val (.int i5), .val (.int (4 : Int32)), .val (.int i7), .val (.int i8), .unset, .unset] [(.ref b7)])) _
  refine XS.astore X7.here hx rfl (hb hby at_70) rfl rfl (l' := #[.val (.int i0), .val (.int i1), .val (.int i2), .val (.int i3), .val (.int i4), .val (.int i5), .val (.int (4 : Int32)), .val (.int i7), .val (.int i8), .val (.ref b7), .unset]) rfl ?_
  show Steps p.tables e below (T7.setTop (mkF m 72 #[.val (.int i0), .val (.int i1), .val (.int i2), .val (.int i3), .val (.int i4), .val (.int i5), .val (.int (4 : Int32)), .val (.int i7), .val (.int i8), .val (.ref b7), .unset] [])) _
  refine XS.iload X7.here hx rfl (hb hby at_72) rfl ?_
  show Steps p.tables e below (T7.setTop (mkF m 74 #[.val (.int i0), .val (.int i1), .val (.int i2), .val (.int i3), .val (.int i4), .val (.int i5), .val (.int (4 : Int32)), .val (.int i7), .val (.int i8), .val (.ref b7), .unset] [(.int (4 : Int32))])) _
  refine XS.ifNo X7.here hx rfl (hb hby at_74) rfl ((if0 _ _).trans (tlt (by decide : (0 : Int32) < (4 : Int32))).2.2.2) ?_
  show Steps p.tables e below (T7.setTop (mkF m 77 #[.val (.int i0), .val (.int i1), .val (.int i2), .val (.int i3), .val (.int i4), .val (.int i5), .val (.int (4 : Int32)), .val (.int i7), .val (.int i8), .val (.ref b7), .unset] [])) _
  refine XS.aload X7.here hx rfl (hb hby at_77) rfl rfl ?_
  show Steps p.tables e below (T7.setTop (mkF m 79 #[.val (.int i0), .val (.int i1), .val (.int i2), .val (.int i3), .val (.int i4), .val (.int i5), .val (.int (4 : Int32)), .val (.int i7), .val (.int i8), .val (.ref b7), .unset] [(.ref b7)])) _
  refine XS.iconst X7.here hx rfl (hb hby at_79) ?_
  show Steps p.tables e below (T7.setTop (mkF m 80 #[.val (.int i0), .val (.int i1), .val (.int i2), .val (.int i3), .val (.int i4), .val (.int i5), .val (.int (4 : Int32)), .val (.int i7), .val (.int i8), .val (.ref b7), .unset] [(.int (0 : Int32)), (.ref b7)])) _
  refine XS.iloadN X7.here hx rfl (hb hby at_80) rfl ?_
  show Steps p.tables e below (T7.setTop (mkF m 81 #[.val (.int i0), .val (.int i1), .val (.int i2), .val (.int i3), .val (.int i4), .val (.int i5), .val (.int (4 : Int32)), .val (.int i7), .val (.int i8), .val (.ref b7), .unset] [(.int i0), (.int (0 : Int32)), (.ref b7)])) _
  refine st8 _ ?_
  show Steps p.tables e below (T8.setTop (mkF m 82 #[.val (.int i0), .val (.int i1), .val (.int i2), .val (.int i3), .val (.int i4), .val (.int i5), .val (.int (4 : Int32)), .val (.int i7), .val (.int i8), .val (.ref b7), .unset] [])) _
  refine XS.iload X8.here hx rfl (hb hby at_82) rfl ?_
  show Steps p.tables e below (T8.setTop (mkF m 84 #[.val (.int i0), .val (.int i1), .val (.int i2), .val (.int i3), .val (.int i4), .val (.int i5), .val (.int (4 : Int32)), .val (.int i7), .val (.int i8), .val (.ref b7), .unset] [(.int (4 : Int32))])) _
  refine XS.iconst X8.here hx rfl (hb hby at_84) ?_
  show Steps p.tables e below (T8.setTop (mkF m 85 #[.val (.int i0), .val (.int i1), .val (.int i2), .val (.int i3), .val (.int i4), .val (.int i5), .val (.int (4 : Int32)), .val (.int i7), .val (.int i8), .val (.ref b7), .unset] [(.int (1 : Int32)), (.int (4 : Int32))])) _
  refine XS.icmpNo X8.here hx rfl (hb hby at_85) rfl (tlt (by decide : (1 : Int32) < (4 : Int32))).2.2.2 ?_
  show Steps p.tables e below (T8.setTop (mkF m 88 #[.val (.int i0), .val (.int i1), .val (.int i2), .val (.int i3), .val (.int i4), .val (.int i5), .val (.int (4 : Int32)), .val (.int i7), .val (.int i8), .val (.ref b7), .unset] [])) _
  refine XS.aload X8.here hx rfl (hb hby at_88) rfl rfl ?_
  show Steps p.tables e below (T8.setTop (mkF m 90 #[.val (.int i0), .val (.int i1), .val (.int i2), .val (.int i3), .val (.int i4), .val (.int i5), .val (.int (4 : Int32)), .val (.int i7), .val (.int i8), .val (.ref b7), .unset] [(.ref b7)])) _
  refine XS.iconst X8.here hx rfl (hb hby at_90) ?_
  show Steps p.tables e below (T8.setTop (mkF m 91 #[.val (.int i0), .val (.int i1), .val (.int i2), .val (.int i3), .val (.int i4), .val (.int i5), .val (.int (4 : Int32)), .val (.int i7), .val (.int i8), .val (.ref b7), .unset] [(.int (1 : Int32)), (.ref b7)])) _
  refine XS.iloadN X8.here hx rfl (hb hby at_91) rfl ?_
  show Steps p.tables e below (T8.setTop (mkF m 92 #[.val (.int i0), .val (.int i1), .val (.int i2), .val (.int i3), .val (.int i4), .val (.int i5), .val (.int (4 : Int32)), .val (.int i7), .val (.int i8), .val (.ref b7), .unset] [(.int i1), (.int (1 : Int32)), (.ref b7)])) _
  refine st9 _ ?_
  show Steps p.tables e below (T9.setTop (mkF m 93 #[.val (.int i0), .val (.int i1), .val (.int i2), .val (.int i3), .val (.int i4), .val (.int i5), .val (.int (4 : Int32)), .val (.int i7), .val (.int i8), .val (.ref b7), .unset] [])) _
  refine XS.iload X9.here hx rfl (hb hby at_93) rfl ?_
  show Steps p.tables e below (T9.setTop (mkF m 95 #[.val (.int i0), .val (.int i1), .val (.int i2), .val (.int i3), .val (.int i4), .val (.int i5), .val (.int (4 : Int32)), .val (.int i7), .val (.int i8), .val (.ref b7), .unset] [(.int (4 : Int32))])) _
  refine XS.iconst X9.here hx rfl (hb hby at_95) ?_
  show Steps p.tables e below (T9.setTop (mkF m 96 #[.val (.int i0), .val (.int i1), .val (.int i2), .val (.int i3), .val (.int i4), .val (.int i5), .val (.int (4 : Int32)), .val (.int i7), .val (.int i8), .val (.ref b7), .unset] [(.int (2 : Int32)), (.int (4 : Int32))])) _
  refine XS.icmpNo X9.here hx rfl (hb hby at_96) rfl (tlt (by decide : (2 : Int32) < (4 : Int32))).2.2.2 ?_
  show Steps p.tables e below (T9.setTop (mkF m 99 #[.val (.int i0), .val (.int i1), .val (.int i2), .val (.int i3), .val (.int i4), .val (.int i5), .val (.int (4 : Int32)), .val (.int i7), .val (.int i8), .val (.ref b7), .unset] [])) _
  refine XS.aload X9.here hx rfl (hb hby at_99) rfl rfl ?_
  show Steps p.tables e below (T9.setTop (mkF m 101 #[.val (.int i0), .val (.int i1), .val (.int i2), .val (.int i3), .val (.int i4), .val (.int i5), .val (.int (4 : Int32)), .val (.int i7), .val (.int i8), .val (.ref b7), .unset] [(.ref b7)])) _
  refine XS.iconst X9.here hx rfl (hb hby at_101) ?_
  show Steps p.tables e below (T9.setTop (mkF m 102 #[.val (.int i0), .val (.int i1), .val (.int i2), .val (.int i3), .val (.int i4), .val (.int i5), .val (.int (4 : Int32)), .val (.int i7), .val (.int i8), .val (.ref b7), .unset] [(.int (2 : Int32)), (.ref b7)])) _
  refine XS.iloadN X9.here hx rfl (hb hby at_102) rfl ?_
  show Steps p.tables e below (T9.setTop (mkF m 103 #[.val (.int i0), .val (.int i1), .val (.int i2), .val (.int i3), .val (.int i4), .val (.int i5), .val (.int (4 : Int32)), .val (.int i7), .val (.int i8), .val (.ref b7), .unset] [(.int i2), (.int (2 : Int32)), (.ref b7)])) _
  refine st10 _ ?_
  show Steps p.tables e below (T10.setTop (mkF m 104 #[.val (.int i0), .val (.int i1), .val (.int i2), .val (.int i3), .val (.int i4), .val (.int i5), .val (.int (4 : Int32)), .val (.int i7), .val (.int i8), .val (.ref b7), .unset] [])) _
  refine XS.iload X10.here hx rfl (hb hby at_104) rfl ?_
  show Steps p.tables e below (T10.setTop (mkF m 106 #[.val (.int i0), .val (.int i1), .val (.int i2), .val (.int i3), .val (.int i4), .val (.int i5), .val (.int (4 : Int32)), .val (.int i7), .val (.int i8), .val (.ref b7), .unset] [(.int (4 : Int32))])) _
  refine XS.iconst X10.here hx rfl (hb hby at_106) ?_
  show Steps p.tables e below (T10.setTop (mkF m 107 #[.val (.int i0), .val (.int i1), .val (.int i2), .val (.int i3), .val (.int i4), .val (.int i5), .val (.int (4 : Int32)), .val (.int i7), .val (.int i8), .val (.ref b7), .unset] [(.int (3 : Int32)), (.int (4 : Int32))])) _
  refine XS.icmpNo X10.here hx rfl (hb hby at_107) rfl (tlt (by decide : (3 : Int32) < (4 : Int32))).2.2.2 ?_
  show Steps p.tables e below (T10.setTop (mkF m 110 #[.val (.int i0), .val (.int i1), .val (.int i2), .val (.int i3), .val (.int i4), .val (.int i5), .val (.int (4 : Int32)), .val (.int i7), .val (.int i8), .val (.ref b7), .unset] [])) _
  refine XS.aload X10.here hx rfl (hb hby at_110) rfl rfl ?_
  show Steps p.tables e below (T10.setTop (mkF m 112 #[.val (.int i0), .val (.int i1), .val (.int i2), .val (.int i3), .val (.int i4), .val (.int i5), .val (.int (4 : Int32)), .val (.int i7), .val (.int i8), .val (.ref b7), .unset] [(.ref b7)])) _
  refine XS.iconst X10.here hx rfl (hb hby at_112) ?_
  show Steps p.tables e below (T10.setTop (mkF m 113 #[.val (.int i0), .val (.int i1), .val (.int i2), .val (.int i3), .val (.int i4), .val (.int i5), .val (.int (4 : Int32)), .val (.int i7), .val (.int i8), .val (.ref b7), .unset] [(.int (3 : Int32)), (.ref b7)])) _
  refine XS.iloadN X10.here hx rfl (hb hby at_113) rfl ?_
  show Steps p.tables e below (T10.setTop (mkF m 114 #[.val (.int i0), .val (.int i1), .val (.int i2), .val (.int i3), .val (.int i4), .val (.int i5), .val (.int (4 : Int32)), .val (.int i7), .val (.int i8), .val (.ref b7), .unset] [(.int i3), (.int (3 : Int32)), (.ref b7)])) _
  refine st11 _ ?_
  exact kt
theorem tn0_a {p : Program} {l : Launch} {e : Env} {s : State} {m : MethodId} {args : Array Value} {below : List Frame} {meth : Method} {c : Code} {T0 : State} {locs : List Loc} {Z : State} {a0 : Array Value} {h0 : Heap} (i0 i1 i2 i3 i4 i5 i6 i7 : Int32)
    (X0 : Stand p l e room_1 s m args below meth c T0 locs 0 0) (hx : p.tables.exec = Jvm.exec) (hZ : Z.Warmed39 s.vm) (hw : ∀ d ∈ tables_1, d.before a0 Z = true) (hby : c.code = code) (hml : c.maxLocals = 11) (hown : s.vm.findClass "com/example/covercull/covercull/InteractionsContainsPinLaw" = some m.cls) (e0 : T0.heap = h0) :
    ∃ (i8 : Int32) (T' : State), Stand p l e room_1 s m args below meth c T' locs 0 0 ∧ T'.heap = h0 ∧
      ∀ target, Steps p.tables e below (T'.setTop (mkF m 66 #[.val (.int i0), .val (.int i1), .val (.int i2), .val (.int i3), .val (.int i4), .val (.int i5), .val (.int i6), .val (.int i7), .val (.int i8), .unset, .unset] [])) target → Steps p.tables e below (T0.setTop (mkF m 18 #[.val (.int i0), .val (.int i1), .val (.int i2), .val (.int i3), .val (.int i4), .val (.int i5), .val (.int i6), .val (.int i7), .unset, .unset, .unset] [])) target := by
  by_cases hc24 : i7 = (0 : Int32)
  · obtain ⟨T1, X1, e1, st1⟩ := tn0_a_f (i0) (.val (.int i1)) (.val (.int i2)) (.val (.int i3)) (i4) (.val (.int i5)) (.val (.int i6)) (i7) (.unset) (.unset) (.unset) X0 hx hZ hw hby hml hown e0 One.u hc24
    exact ⟨_, T1, X1, e1, st1⟩
  · by_cases hc36 : i7 = (1 : Int32)
    · obtain ⟨T1, X1, e1, st1⟩ := tn0_a_tf (.val (.int i0)) (i1) (.val (.int i2)) (.val (.int i3)) (i4) (.val (.int i5)) (.val (.int i6)) (i7) (.unset) (.unset) (.unset) X0 hx hZ hw hby hml hown e0 One.u hc24 hc36
      exact ⟨_, T1, X1, e1, st1⟩
    · by_cases hc48 : i7 = (2 : Int32)
      · obtain ⟨T1, X1, e1, st1⟩ := tn0_a_ttf (.val (.int i0)) (.val (.int i1)) (i2) (.val (.int i3)) (i4) (.val (.int i5)) (.val (.int i6)) (i7) (.unset) (.unset) (.unset) X0 hx hZ hw hby hml hown e0 One.u hc24 hc36 hc48
        exact ⟨_, T1, X1, e1, st1⟩
      · by_cases hc60 : i7 = (3 : Int32)
        · obtain ⟨T1, X1, e1, st1⟩ := tn0_a_tttf (.val (.int i0)) (.val (.int i1)) (.val (.int i2)) (i3) (i4) (.val (.int i5)) (.val (.int i6)) (i7) (.unset) (.unset) (.unset) X0 hx hZ hw hby hml hown e0 One.u hc24 hc36 hc48 hc60
          exact ⟨_, T1, X1, e1, st1⟩
        · obtain ⟨T1, X1, e1, st1⟩ := tn0_a_tttt (.val (.int i0)) (.val (.int i1)) (.val (.int i2)) (.val (.int i3)) (i4) (.val (.int i5)) (.val (.int i6)) (i7) (.unset) (.unset) (.unset) X0 hx hZ hw hby hml hown e0 One.u hc24 hc36 hc48 hc60
          exact ⟨_, T1, X1, e1, st1⟩
theorem tn0_c0 {p : Program} {l : Launch} {e : Env} {s : State} {m : MethodId} {args : Array Value} {below : List Frame} {meth : Method} {c : Code} {T0 : State} {locs : List Loc} {cells slots : Nat} {Z : State} {a0 : Array Value} {h0 : Heap} (i0 i1 i2 i3 i4 i5 i7 i8 : Int32) (b : Addr)
    (X0 : Stand p l e room_1 s m args below meth c T0 locs cells slots) (hx : p.tables.exec = Jvm.exec) (hZ : Z.Warmed39 s.vm) (hw : ∀ d ∈ tables_1, d.before a0 Z = true) (hby : c.code = code) (hml : c.maxLocals = 11) (hown : s.vm.findClass "com/example/covercull/covercull/InteractionsContainsPinLaw" = some m.cls) (e0 : T0.heap = h0) :
    ∃ (w : Int32) (T' : State), Stand p l e room_1 s m args below meth c T' locs cells slots ∧ T'.heap = h0 ∧ ((w = 1 ∧ ∃ j, j < 0 ∧ own_f i0 i1 i2 i3 j = i8) ∨ (w = 0 ∧ ∀ j, j < 0 → ¬ own_f i0 i1 i2 i3 j = i8)) ∧
      ∀ target, Steps p.tables e below (T'.setTop (mkF m 169 #[.val (.int i0), .val (.int i1), .val (.int i2), .val (.int i3), .val (.int i4), .val (.int i5), .val (.int (0 : Int32)), .val (.int i7), .val (.int i8), .val (.ref b), .val (.int w)] [])) target → Steps p.tables e below (T0.setTop (mkF m 115 #[.val (.int i0), .val (.int i1), .val (.int i2), .val (.int i3), .val (.int i4), .val (.int i5), .val (.int (0 : Int32)), .val (.int i7), .val (.int i8), .val (.ref b), .unset] [])) target := by
  obtain ⟨T1, X1, e1, st1⟩ := tn0_c_tttt (.val (.int i0)) (.val (.int i1)) (.val (.int i2)) (.val (.int i3)) (.val (.int i4)) (.val (.int i5)) ((0 : Int32)) (.val (.int i7)) (.val (.int i8)) (.val (.ref b)) (.unset) X0 hx hZ hw hby hml hown e0 One.u (by decide) (by decide) (by decide) (by decide)
  refine ⟨_, T1, X1, e1, Or.inr ⟨rfl, ?_⟩, st1⟩
  exact fun j hj => absurd hj (Nat.not_lt_zero j)
theorem tn0_c1 {p : Program} {l : Launch} {e : Env} {s : State} {m : MethodId} {args : Array Value} {below : List Frame} {meth : Method} {c : Code} {T0 : State} {locs : List Loc} {cells slots : Nat} {Z : State} {a0 : Array Value} {h0 : Heap} (i0 i1 i2 i3 i4 i5 i7 i8 : Int32) (b : Addr)
    (X0 : Stand p l e room_1 s m args below meth c T0 locs cells slots) (hx : p.tables.exec = Jvm.exec) (hZ : Z.Warmed39 s.vm) (hw : ∀ d ∈ tables_1, d.before a0 Z = true) (hby : c.code = code) (hml : c.maxLocals = 11) (hown : s.vm.findClass "com/example/covercull/covercull/InteractionsContainsPinLaw" = some m.cls) (e0 : T0.heap = h0) :
    ∃ (w : Int32) (T' : State), Stand p l e room_1 s m args below meth c T' locs cells slots ∧ T'.heap = h0 ∧ ((w = 1 ∧ ∃ j, j < 1 ∧ own_f i0 i1 i2 i3 j = i8) ∨ (w = 0 ∧ ∀ j, j < 1 → ¬ own_f i0 i1 i2 i3 j = i8)) ∧
      ∀ target, Steps p.tables e below (T'.setTop (mkF m 169 #[.val (.int i0), .val (.int i1), .val (.int i2), .val (.int i3), .val (.int i4), .val (.int i5), .val (.int (1 : Int32)), .val (.int i7), .val (.int i8), .val (.ref b), .val (.int w)] [])) target → Steps p.tables e below (T0.setTop (mkF m 115 #[.val (.int i0), .val (.int i1), .val (.int i2), .val (.int i3), .val (.int i4), .val (.int i5), .val (.int (1 : Int32)), .val (.int i7), .val (.int i8), .val (.ref b), .unset] [])) target := by
  by_cases hc123 : i0 = i8
  · obtain ⟨T1, X1, e1, st1⟩ := tn0_c_ft (i0) (.val (.int i1)) (.val (.int i2)) (.val (.int i3)) (.val (.int i4)) (.val (.int i5)) ((1 : Int32)) (.val (.int i7)) (i8) (.val (.ref b)) (.unset) X0 hx hZ hw hby hml hown e0 One.u (by decide) hc123
    exact ⟨_, T1, X1, e1, Or.inl ⟨rfl, 0, by decide, hc123⟩, st1⟩
  · obtain ⟨T1, X1, e1, st1⟩ := tn0_c_ffttt (i0) (.val (.int i1)) (.val (.int i2)) (.val (.int i3)) (.val (.int i4)) (.val (.int i5)) ((1 : Int32)) (.val (.int i7)) (i8) (.val (.ref b)) (.unset) X0 hx hZ hw hby hml hown e0 One.u (by decide) hc123 (by decide) (by decide) (by decide)
    refine ⟨_, T1, X1, e1, Or.inr ⟨rfl, ?_⟩, st1⟩
    exact fun j hj => by
        match j, hj with
        | 0, _ => exact hc123
theorem tn0_c2 {p : Program} {l : Launch} {e : Env} {s : State} {m : MethodId} {args : Array Value} {below : List Frame} {meth : Method} {c : Code} {T0 : State} {locs : List Loc} {cells slots : Nat} {Z : State} {a0 : Array Value} {h0 : Heap} (i0 i1 i2 i3 i4 i5 i7 i8 : Int32) (b : Addr)
    (X0 : Stand p l e room_1 s m args below meth c T0 locs cells slots) (hx : p.tables.exec = Jvm.exec) (hZ : Z.Warmed39 s.vm) (hw : ∀ d ∈ tables_1, d.before a0 Z = true) (hby : c.code = code) (hml : c.maxLocals = 11) (hown : s.vm.findClass "com/example/covercull/covercull/InteractionsContainsPinLaw" = some m.cls) (e0 : T0.heap = h0) :
    ∃ (w : Int32) (T' : State), Stand p l e room_1 s m args below meth c T' locs cells slots ∧ T'.heap = h0 ∧ ((w = 1 ∧ ∃ j, j < 2 ∧ own_f i0 i1 i2 i3 j = i8) ∨ (w = 0 ∧ ∀ j, j < 2 → ¬ own_f i0 i1 i2 i3 j = i8)) ∧
      ∀ target, Steps p.tables e below (T'.setTop (mkF m 169 #[.val (.int i0), .val (.int i1), .val (.int i2), .val (.int i3), .val (.int i4), .val (.int i5), .val (.int (2 : Int32)), .val (.int i7), .val (.int i8), .val (.ref b), .val (.int w)] [])) target → Steps p.tables e below (T0.setTop (mkF m 115 #[.val (.int i0), .val (.int i1), .val (.int i2), .val (.int i3), .val (.int i4), .val (.int i5), .val (.int (2 : Int32)), .val (.int i7), .val (.int i8), .val (.ref b), .unset] [])) target := by
  by_cases hc123 : i0 = i8
  · obtain ⟨T1, X1, e1, st1⟩ := tn0_c_ft (i0) (.val (.int i1)) (.val (.int i2)) (.val (.int i3)) (.val (.int i4)) (.val (.int i5)) ((2 : Int32)) (.val (.int i7)) (i8) (.val (.ref b)) (.unset) X0 hx hZ hw hby hml hown e0 One.u (by decide) hc123
    exact ⟨_, T1, X1, e1, Or.inl ⟨rfl, 0, by decide, hc123⟩, st1⟩
  · by_cases hc135 : i1 = i8
    · obtain ⟨T1, X1, e1, st1⟩ := tn0_c_ffft (i0) (i1) (.val (.int i2)) (.val (.int i3)) (.val (.int i4)) (.val (.int i5)) ((2 : Int32)) (.val (.int i7)) (i8) (.val (.ref b)) (.unset) X0 hx hZ hw hby hml hown e0 One.u (by decide) hc123 (by decide) hc135
      exact ⟨_, T1, X1, e1, Or.inl ⟨rfl, 1, by decide, hc135⟩, st1⟩
    · obtain ⟨T1, X1, e1, st1⟩ := tn0_c_fffftt (i0) (i1) (.val (.int i2)) (.val (.int i3)) (.val (.int i4)) (.val (.int i5)) ((2 : Int32)) (.val (.int i7)) (i8) (.val (.ref b)) (.unset) X0 hx hZ hw hby hml hown e0 One.u (by decide) hc123 (by decide) hc135 (by decide) (by decide)
      refine ⟨_, T1, X1, e1, Or.inr ⟨rfl, ?_⟩, st1⟩
      exact fun j hj => by
          match j, hj with
          | 0, _ => exact hc123
          | 1, _ => exact hc135
theorem tn0_c3 {p : Program} {l : Launch} {e : Env} {s : State} {m : MethodId} {args : Array Value} {below : List Frame} {meth : Method} {c : Code} {T0 : State} {locs : List Loc} {cells slots : Nat} {Z : State} {a0 : Array Value} {h0 : Heap} (i0 i1 i2 i3 i4 i5 i7 i8 : Int32) (b : Addr)
    (X0 : Stand p l e room_1 s m args below meth c T0 locs cells slots) (hx : p.tables.exec = Jvm.exec) (hZ : Z.Warmed39 s.vm) (hw : ∀ d ∈ tables_1, d.before a0 Z = true) (hby : c.code = code) (hml : c.maxLocals = 11) (hown : s.vm.findClass "com/example/covercull/covercull/InteractionsContainsPinLaw" = some m.cls) (e0 : T0.heap = h0) :
    ∃ (w : Int32) (T' : State), Stand p l e room_1 s m args below meth c T' locs cells slots ∧ T'.heap = h0 ∧ ((w = 1 ∧ ∃ j, j < 3 ∧ own_f i0 i1 i2 i3 j = i8) ∨ (w = 0 ∧ ∀ j, j < 3 → ¬ own_f i0 i1 i2 i3 j = i8)) ∧
      ∀ target, Steps p.tables e below (T'.setTop (mkF m 169 #[.val (.int i0), .val (.int i1), .val (.int i2), .val (.int i3), .val (.int i4), .val (.int i5), .val (.int (3 : Int32)), .val (.int i7), .val (.int i8), .val (.ref b), .val (.int w)] [])) target → Steps p.tables e below (T0.setTop (mkF m 115 #[.val (.int i0), .val (.int i1), .val (.int i2), .val (.int i3), .val (.int i4), .val (.int i5), .val (.int (3 : Int32)), .val (.int i7), .val (.int i8), .val (.ref b), .unset] [])) target := by
  by_cases hc123 : i0 = i8
  · obtain ⟨T1, X1, e1, st1⟩ := tn0_c_ft (i0) (.val (.int i1)) (.val (.int i2)) (.val (.int i3)) (.val (.int i4)) (.val (.int i5)) ((3 : Int32)) (.val (.int i7)) (i8) (.val (.ref b)) (.unset) X0 hx hZ hw hby hml hown e0 One.u (by decide) hc123
    exact ⟨_, T1, X1, e1, Or.inl ⟨rfl, 0, by decide, hc123⟩, st1⟩
  · by_cases hc135 : i1 = i8
    · obtain ⟨T1, X1, e1, st1⟩ := tn0_c_ffft (i0) (i1) (.val (.int i2)) (.val (.int i3)) (.val (.int i4)) (.val (.int i5)) ((3 : Int32)) (.val (.int i7)) (i8) (.val (.ref b)) (.unset) X0 hx hZ hw hby hml hown e0 One.u (by decide) hc123 (by decide) hc135
      exact ⟨_, T1, X1, e1, Or.inl ⟨rfl, 1, by decide, hc135⟩, st1⟩
    · by_cases hc147 : i2 = i8
      · obtain ⟨T1, X1, e1, st1⟩ := tn0_c_ffffft (i0) (i1) (i2) (.val (.int i3)) (.val (.int i4)) (.val (.int i5)) ((3 : Int32)) (.val (.int i7)) (i8) (.val (.ref b)) (.unset) X0 hx hZ hw hby hml hown e0 One.u (by decide) hc123 (by decide) hc135 (by decide) hc147
        exact ⟨_, T1, X1, e1, Or.inl ⟨rfl, 2, by decide, hc147⟩, st1⟩
      · obtain ⟨T1, X1, e1, st1⟩ := tn0_c_fffffft (i0) (i1) (i2) (.val (.int i3)) (.val (.int i4)) (.val (.int i5)) ((3 : Int32)) (.val (.int i7)) (i8) (.val (.ref b)) (.unset) X0 hx hZ hw hby hml hown e0 One.u (by decide) hc123 (by decide) hc135 (by decide) hc147 (by decide)
        refine ⟨_, T1, X1, e1, Or.inr ⟨rfl, ?_⟩, st1⟩
        exact fun j hj => by
            match j, hj with
            | 0, _ => exact hc123
            | 1, _ => exact hc135
            | 2, _ => exact hc147
theorem tn0_c4 {p : Program} {l : Launch} {e : Env} {s : State} {m : MethodId} {args : Array Value} {below : List Frame} {meth : Method} {c : Code} {T0 : State} {locs : List Loc} {cells slots : Nat} {Z : State} {a0 : Array Value} {h0 : Heap} (i0 i1 i2 i3 i4 i5 i7 i8 : Int32) (b : Addr)
    (X0 : Stand p l e room_1 s m args below meth c T0 locs cells slots) (hx : p.tables.exec = Jvm.exec) (hZ : Z.Warmed39 s.vm) (hw : ∀ d ∈ tables_1, d.before a0 Z = true) (hby : c.code = code) (hml : c.maxLocals = 11) (hown : s.vm.findClass "com/example/covercull/covercull/InteractionsContainsPinLaw" = some m.cls) (e0 : T0.heap = h0) :
    ∃ (w : Int32) (T' : State), Stand p l e room_1 s m args below meth c T' locs cells slots ∧ T'.heap = h0 ∧ ((w = 1 ∧ ∃ j, j < 4 ∧ own_f i0 i1 i2 i3 j = i8) ∨ (w = 0 ∧ ∀ j, j < 4 → ¬ own_f i0 i1 i2 i3 j = i8)) ∧
      ∀ target, Steps p.tables e below (T'.setTop (mkF m 169 #[.val (.int i0), .val (.int i1), .val (.int i2), .val (.int i3), .val (.int i4), .val (.int i5), .val (.int (4 : Int32)), .val (.int i7), .val (.int i8), .val (.ref b), .val (.int w)] [])) target → Steps p.tables e below (T0.setTop (mkF m 115 #[.val (.int i0), .val (.int i1), .val (.int i2), .val (.int i3), .val (.int i4), .val (.int i5), .val (.int (4 : Int32)), .val (.int i7), .val (.int i8), .val (.ref b), .unset] [])) target := by
  by_cases hc123 : i0 = i8
  · obtain ⟨T1, X1, e1, st1⟩ := tn0_c_ft (i0) (.val (.int i1)) (.val (.int i2)) (.val (.int i3)) (.val (.int i4)) (.val (.int i5)) ((4 : Int32)) (.val (.int i7)) (i8) (.val (.ref b)) (.unset) X0 hx hZ hw hby hml hown e0 One.u (by decide) hc123
    exact ⟨_, T1, X1, e1, Or.inl ⟨rfl, 0, by decide, hc123⟩, st1⟩
  · by_cases hc135 : i1 = i8
    · obtain ⟨T1, X1, e1, st1⟩ := tn0_c_ffft (i0) (i1) (.val (.int i2)) (.val (.int i3)) (.val (.int i4)) (.val (.int i5)) ((4 : Int32)) (.val (.int i7)) (i8) (.val (.ref b)) (.unset) X0 hx hZ hw hby hml hown e0 One.u (by decide) hc123 (by decide) hc135
      exact ⟨_, T1, X1, e1, Or.inl ⟨rfl, 1, by decide, hc135⟩, st1⟩
    · by_cases hc147 : i2 = i8
      · obtain ⟨T1, X1, e1, st1⟩ := tn0_c_ffffft (i0) (i1) (i2) (.val (.int i3)) (.val (.int i4)) (.val (.int i5)) ((4 : Int32)) (.val (.int i7)) (i8) (.val (.ref b)) (.unset) X0 hx hZ hw hby hml hown e0 One.u (by decide) hc123 (by decide) hc135 (by decide) hc147
        exact ⟨_, T1, X1, e1, Or.inl ⟨rfl, 2, by decide, hc147⟩, st1⟩
      · by_cases hc159 : i3 = i8
        · obtain ⟨T1, X1, e1, st1⟩ := tn0_c_ffffffff (i0) (i1) (i2) (i3) (.val (.int i4)) (.val (.int i5)) ((4 : Int32)) (.val (.int i7)) (i8) (.val (.ref b)) (.unset) X0 hx hZ hw hby hml hown e0 One.u (by decide) hc123 (by decide) hc135 (by decide) hc147 (by decide) hc159
          exact ⟨_, T1, X1, e1, Or.inl ⟨rfl, 3, by decide, hc159⟩, st1⟩
        · obtain ⟨T1, X1, e1, st1⟩ := tn0_c_ffffffft (i0) (i1) (i2) (i3) (.val (.int i4)) (.val (.int i5)) ((4 : Int32)) (.val (.int i7)) (i8) (.val (.ref b)) (.unset) X0 hx hZ hw hby hml hown e0 One.u (by decide) hc123 (by decide) hc135 (by decide) hc147 (by decide) hc159
          refine ⟨_, T1, X1, e1, Or.inr ⟨rfl, ?_⟩, st1⟩
          exact fun j hj => by
              match j, hj with
              | 0, _ => exact hc123
              | 1, _ => exact hc135
              | 2, _ => exact hc147
              | 3, _ => exact hc159
theorem tn0_bc {p : Program} {l : Launch} {e : Env} {s : State} {m : MethodId} {args : Array Value} {below : List Frame} {meth : Method} {c : Code} {T0 : State} {locs : List Loc} {Z : State} {a0 : Array Value} {h0 : Heap} (i0 i1 i2 i3 i4 i5 v6 i7 i8 : Int32) (n0 : Nat) (h6 : v6 = 0 ∨ v6 = 1 ∨ v6 = 2 ∨ v6 = 3 ∨ v6 = 4)
    (X0 : Stand p l e room_1 s m args below meth c T0 locs 0 0) (hx : p.tables.exec = Jvm.exec) (hZ : Z.Warmed39 s.vm) (hw : ∀ d ∈ tables_1, d.before a0 Z = true) (hby : c.code = code) (hml : c.maxLocals = 11) (hown : s.vm.findClass "com/example/covercull/covercull/InteractionsContainsPinLaw" = some m.cls) (e0 : T0.heap = h0) (N0 : Fr n0 locs) (Z0 : n0 ≤ h0.size) :
    ∃ (n : Nat) (T' : State) (h' : Heap) (b : Addr) (cl : Cell) (L : List Loc) (w : Int32), n ≤ 255 ∧ Stand p l e room_1 s m args below meth c T' L 1 4 ∧ T'.heap = h' ∧ Fr n0 L ∧ n0 ≤ h'.size ∧ Arr Z h' b cl .int ∧ cl.slots.size = (Int32.ofNat n).toNatClampNeg ∧ (∀ j, j < n → cl.slots[j]? = some (.int (own_f i0 i1 i2 i3 j))) ∧
      ((w = 1 ∧ ∃ j, j < n ∧ own_f i0 i1 i2 i3 j = i8) ∨ (w = 0 ∧ ∀ j, j < n → ¬ own_f i0 i1 i2 i3 j = i8)) ∧
      ∀ target, Steps p.tables e below (T'.setTop (mkF m 169 #[.val (.int i0), .val (.int i1), .val (.int i2), .val (.int i3), .val (.int i4), .val (.int i5), .val (.int v6), .val (.int i7), .val (.int i8), .val (.ref b), .val (.int w)] [])) target → Steps p.tables e below (T0.setTop (mkF m 66 #[.val (.int i0), .val (.int i1), .val (.int i2), .val (.int i3), .val (.int i4), .val (.int i5), .val (.int v6), .val (.int i7), .val (.int i8), .unset, .unset] [])) target := by
  rcases h6 with rfl | rfl | rfl | rfl | rfl
  · obtain ⟨T1, h1, b, k, L, X1, e1, N1, Z1, V1, st1⟩ := tn0_b0 i0 i1 i2 i3 i4 i5 i7 i8 n0 X0 hx hZ hw hby hml hown e0 N0 Z0
    obtain ⟨cl, Ar, -, S, -, H, -⟩ := V1
    obtain ⟨w, T2, X2, e2, hv, st2⟩ := tn0_c0 i0 i1 i2 i3 i4 i5 i7 i8 b X1 hx hZ hw hby hml hown e1
    refine ⟨0, T2, h1, b, cl, L, w, by decide, X2, e2, N1, Z1, Ar, S, fun j hj => ?_, hv, fun target h => st1 target (st2 target h)⟩
    have q := H j (by rw [S]; exact hj)
    exact absurd hj (Nat.not_lt_zero j)
  · obtain ⟨T1, h1, b, k, L, X1, e1, N1, Z1, V1, st1⟩ := tn0_b1 i0 i1 i2 i3 i4 i5 i7 i8 n0 X0 hx hZ hw hby hml hown e0 N0 Z0
    obtain ⟨cl, Ar, -, S, -, H, -⟩ := V1
    obtain ⟨w, T2, X2, e2, hv, st2⟩ := tn0_c1 i0 i1 i2 i3 i4 i5 i7 i8 b X1 hx hZ hw hby hml hown e1
    refine ⟨1, T2, h1, b, cl, L, w, by decide, X2, e2, N1, Z1, Ar, S, fun j hj => ?_, hv, fun target h => st1 target (st2 target h)⟩
    have q := H j (by rw [S]; exact hj)
    match j, hj, q with
    | 0, _, q => exact q
  · obtain ⟨T1, h1, b, k, L, X1, e1, N1, Z1, V1, st1⟩ := tn0_b2 i0 i1 i2 i3 i4 i5 i7 i8 n0 X0 hx hZ hw hby hml hown e0 N0 Z0
    obtain ⟨cl, Ar, -, S, -, H, -⟩ := V1
    obtain ⟨w, T2, X2, e2, hv, st2⟩ := tn0_c2 i0 i1 i2 i3 i4 i5 i7 i8 b X1 hx hZ hw hby hml hown e1
    refine ⟨2, T2, h1, b, cl, L, w, by decide, X2, e2, N1, Z1, Ar, S, fun j hj => ?_, hv, fun target h => st1 target (st2 target h)⟩
    have q := H j (by rw [S]; exact hj)
    match j, hj, q with
    | 0, _, q => exact q
    | 1, _, q => exact q
  · obtain ⟨T1, h1, b, k, L, X1, e1, N1, Z1, V1, st1⟩ := tn0_b3 i0 i1 i2 i3 i4 i5 i7 i8 n0 X0 hx hZ hw hby hml hown e0 N0 Z0
    obtain ⟨cl, Ar, -, S, -, H, -⟩ := V1
    obtain ⟨w, T2, X2, e2, hv, st2⟩ := tn0_c3 i0 i1 i2 i3 i4 i5 i7 i8 b X1 hx hZ hw hby hml hown e1
    refine ⟨3, T2, h1, b, cl, L, w, by decide, X2, e2, N1, Z1, Ar, S, fun j hj => ?_, hv, fun target h => st1 target (st2 target h)⟩
    have q := H j (by rw [S]; exact hj)
    match j, hj, q with
    | 0, _, q => exact q
    | 1, _, q => exact q
    | 2, _, q => exact q
  · obtain ⟨T1, h1, b, k, L, X1, e1, N1, Z1, V1, st1⟩ := tn0_b4 i0 i1 i2 i3 i4 i5 i7 i8 n0 X0 hx hZ hw hby hml hown e0 N0 Z0
    obtain ⟨cl, Ar, -, S, -, H, -⟩ := V1
    obtain ⟨w, T2, X2, e2, hv, st2⟩ := tn0_c4 i0 i1 i2 i3 i4 i5 i7 i8 b X1 hx hZ hw hby hml hown e1
    refine ⟨4, T2, h1, b, cl, L, w, by decide, X2, e2, N1, Z1, Ar, S, fun j hj => ?_, hv, fun target h => st1 target (st2 target h)⟩
    have q := H j (by rw [S]; exact hj)
    match j, hj, q with
    | 0, _, q => exact q
    | 1, _, q => exact q
    | 2, _, q => exact q
    | 3, _, q => exact q
theorem pd_0_0 : parseMethodDescriptor "([II)Z" = some ⟨[(.array .int), .int], some .boolean⟩ := by decide +kernel
set_option maxRecDepth 65536 in
set_option maxHeartbeats 40000000 in
theorem tn0_d {p : Program} {l : Launch} {e : Env} {s : State} {m : MethodId} {args : Array Value} {below : List Frame} {meth : Method} {c : Code} {T0 : State} {locs : List Loc} {Z : State} {a0 : Array Value} {h0 : Heap} (s0 s1 s2 s3 s4 s5 s6 s7 : Slot) (i8 : Int32) (o9 : Addr) (i10 : Int32) (f : Nat → Int32) (n : Nat) (hn : n ≤ 255) (cl : Cell) (n0 : Nat)
    (X0 : Stand p l e room_1 s m args below meth c T0 locs 1 4) (hx : p.tables.exec = Jvm.exec) (hZ : Z.Warmed39 s.vm) (hw : ∀ d ∈ tables_1, d.before a0 Z = true) (hby : c.code = code) (hml : c.maxLocals = 11) (hown : s.vm.findClass "com/example/covercull/covercull/InteractionsContainsPinLaw" = some m.cls) (e0 : T0.heap = h0) (N0 : Fr n0 locs) (Z0 : n0 ≤ h0.size) (Ar : Arr Z h0 o9 cl .int) (S : cl.slots.size = (Int32.ofNat n).toNatClampNeg) (hat : ∀ j, j < n → cl.slots[j]? = some (.int (f j))) (hv : (i10 = 1 ∧ ∃ j, j < n ∧ f j = i8) ∨ (i10 = 0 ∧ ∀ j, j < n → ¬ f j = i8)) :
    ∃ (T' : State) (L : List Loc), Stand p l e room_1 s m args below meth c T' L 1 4 ∧ Fr n0 L ∧
      ∀ target, Steps p.tables e below (T'.setTop (mkF m 186 #[s0, s1, s2, s3, s4, s5, s6, s7, .val (.int i8), .val (.ref o9), .val (.int i10)] [(.int (1 : Int32))])) target → Steps p.tables e below (T0.setTop (mkF m 169 #[s0, s1, s2, s3, s4, s5, s6, s7, .val (.int i8), .val (.ref o9), .val (.int i10)] [])) target := by
  obtain ⟨v7, _, ⟨T7, L7, k7, n7⟩, -, X7, ⟨Lc7, hQ7, l7, y7, z7⟩, st7⟩ := Jvm.LawKit.callS X0 hx (y := (⟨"com/example/covercull/covercull/Interactions", "contains", "([II)Z"⟩ : MethodName)) hown (mvT hZ (hw _ (List.mem_of_getElem? (i := 1) rfl))) (mvT hZ (hw _ (List.mem_of_getElem? (i := 2) rfl))) (mvT hZ (hw _ (List.mem_of_getElem? (i := 3) rfl))) (mvT hZ (hw _ (List.mem_of_getElem? (i := 4) rfl))) (by decide) (backOf (W := 0) (rm1 l Z a0 hw [] o9 i8 f n hn cl h0 n0 Z0 Ar S hat) hZ (hw _ (List.mem_of_getElem? (i := 4) rfl)) (hw _ (List.mem_of_getElem? (i := 3) rfl)) (by decide) (by decide)) (g := (mkF m 173 #[s0, s1, s2, s3, s4, s5, s6, s7, .val (.int i8), .val (.ref o9), .val (.int i10)] [(.int i8), (.ref o9)])) rfl (by rw [hml]; rfl) (argsL := [(.ref o9), (.int i8)]) (rest := []) (lenOf pd_0_0 rfl) rfl (by show 2 * 0 + _ ≤ _; exact Nat.le_of_eq rfl) (hb hby at_173) (fun _ _ => ⟨rfl, e0, (by decide : 1 + 0 ≤ _), (by decide : 4 + 0 ≤ _)⟩)
  dsimp only [Pt.U, Pt.locs, Pt.cells, Pt.slots] at X7 l7 y7 z7 st7 hQ7
  subst l7 y7 z7
  obtain ⟨hv7, N7q, e7⟩ := hQ7
  have ev : v7 = some (.int i10) := by
    rcases hv7 with ⟨q1, j, hj, hf⟩ | ⟨q1, hno⟩
    · rcases hv with ⟨rfl, _⟩ | ⟨rfl, hno⟩
      · exact q1
      · exact absurd hf (hno j hj)
    · rcases hv with ⟨rfl, j, hj, hf⟩ | ⟨rfl, _⟩
      · exact absurd hf (hno j hj)
      · exact q1
  subst ev
  have N7 := Fr.app N0 N7q
  refine ⟨T7, _, X7, N7, fun target kt => ?_⟩
  show Steps p.tables e below (T0.setTop (mkF m 169 #[s0, s1, s2, s3, s4, s5, s6, s7, .val (.int i8), .val (.ref o9), .val (.int i10)] [])) _
  refine XS.aload X0.here hx rfl (hb hby at_169) rfl rfl ?_
  show Steps p.tables e below (T0.setTop (mkF m 171 #[s0, s1, s2, s3, s4, s5, s6, s7, .val (.int i8), .val (.ref o9), .val (.int i10)] [(.ref o9)])) _
  refine XS.iload X0.here hx rfl (hb hby at_171) rfl ?_
  show Steps p.tables e below (T0.setTop (mkF m 173 #[s0, s1, s2, s3, s4, s5, s6, s7, .val (.int i8), .val (.ref o9), .val (.int i10)] [(.int i8), (.ref o9)])) _
  refine st7 _ ?_
  show Steps p.tables e below (T7.setTop (mkF m 176 #[s0, s1, s2, s3, s4, s5, s6, s7, .val (.int i8), .val (.ref o9), .val (.int i10)] [(.int i10)])) _
  refine XS.iload X7.here hx rfl (hb hby at_176) rfl ?_
  show Steps p.tables e below (T7.setTop (mkF m 178 #[s0, s1, s2, s3, s4, s5, s6, s7, .val (.int i8), .val (.ref o9), .val (.int i10)] [(.int i10), (.int i10)])) _
  refine XS.icmpNo X7.here hx rfl (hb hby at_178) rfl (teq (rfl : i10 = i10)).2 ?_
  show Steps p.tables e below (T7.setTop (mkF m 181 #[s0, s1, s2, s3, s4, s5, s6, s7, .val (.int i8), .val (.ref o9), .val (.int i10)] [])) _
  refine XS.iconst X7.here hx rfl (hb hby at_181) ?_
  show Steps p.tables e below (T7.setTop (mkF m 182 #[s0, s1, s2, s3, s4, s5, s6, s7, .val (.int i8), .val (.ref o9), .val (.int i10)] [(.int (1 : Int32))])) _
  refine XS.goto X7.here hx rfl (pc0 := 182) (pc' := 186) rfl (hb hby at_182) (by decide) (by decide) ?_
  exact kt
theorem pn_0 : plainName "com/example/covercull/covercull/InteractionsContainsPinLaw" = true := by first | (simp [plainName, overriddenIn]; done) | decide +kernel
theorem ef_0 (m : MethodId) (x0 : Int32) (x1 : Int32) (x2 : Int32) (x3 : Int32) (x4 : Int32) (x5 : Int32) : entryFrame m #[(.int x0), (.int x1), (.int x2), (.int x3), (.int x4), (.int x5)] maxLocals = mkF m 0 #[.val (.int x0), .val (.int x1), .val (.int x2), .val (.int x3), .val (.int x4), .val (.int x5), .unset, .unset, .unset, .unset, .unset] [] := by first | (simp [entryFrame, mkF, argsToLocals, Value.category, maxLocals]; done) | rfl
def Q0 (Z : State) (p1 : Int32) (p2 : Int32) (p3 : Int32) (p4 : Int32) (p5 : Int32) (p6 : Int32) (h0 : Heap) (n0 : Nat) (v : Option Value) (h : Heap) (L : List Loc) : Prop := v = some (.int (1 : Int32)) ∧ Fr n0 L
set_option maxRecDepth 65536 in
set_option maxHeartbeats 40000000 in
theorem rm0 (l : Launch) (Z : State) (a0 : Array Value) (hw : ∀ d ∈ tables_1, d.before a0 Z = true) (ws : List Jvm.Cond) (p1 : Int32) (p2 : Int32) (p3 : Int32) (p4 : Int32) (p5 : Int32) (p6 : Int32) (h0 : Heap) (n0 : Nat) (Z0 : n0 ≤ h0.size) :
    MetFree l x (head1 (Jvm.Cond.code x code maxLocals ret :: ws) room_1) (fun a U => a = #[(.int p1), (.int p2), (.int p3), (.int p4), (.int p5), (.int p6)] ∧ Z.Warmed39 U.vm ∧ U.heap = h0) (fun _ _ _ _ _ => True) (fun _ U o U' => ∃ v L, o = .returned v ∧ Q0 Z p1 p2 p3 p4 p5 p6 h0 n0 v U'.heap L ∧ FrameEnd U o U' L room_1.cells room_1.slots) := by
  refine MetFree.of_bodySF (plainFor_of_name pn_0) hisR ?_
  intro p e s m args below meth c s₁ Bd hml0 hP hK
  obtain ⟨rfl, hZ, hh⟩ := hP
  have hx := Bd.exec
  have hby := Bd.bytes
  have hml : c.maxLocals = 11 := hml0
  have hown : s.vm.findClass "com/example/covercull/covercull/InteractionsContainsPinLaw" = some m.cls := findClass_of_methodNamed Bd.named
  have hnm := (name_of_methodNamed Bd.named Bd.method).1
  have X0 : Stand p l e room_1 s m #[(.int p1), (.int p2), (.int p3), (.int p4), (.int p5), (.int p6)] below meth c s₁ [] 0 0 := Stand.of_body Bd
  have e0 : s₁.heap = h0 := by rw [← hh, Bd.state]; rfl
  have N0 := Fr.nil n0
  have pre0 : ∀ t, Steps p.tables e below (s₁.setTop (mkF m 0 #[.val (.int p1), .val (.int p2), .val (.int p3), .val (.int p4), .val (.int p5), .val (.int p6), .unset, .unset, .unset, .unset, .unset] [])) t → Steps p.tables e below (s₁.setTop (entryFrame m #[(.int p1), (.int p2), (.int p3), (.int p4), (.int p5), (.int p6)] maxLocals)) t := fun t k => castTop (ef_0 m p1 p2 p3 p4 p5 p6) k
  obtain ⟨q8, T1, X1, e1, st1⟩ := tn0_a p1 p2 p3 p4 p5 p6 ((p6 &&& (7 : Int32)) - ((p6 &&& (7 : Int32)) / (5 : Int32)) * (5 : Int32)) ((p6.toUInt32 >>> ((3 : Int32) &&& 31).toUInt32).toInt32 &&& (7 : Int32)) X0 hx hZ hw hby hml hown e0
  obtain ⟨n, T2, h2, b, cl, L2, w, hn, X2, e2, N2, Z2, Ar, S, hat, hv, st2⟩ := tn0_bc p1 p2 p3 p4 p5 p6 ((p6 &&& (7 : Int32)) - ((p6 &&& (7 : Int32)) / (5 : Int32)) * (5 : Int32)) ((p6.toUInt32 >>> ((3 : Int32) &&& 31).toUInt32).toInt32 &&& (7 : Int32)) q8 n0 (own_n5 p6) X1 hx hZ hw hby hml hown e1 N0 Z0
  obtain ⟨T3, L3, X3, N3, st3⟩ := tn0_d (.val (.int p1)) (.val (.int p2)) (.val (.int p3)) (.val (.int p4)) (.val (.int p5)) (.val (.int p6)) (.val (.int ((p6 &&& (7 : Int32)) - ((p6 &&& (7 : Int32)) / (5 : Int32)) * (5 : Int32)))) (.val (.int ((p6.toUInt32 >>> ((3 : Int32) &&& 31).toUInt32).toInt32 &&& (7 : Int32)))) q8 b w (own_f p1 p2 p3 p4) n hn cl n0 X2 hx hZ hw hby hml hown e2 N2 Z2 Ar S hat hv
  obtain ⟨fs, hr, hrun, hended, hW, hsame⟩ := X3.leave (v := some (.int (1 : Int32))) (fun h => by rw [Bd.returns] at h; cases h)
  refine ⟨_, _, pre0 _ ?_, hrun, hended, _, _, rfl, ?_, ⟨_, rfl⟩, hW, hsame.mono (by decide) (by decide)⟩
  · show Steps p.tables e below (s₁.setTop (mkF m 0 #[.val (.int p1), .val (.int p2), .val (.int p3), .val (.int p4), .val (.int p5), .val (.int p6), .unset, .unset, .unset, .unset, .unset] [])) _
    refine XS.iload X0.here hx rfl (hb hby at_0) rfl ?_
    show Steps p.tables e below (s₁.setTop (mkF m 2 #[.val (.int p1), .val (.int p2), .val (.int p3), .val (.int p4), .val (.int p5), .val (.int p6), .unset, .unset, .unset, .unset, .unset] [(.int p6)])) _
    refine XS.bipush X0.here hx rfl (hb hby at_2) ?_
    show Steps p.tables e below (s₁.setTop (mkF m 4 #[.val (.int p1), .val (.int p2), .val (.int p3), .val (.int p4), .val (.int p5), .val (.int p6), .unset, .unset, .unset, .unset, .unset] [(.int (7 : Int32)), (.int p6)])) _
    refine XS.iand X0.here hx rfl (hb hby at_4) rfl ?_
    show Steps p.tables e below (s₁.setTop (mkF m 5 #[.val (.int p1), .val (.int p2), .val (.int p3), .val (.int p4), .val (.int p5), .val (.int p6), .unset, .unset, .unset, .unset, .unset] [(.int (p6 &&& (7 : Int32)))])) _
    refine XS.iconst X0.here hx rfl (hb hby at_5) ?_
    show Steps p.tables e below (s₁.setTop (mkF m 6 #[.val (.int p1), .val (.int p2), .val (.int p3), .val (.int p4), .val (.int p5), .val (.int p6), .unset, .unset, .unset, .unset, .unset] [(.int (5 : Int32)), (.int (p6 &&& (7 : Int32)))])) _
    refine XS.irem X0.here hx rfl (hb hby at_6) rfl (by decide) ?_
    show Steps p.tables e below (s₁.setTop (mkF m 7 #[.val (.int p1), .val (.int p2), .val (.int p3), .val (.int p4), .val (.int p5), .val (.int p6), .unset, .unset, .unset, .unset, .unset] [(.int ((p6 &&& (7 : Int32)) - ((p6 &&& (7 : Int32)) / (5 : Int32)) * (5 : Int32)))])) _
    refine XS.istore X0.here hx rfl (hb hby at_7) rfl (l' := #[.val (.int p1), .val (.int p2), .val (.int p3), .val (.int p4), .val (.int p5), .val (.int p6), .val (.int ((p6 &&& (7 : Int32)) - ((p6 &&& (7 : Int32)) / (5 : Int32)) * (5 : Int32))), .unset, .unset, .unset, .unset]) rfl ?_
    show Steps p.tables e below (s₁.setTop (mkF m 9 #[.val (.int p1), .val (.int p2), .val (.int p3), .val (.int p4), .val (.int p5), .val (.int p6), .val (.int ((p6 &&& (7 : Int32)) - ((p6 &&& (7 : Int32)) / (5 : Int32)) * (5 : Int32))), .unset, .unset, .unset, .unset] [])) _
    refine XS.iload X0.here hx rfl (hb hby at_9) rfl ?_
    show Steps p.tables e below (s₁.setTop (mkF m 11 #[.val (.int p1), .val (.int p2), .val (.int p3), .val (.int p4), .val (.int p5), .val (.int p6), .val (.int ((p6 &&& (7 : Int32)) - ((p6 &&& (7 : Int32)) / (5 : Int32)) * (5 : Int32))), .unset, .unset, .unset, .unset] [(.int p6)])) _
    refine XS.iconst X0.here hx rfl (hb hby at_11) ?_
    show Steps p.tables e below (s₁.setTop (mkF m 12 #[.val (.int p1), .val (.int p2), .val (.int p3), .val (.int p4), .val (.int p5), .val (.int p6), .val (.int ((p6 &&& (7 : Int32)) - ((p6 &&& (7 : Int32)) / (5 : Int32)) * (5 : Int32))), .unset, .unset, .unset, .unset] [(.int (3 : Int32)), (.int p6)])) _
    refine XS.iushr X0.here hx rfl (hb hby at_12) rfl ?_
    show Steps p.tables e below (s₁.setTop (mkF m 13 #[.val (.int p1), .val (.int p2), .val (.int p3), .val (.int p4), .val (.int p5), .val (.int p6), .val (.int ((p6 &&& (7 : Int32)) - ((p6 &&& (7 : Int32)) / (5 : Int32)) * (5 : Int32))), .unset, .unset, .unset, .unset] [(.int (p6.toUInt32 >>> ((3 : Int32) &&& 31).toUInt32).toInt32)])) _
    refine XS.bipush X0.here hx rfl (hb hby at_13) ?_
    show Steps p.tables e below (s₁.setTop (mkF m 15 #[.val (.int p1), .val (.int p2), .val (.int p3), .val (.int p4), .val (.int p5), .val (.int p6), .val (.int ((p6 &&& (7 : Int32)) - ((p6 &&& (7 : Int32)) / (5 : Int32)) * (5 : Int32))), .unset, .unset, .unset, .unset] [(.int (7 : Int32)), (.int (p6.toUInt32 >>> ((3 : Int32) &&& 31).toUInt32).toInt32)])) _
    refine XS.iand X0.here hx rfl (hb hby at_15) rfl ?_
    show Steps p.tables e below (s₁.setTop (mkF m 16 #[.val (.int p1), .val (.int p2), .val (.int p3), .val (.int p4), .val (.int p5), .val (.int p6), .val (.int ((p6 &&& (7 : Int32)) - ((p6 &&& (7 : Int32)) / (5 : Int32)) * (5 : Int32))), .unset, .unset, .unset, .unset] [(.int ((p6.toUInt32 >>> ((3 : Int32) &&& 31).toUInt32).toInt32 &&& (7 : Int32)))])) _
    refine XS.istore X0.here hx rfl (hb hby at_16) rfl (l' := #[.val (.int p1), .val (.int p2), .val (.int p3), .val (.int p4), .val (.int p5), .val (.int p6), .val (.int ((p6 &&& (7 : Int32)) - ((p6 &&& (7 : Int32)) / (5 : Int32)) * (5 : Int32))), .val (.int ((p6.toUInt32 >>> ((3 : Int32) &&& 31).toUInt32).toInt32 &&& (7 : Int32))), .unset, .unset, .unset]) rfl ?_
    show Steps p.tables e below (s₁.setTop (mkF m 18 #[.val (.int p1), .val (.int p2), .val (.int p3), .val (.int p4), .val (.int p5), .val (.int p6), .val (.int ((p6 &&& (7 : Int32)) - ((p6 &&& (7 : Int32)) / (5 : Int32)) * (5 : Int32))), .val (.int ((p6.toUInt32 >>> ((3 : Int32) &&& 31).toUInt32).toInt32 &&& (7 : Int32))), .unset, .unset, .unset] [])) _
    refine st1 _ (st2 _ (st3 _ ?_))
    exact retN X3 hx (t := .boolean) Bd.returns (by simp) (hb hby at_186) hr
  · exact ⟨rfl, N3⟩
set_option maxRecDepth 65536 in
set_option maxHeartbeats 40000000 in
theorem comes_1 {Post : Tables → Env → Array Value → State → Outcome → State → Prop} (hpost : ∀ tb e args s v u, (limb_1_1.after args s (.returned v) u = true ∧ limb_1_2.after args s (.returned v) u = true ∧ True) → FrameEnd s (.returned v) u (Jvm.fieldLocs frame_1_writes args s ++ Jvm.arrayLocs frame_1_arrays args s ++ Jvm.staticLocs frame_1_statics s) 16 128 → Post tb e args s (.returned v) u) :
    ArmFor flags0 classFile x code maxLocals ret World_1 tables_1 room_1 Calls_1 rest_1 Pre_1 Post := by
  intro l hfl _ _ p e ha hc hk s m args below hf hA hF happ hP
  obtain ⟨hcalls, hrest, hpre⟩ := hP
  obtain ⟨-, -, -, hnamed, -, -, -, hat⟩ := (Spec.applies_iff hf).mp happ
  obtain ⟨hg, hn⟩ := and_e (Cond.before_iff.mp (show (Jvm.Cond.and given_1 narrow_1).before args s = true from hpre))
  obtain ⟨g0, r0⟩ := and_e hg
  obtain ⟨g1, r1⟩ := and_e r0
  obtain ⟨g2, r2⟩ := and_e r1
  obtain ⟨g3, r3⟩ := and_e r2
  obtain ⟨g4, r4⟩ := and_e r3
  obtain ⟨g5, g6⟩ := and_e r4
  obtain ⟨w0, w1, w2, w3, w4, w5, rfl⟩ : ∃ w0 w1 w2 w3 w4 w5 : Value, args = #[w0, w1, w2, w3, w4, w5] := by
    have hs : args.size = 6 := by simpa [Cond.value, given_1] using g0
    obtain ⟨L⟩ := args
    match L, hs with
    | [w0, w1, w2, w3, w4, w5], _ => exact ⟨w0, w1, w2, w3, w4, w5, rfl⟩
  have hw := fun d (hd : d ∈ tables_1) => atoms_spec (ws := Jvm.Cond.code x code maxLocals ret :: tables_1) hat d (List.mem_cons_of_mem _ hd)
  obtain ⟨i0, ei0⟩ := is_v g1
  obtain rfl : w0 = (.int i0) := Option.some.inj ei0
  obtain ⟨i1, ei1⟩ := is_v g2
  obtain rfl : w1 = (.int i1) := Option.some.inj ei1
  obtain ⟨i2, ei2⟩ := is_v g3
  obtain rfl : w2 = (.int i2) := Option.some.inj ei2
  obtain ⟨i3, ei3⟩ := is_v g4
  obtain rfl : w3 = (.int i3) := Option.some.inj ei3
  obtain ⟨i4, ei4⟩ := is_v g5
  obtain rfl : w4 = (.int i4) := Option.some.inj ei4
  obtain ⟨i5, ei5⟩ := is_v g6
  obtain rfl : w5 = (.int i5) := Option.some.inj ei5
  obtain ⟨n, o, h1, h2, h3, _, L, rfl, ⟨rfl, N⟩, hq⟩ := rm0 l s _ hw tables_1 i0 i1 i2 i3 i4 i5 s.heap s.heap.size (Nat.le_refl _) p e ha hc hk s m _ below hf ((Spec.applies_iff_loose hf).mp happ).1 ⟨rfl, State.Warmed39.refl s, rfl⟩ trivial
  refine ⟨n, _, h1, h2, h3, hpost _ _ _ _ _ _ ⟨Cond.after_iff.mpr rfl, Cond.after_iff.mpr (eq_i res_at (Term.int_eval (1)) rfl), trivial⟩ ⟨hq.1, hq.2.1, (hq.2.2.sift fun y hy => Or.inr (N y hy)).mono (by decide) (by decide)⟩⟩
theorem main_1_1 : Claimed_1_1 := comes_1 fun _ _ _ _ _ _ h hF => ⟨h.1, hF⟩
theorem main_1_2 : Claimed_1_2 := comes_1 fun _ _ _ _ _ _ h hF => ⟨h.2.1, hF⟩
end Jvm.Pilot.@@N@@
namespace Jvm.Pilot.@@N@@
open Jvm Jvm.ClassFile Sem Op Lib Jvm.Free Jvm.Stand Jvm.Pilot.@@N@@.Jvm.D
/-! MADE BY PROGRAM (witnessworld.py) out of the Statement's table words and the real class files: 9 classes; the members and pool entries that the words name. The judged class is class 1, her method 1. -/
namespace start1
open Jvm.ClassFile
def u (s : String) : CpInfo := .utf8 (stringToUtf16 s)
/-- a pool by its gaps: so many unusable entries, then the entry; so many at the end -/
def gap : Nat → List CpInfo → List CpInfo
  | 0, r => r
  | n + 1, r => .unusable :: gap n r
def poolList (es : List (Nat × CpInfo)) (last : Nat) : List CpInfo := es.foldr (fun e r => gap e.1 (e.2 :: r)) (gap last [])
def pool (es : List (Nat × CpInfo)) (last : Nat) : Array CpInfo := ⟨poolList es last⟩
def fileOf (pool : Array CpInfo) (this : Nat) (attrs : Array Attribute := #[]) (ms : Array MethodInfo := #[]) (fl : Nat := 33) (sup : Nat := 0) (ifs : Array Nat := #[]) (fds : Array FieldInfo := #[]) : ClassFile where
  minorVersion := 0
  majorVersion := 65
  constantPool := pool
  accessFlags := fl
  thisClass := this
  superClass := sup
  interfaces := ifs
  fields := fds
  methods := ms
  attributes := attrs
def plain (name : String) (sup : Option ClassId) : Class where
  name := name
  kind := .ordinary
  loader := none
  accessFlags := 33
  super := sup
  interfaces := #[]
  cf := none
  fields := #[]
  methods := #[]
  instanceTypes := #[]
  staticTypes := #[]
  resolved := #[]
  callSites := []
  init := .initialized
  statics := none
  mirror := none

def pool0 : Array CpInfo := pool [(5, u "<init>"), (0, u "()V"), (1, .class_ 10), (1, u "java/lang/Object")] 113

def k0m0 : Method := { name := "<init>", desc := "()V", sig := { parameters := [], returnType := none }, accessFlags := 1, code := none }
/-- java/lang/Object -/
def k0 : Class := { plain "java/lang/Object" none with
  accessFlags := 33
  interfaces := #[]
  cf := some (fileOf pool0 8 #[] #[{ accessFlags := 1, nameIndex := 5, descriptorIndex := 6, attributes := #[] }] 33 0 #[] #[])
  fields := #[]
  methods := #[k0m0]
  instanceTypes := #[]
  staticTypes := #[]
  resolved := Array.replicate 124 none
  statics := none }

def pool1 : Array CpInfo := pool [(2, .class_ 4), (1, u "java/lang/Object"), (0, u "<init>"), (0, u "()V"), (0, .methodref 8 9), (0, .class_ 10), (0, .nameAndType 11 12), (0, u "com/example/covercull/covercull/Interactions"), (0, u "contains"), (0, u "([II)Z"), (0, .class_ 14), (0, u "com/example/covercull/covercull/InteractionsContainsPinLaw"), (2, u "law"), (0, u "(IIIIII)Z")] 5

def k1m0 : Method := { name := "<init>", desc := "()V", sig := { parameters := [], returnType := none }, accessFlags := 1, code := none }
def k1c1 : Code := { maxStack := 3, maxLocals := 11, code := code, exceptionTable := #[], attributes := #[] }
def k1m1 : Method := { name := "law", desc := "(IIIIII)Z", sig := { parameters := [.int, .int, .int, .int, .int, .int], returnType := some .boolean }, accessFlags := 9, code := some k1c1 }
/-- com/example/covercull/covercull/InteractionsContainsPinLaw -/
def k1 : Class := { plain "com/example/covercull/covercull/InteractionsContainsPinLaw" (some 0) with
  accessFlags := 49
  interfaces := #[]
  cf := some (fileOf pool1 13 #[] #[{ accessFlags := 1, nameIndex := 5, descriptorIndex := 6, attributes := #[] }, { accessFlags := 9, nameIndex := 17, descriptorIndex := 18, attributes := #[] }] 49 2 #[] #[])
  fields := #[]
  methods := #[k1m0, k1m1]
  instanceTypes := #[]
  staticTypes := #[]
  resolved := Array.replicate 24 none
  statics := none }

def pool2 : Array CpInfo := pool [(4, .class_ 6), (1, u "java/lang/Object"), (6, .class_ 15), (1, u "com/example/covercull/covercull/Interactions"), (0, u "sets"), (0, u "Ljava/util/List;"), (5, u "seen"), (0, u "Ljava/util/Set;"), (2, u "domains"), (0, u "Lcom/example/covercull/covercull/Domains;"), (4, u "valueCounts"), (3, u "[I"), (2, u "combinations"), (58, u "numbered"), (0, u "J"), (30, u "LIMIT"), (7, u "([II)Z"), (8, u "contains")] 24

def k2c0 : Code := { maxStack := 2, maxLocals := 6, code := prog_19_method_7_code, exceptionTable := #[], attributes := #[] }
def k2m0 : Method := { name := "contains", desc := "([II)Z", sig := { parameters := [(.array .int), .int], returnType := some .boolean }, accessFlags := 8, code := some k2c0 }
/-- com/example/covercull/covercull/Interactions -/
def k2 : Class := { plain "com/example/covercull/covercull/Interactions" (some 0) with
  accessFlags := 48
  interfaces := #[]
  cf := some (fileOf pool2 13 #[] #[{ accessFlags := 8, nameIndex := 148, descriptorIndex := 139, attributes := #[] }] 48 4 #[] #[{ accessFlags := 24, nameIndex := 131, descriptorIndex := 100, attributes := #[] }, { accessFlags := 18, nameIndex := 27, descriptorIndex := 28, attributes := #[] }, { accessFlags := 18, nameIndex := 33, descriptorIndex := 37, attributes := #[] }, { accessFlags := 18, nameIndex := 16, descriptorIndex := 17, attributes := #[] }, { accessFlags := 18, nameIndex := 23, descriptorIndex := 24, attributes := #[] }, { accessFlags := 2, nameIndex := 99, descriptorIndex := 100, attributes := #[] }, { accessFlags := 2, nameIndex := 40, descriptorIndex := 100, attributes := #[] }])
  fields := #[{ name := "LIMIT", type := .long, accessFlags := 24, slot := 0, constantValue := 0 }, { name := "domains", type := (.object "com/example/covercull/covercull/Domains"), accessFlags := 18, slot := 0, constantValue := 0 }, { name := "valueCounts", type := (.array .int), accessFlags := 18, slot := 1, constantValue := 0 }, { name := "sets", type := (.object "java/util/List"), accessFlags := 18, slot := 2, constantValue := 0 }, { name := "seen", type := (.object "java/util/Set"), accessFlags := 18, slot := 3, constantValue := 0 }, { name := "numbered", type := .long, accessFlags := 2, slot := 4, constantValue := 0 }, { name := "combinations", type := .long, accessFlags := 2, slot := 5, constantValue := 0 }]
  methods := #[k2m0]
  instanceTypes := #[(.object "com/example/covercull/covercull/Domains"), (.array .int), (.object "java/util/List"), (.object "java/util/Set"), .long, .long]
  staticTypes := #[.long]
  resolved := Array.replicate 173 none
  statics := none }

def pool3 : Array CpInfo := pool [(1, u "java/lang/Cloneable"), (0, .class_ 1), (0, u "java/lang/Object"), (0, .class_ 3)] 3

/-- java/lang/Cloneable -/
def k3 : Class := { plain "java/lang/Cloneable" (some 0) with
  accessFlags := 1537
  interfaces := #[]
  cf := some (fileOf pool3 2 #[] #[] 1537 4 #[] #[])
  fields := #[]
  methods := #[]
  instanceTypes := #[]
  staticTypes := #[]
  resolved := Array.replicate 8 none
  statics := none }

def pool4 : Array CpInfo := pool [(1, u "java/io/Serializable"), (0, .class_ 1), (0, u "java/lang/Object"), (0, .class_ 3)] 3

/-- java/io/Serializable -/
def k4 : Class := { plain "java/io/Serializable" (some 0) with
  accessFlags := 1537
  interfaces := #[]
  cf := some (fileOf pool4 2 #[] #[] 1537 4 #[] #[])
  fields := #[]
  methods := #[]
  instanceTypes := #[]
  staticTypes := #[]
  resolved := Array.replicate 8 none
  statics := none }

/-- the primitive byte -/
def k5 : Class := { plain "byte" none with kind := .primitive 'B', accessFlags := 0x411 }
/-- [B -/
def k6 : Class := { plain "[B" (some 0) with kind := .array 5 .byte, interfaces := #[3, 4], accessFlags := 1041 }

/-- the primitive int -/
def k7 : Class := { plain "int" none with kind := .primitive 'I', accessFlags := 0x411 }
/-- [I -/
def k8 : Class := { plain "[I" (some 0) with kind := .array 7 .int, interfaces := #[3, 4], accessFlags := 1041 }

def heap : Heap := #[]
def classes : Array Class := #[k0, k1, k2, k3, k4, k5, k6, k7, k8]
def interned : List (Array UInt16 × Addr) := []
def slotsUsed : Nat := 0
def theMethod : MethodId := ⟨1, 1⟩
def args0 : Array Value := #[.int 1, .int 2, .int 3, .int 4, .int 5, .int 2]
def aboutOver (below : List Frame) : State where
  vm := { classes := classes, interned := interned.toArray }
  heap := heap
  slotsUsed := slotsUsed
  threads := #[{ frames := .invoking theMethod args0 :: below }]
def below0 : List Frame := [.native { method := ⟨0, 0⟩, args := #[] }]
def about1 : State := aboutOver below0
def p0 : Program := .bare "" "" ""
def e0 : Env := launch0.env 0 0 0
theorem w_frames : about1.frames = Frame.invoking theMethod args0 :: below0 := rfl
set_option maxRecDepth 65536 in
theorem w_args : argsFit about1.vm theMethod args0 = true := by decide +kernel
set_option maxRecDepth 65536 in
theorem w_heap : heapFits about1 = true := by decide +kernel
set_option maxRecDepth 65536 in
theorem w_runnable : about1.curStatus? = some .runnable := by decide +kernel
set_option maxRecDepth 65536 in
theorem w_alone : about1.alone = true := by decide +kernel
set_option maxRecDepth 65536 in
theorem w_named : about1.methodNamed? x = some theMethod := by decide +kernel
set_option maxRecDepth 65536 in
theorem w_hears : about1.hears theMethod below0 = true := by decide +kernel
set_option maxRecDepth 65536 in
theorem w_ripe : about1.ripe theMethod args0 below0 = true := by decide +kernel
theorem w_running : about1.status = .running := rfl
set_option maxRecDepth 65536 in
theorem w_room : about1.hasRoom e0.platform room_1 = true :=
  launch0.hasRoom_least _ room_1 (by decide +kernel) (by decide +kernel) (by decide +kernel) (by decide +kernel) (by decide +kernel) (by decide +kernel)
theorem allAtoms_all (ts : List Jvm.Cond) (a : Array Jvm.Value) (st : Jvm.State) : (allAtoms ts).before a st = ts.all (fun c => c.before a st) := by
  induction ts with
  | nil => rfl
  | cons c t ih =>
    show (Jvm.Cond.and c (allAtoms t)).before a st = _
    rw [Jvm.Cond.before_and, ih, List.all_cons]
def words1 : List Jvm.Cond := Jvm.Cond.code x code maxLocals ret :: tables_1
/-- a 'code' word, met by the world's own term for the bytes: nothing is compared byte by byte -/
theorem code_word {y : MethodName} {bytes : ByteArray} {mx : Nat} {rt : Option FieldType} {a : Array Value} {s : State} {m : MethodId} {meth : Method} {c : Code} (h1 : s.methodNamed? y = some m) (h2 : s.vm.method? m = some meth) (h3 : meth.code = some c) (h4 : c.code = bytes)
    (h5 : (c.maxLocals == mx && c.exceptionTable.isEmpty && decide (c.maxStack ≤ mostOperands) && decide (meth.sig.returnType = rt) && !meth.locks && decide (parseMethodDescriptor y.desc = some meth.sig)) = true) : (Jvm.Cond.code y bytes mx rt).before a s = true := by
  simp only [Bool.and_eq_true, beq_iff_eq, Bool.not_eq_true', decide_eq_true_eq] at h5
  obtain ⟨⟨⟨⟨⟨g1, g2⟩, g3⟩, g4⟩, g5⟩, g6⟩ := h5
  simp [Cond.before, Cond.holds, Cond.value, h1, h2, h3, h4, g1, g2, g3, g4, g5, g6]
def isCode : Jvm.Cond → Bool
  | .code _ _ _ _ => true
  | _ => false
theorem all_split {L : List Jvm.Cond} {P : Jvm.Cond → Bool} (h1 : L.all (fun c => isCode c || P c) = true) (h2 : ∀ c ∈ L.filter isCode, P c = true) : L.all P = true := by
  refine List.all_eq_true.mpr fun c hc => ?_
  have h := List.all_eq_true.mp h1 c hc
  rcases Bool.eq_false_or_eq_true (isCode c) with hi | hi
  · exact h2 c (List.mem_filter.mpr ⟨hc, hi⟩)
  · simpa [hi] using h
set_option maxRecDepth 65536 in
theorem w_c0 : (Jvm.Cond.code x code maxLocals ret).before args0 about1 = true := code_word (m := ⟨1, 1⟩) (meth := k1m1) (c := k1c1) (by decide +kernel) rfl rfl rfl (by decide +kernel)
set_option maxRecDepth 65536 in
theorem w_c1 : (Jvm.Cond.code ({ cls := "com/example/covercull/covercull/Interactions", name := "contains", desc := "([II)Z" } : Jvm.MethodName) prog_19_method_7_code (6 : Nat) (Option.some Jvm.ClassFile.FieldType.boolean)).before args0 about1 = true := code_word (m := ⟨2, 0⟩) (meth := k2m0) (c := k2c0) (by decide +kernel) rfl rfl rfl (by decide +kernel)
def codes1 : List Jvm.Cond := [Jvm.Cond.code x code maxLocals ret, Jvm.Cond.code ({ cls := "com/example/covercull/covercull/Interactions", name := "contains", desc := "([II)Z" } : Jvm.MethodName) prog_19_method_7_code (6 : Nat) (Option.some Jvm.ClassFile.FieldType.boolean)]
set_option maxRecDepth 65536 in
theorem codes_eq : words1.filter isCode = codes1 := rfl
theorem w_codes : ∀ c ∈ words1.filter isCode, c.before args0 about1 = true := by
  rw [codes_eq]
  intro c hc
  simp only [codes1, List.mem_cons, List.not_mem_nil, or_false] at hc
  rcases hc with rfl | rfl
  · exact w_c0
  · exact w_c1
set_option maxRecDepth 65536 in
theorem w_t1 : words1.all (fun c => isCode c || c.before args0 about1) = true := by decide +kernel
theorem w_tables : (allAtoms (Jvm.Cond.code x code maxLocals ret :: tables_1)).before args0 about1 = true := by
  rw [allAtoms_all]
  show words1.all (fun c => c.before args0 about1) = true
  refine all_split ?_ w_codes
  rw [w_t1]
set_option maxRecDepth 65536 in
theorem w_case : (Jvm.Cond.and given_1 narrow_1).before args0 about1 = true := by decide +kernel
theorem w_applies : (headSpec (Jvm.Cond.code x code maxLocals ret :: tables_1) room_1).applies x e0.platform about1 = true :=
  (Spec.applies_iff w_frames).mpr ⟨w_running, w_runnable, w_alone, w_named, w_hears, w_ripe, w_room, w_tables⟩
theorem atStart : AtStart classFile x code maxLocals ret World_1 tables_1 room_1 Calls_1 rest_1 Pre_1 launch0 p0 e0 about1 theMethod args0 below0 :=
  ⟨lists_1, trivial, launch0.admits_env _ _ _, launch0.least_env, fairChoices_fair.cas, fairChoices_fair.clock, w_frames, w_args, w_heap, w_applies, trivial, trivial, w_case⟩
end start1
theorem witness_1 : WitnessClaimed_1 := ⟨start1.p0, start1.e0, start1.about1, start1.theMethod, start1.args0, start1.below0, start1.atStart⟩
end Jvm.Pilot.@@N@@
