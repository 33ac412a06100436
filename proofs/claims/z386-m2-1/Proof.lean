import JvmDerived
import JvmDerived.Pilot.@@N@@Statement
import JvmDerived.Pilot.@@N@@Code
set_option linter.unusedVariables false
set_option linter.unusedSimpArgs false
@@BLOCK:HandJ.lean.txt@@
@@BLOCK:HandW.lean.txt@@
@@BLOCK:HandBits.lean.txt@@
@@BLOCK:SymRun.lean.txt@@
@@BLOCK:RowBasics.lean.txt@@
@@BLOCK:Bridge.lean.txt@@
@@BLOCK:SymKit.lean.txt@@
@@BLOCK:NumsL.lean.txt@@
/-! own layer: a tree made short by what is known of its guards; needs paid one by one, each guard ahead of them being worth something -/
namespace Jvm.Pilot.@@N@@
open Jvm Jvm.ClassFile Sem Op Jvm.Sym Jvm.Pilot.@@N@@.Jvm.D
section OwnLayer
variable {A : Array Value} {s : State}
/-- an int constant, masked or not -/
def own_ci : Term → Option Int32
  | .int v => some v
  | .old t => own_ci t
  | .op2 o a b => match o, own_ci a, own_ci b with
    | .iand, some x, some y => some (x &&& y)
    | _, _, _ => none
  | _ => none
theorem own_ci_eval : ∀ (t : Term) (v : Int32), own_ci t = some v → t.eval A s none [] s = some (.int v) := by
  intro t
  induction t with
  | int n => intro v h; cases h; rfl
  | old t ih => intro v h; exact ih v h
  | op2 o a b iha ihb =>
    intro v h
    cases ha : own_ci a with
    | none => cases o <;> simp [own_ci, ha] at h
    | some p =>
      cases hb : own_ci b with
      | none => cases o <;> simp [own_ci, ha, hb] at h
      | some q =>
        cases o <;> simp [own_ci, ha, hb] at h
        subst h
        simp [Term.eval, iha p ha, ihb q hb, Binary.apply]
  | _ => intro v h; simp [own_ci] at h
/-- a guard over constants alone -/
def own_cg : Cond → Option Bool
  | .eq a b => match own_ci a, own_ci b with
    | some x, some y => some (decide (x = y))
    | _, _ => none
  | .lt a b => match own_ci a, own_ci b with
    | some x, some y => some (decide (x < y))
    | _, _ => none
  | .le a b => match own_ci a, own_ci b with
    | some x, some y => some (decide (x ≤ y))
    | _, _ => none
  | .not c => (own_cg c).map (!·)
  | _ => none
theorem own_cg_value : ∀ (G : Cond) (b : Bool), own_cg G = some b → G.value A s none s [] = some b := by
  intro G
  induction G with
  | eq x y =>
    intro b h
    cases hx : own_ci x with
    | none => simp [own_cg, hx] at h
    | some p =>
      cases hy : own_ci y with
      | none => simp [own_cg, hx, hy] at h
      | some q =>
        simp only [own_cg, hx, hy, Option.some.injEq] at h
        rw [← h]
        exact Cond.eq_ints (own_ci_eval x p hx) (own_ci_eval y q hy)
  | lt x y =>
    intro b h
    cases hx : own_ci x with
    | none => simp [own_cg, hx] at h
    | some p =>
      cases hy : own_ci y with
      | none => simp [own_cg, hx, hy] at h
      | some q =>
        simp only [own_cg, hx, hy, Option.some.injEq] at h
        rw [← h]
        exact Cond.lt_ints (own_ci_eval x p hx) (own_ci_eval y q hy)
  | le x y =>
    intro b h
    cases hx : own_ci x with
    | none => simp [own_cg, hx] at h
    | some p =>
      cases hy : own_ci y with
      | none => simp [own_cg, hx, hy] at h
      | some q =>
        simp only [own_cg, hx, hy, Option.some.injEq] at h
        rw [← h]
        exact Cond.le_ints (own_ci_eval x p hx) (own_ci_eval y q hy)
  | not c ih =>
    intro b h
    cases hc : own_cg c with
    | none => simp [own_cg, hc] at h
    | some g =>
      simp only [own_cg, hc, Option.map_some, Option.some.injEq] at h
      rw [← h]
      simp [Cond.value, ih g hc]
  | _ => intro b h; simp [own_cg] at h
def own_known (T F : List Cond) (G : Cond) : Option Bool := match own_cg G with
  | some b => some b
  | none => tv T F G
theorem own_known_value {T F : List Cond} (hT : ∀ c ∈ T, c.value A s none s [] = some true) (hF : ∀ c ∈ F, c.value A s none s [] = some false) {G : Cond} {b : Bool} (h : own_known T F G = some b) : G.value A s none s [] = some b := by
  unfold own_known at h
  cases hc : own_cg G with
  | none => rw [hc] at h; exact tv_sound hT hF G b h
  | some g => rw [hc] at h; cases h; exact own_cg_value G _ hc
def own_prune (T F : List Cond) : STree → STree
  | .ret v W => .ret v W
  | .cut σ => .cut σ
  | .fork G a b => match own_known T F G with
    | some true => own_prune T F a
    | some false => own_prune T F b
    | none => .fork G (own_prune (G :: T) F a) (own_prune T (G :: F) b)
theorem own_prune_value : ∀ (t : STree) (T F : List Cond), (∀ c ∈ T, c.value A s none s [] = some true) → (∀ c ∈ F, c.value A s none s [] = some false) → Kit.valueOf A s (own_prune T F t) = Kit.valueOf A s t
  | .ret _ _, _, _, _, _ => rfl
  | .cut _, _, _, _, _ => rfl
  | .fork G a b, T, F, hT, hF => by
    cases hk : own_known T F G with
    | some g =>
      have hg : G.value A s none s [] = some g := own_known_value hT hF hk
      cases g
      · simp only [own_prune, hk, Kit.valueOf, hg]; exact own_prune_value b T F hT hF
      · simp only [own_prune, hk, Kit.valueOf, hg]; exact own_prune_value a T F hT hF
    | none =>
      cases hg : G.value A s none s [] with
      | none => simp only [own_prune, hk, Kit.valueOf, hg]
      | some g =>
        cases g
        · simp only [own_prune, hk, Kit.valueOf, hg]
          exact own_prune_value b T (G :: F) hT (fun c hc => by rcases List.mem_cons.mp hc with rfl | hc; exact hg; exact hF c hc)
        · simp only [own_prune, hk, Kit.valueOf, hg]
          exact own_prune_value a (G :: T) F (fun c hc => by rcases List.mem_cons.mp hc with rfl | hc; exact hg; exact hT c hc) hF
/-- a guard that is worth something: by the sorts of its terms, or because you have shown it -/
def own_def (ks : List VKind) (Ds : List Cond) : Cond → Bool
  | .not c => own_def ks Ds c
  | G => decG6 ks [] G || Ds.contains G
theorem own_def_value {ks : List VKind} {Ds : List Cond} (hK : KindsOk ks A) (hD : ∀ G ∈ Ds, ∃ b, G.value A s none s [] = some b) : ∀ G : Cond, own_def ks Ds G = true → ∃ b, G.value A s none s [] = some b := by
  have base : ∀ G : Cond, (decG6 ks [] G || Ds.contains G) = true → ∃ b, G.value A s none s [] = some b := by
    intro G h
    rcases Bool.or_eq_true_iff.mp h with h | h
    · exact decG6_value hK (fun q hq => by cases hq) G h
    · exact hD G (List.contains_iff_mem.mp h)
  intro G
  induction G with
  | not c ih =>
    intro h
    obtain ⟨b, hb⟩ := ih h
    exact ⟨!b, by simp [Cond.value, hb]⟩
  | _ => intro h; exact base _ h
def own_pay (ks : List VKind) (T Ds : List Cond) : Cond → Bool
  | .tt => true
  | .and a c => own_pay ks T Ds a && own_pay ks T Ds c
  | .or G c => own_def ks Ds G && own_pay ks T Ds c
  | q => T.contains q || fineN6 ks [] q
theorem own_pay_value {ks : List VKind} {T Ds : List Cond} (hK : KindsOk ks A) (hT : ∀ c ∈ T, c.value A s none s [] = some true) (hD : ∀ G ∈ Ds, ∃ b, G.value A s none s [] = some b) : ∀ q : Cond, own_pay ks T Ds q = true → q.value A s none s [] = some true := by
  have base : ∀ q : Cond, (T.contains q || fineN6 ks [] q) = true → q.value A s none s [] = some true := by
    intro q h
    rcases Bool.or_eq_true_iff.mp h with h | h
    · exact hT q (List.contains_iff_mem.mp h)
    · exact fineN6_holds hK (fun q hq => by cases hq) q h
  intro q
  induction q with
  | tt => intro _; rfl
  | and a c iha ihc =>
    intro h
    obtain ⟨h1, h2⟩ := Bool.and_eq_true_iff.mp h
    simp [Cond.value, iha h1, ihc h2]
  | or G c _ ih =>
    intro h
    obtain ⟨h1, h2⟩ := Bool.and_eq_true_iff.mp h
    obtain ⟨b, hb⟩ := own_def_value hK hD G h1
    cases b <;> simp [Cond.value, hb, ih h2]
  | _ => intro h; exact base _ h
theorem own_needs {ks : List VKind} {T Ds L : List Cond} (hK : KindsOk ks A) (hT : ∀ c ∈ T, c.value A s none s [] = some true) (hD : ∀ G ∈ Ds, ∃ b, G.value A s none s [] = some b) (h : L.all (own_pay ks T Ds) = true) : ∀ q ∈ L, q.before A s = true :=
  fun q hq => before_of_value (own_pay_value hK hT hD q (List.all_eq_true.mp h q hq))
theorem own_t {G : Cond} {q : Prop} [Decidable q] (h : G.value A s none s [] = some (decide q)) (hq : q) : G.value A s none s [] = some true := by rw [h, decide_eq_true hq]
theorem own_n {G : Cond} {q : Prop} [Decidable q] (h : G.value A s none s [] = some (decide q)) (hq : ¬ q) : G.value A s none s [] = some false := by rw [h, decide_eq_false hq]
theorem own_all0 {P : Cond → Prop} : ∀ c ∈ ([] : List Cond), P c := fun _ h => nomatch h
theorem own_allS {P : Cond → Prop} {c : Cond} {L : List Cond} (h : P c) (hL : ∀ q ∈ L, P q) : ∀ q ∈ c :: L, P q := fun q hq => by
  rcases List.mem_cons.mp hq with rfl | hq
  · exact h
  · exact hL q hq
/-- what the model's lcmp pushes -/
def own_lc (x y : Int64) : Int32 := if x > y then 1 else if x == y then 0 else -1
theorem own_lc0 (x y : Int64) : own_lc x y = 0 ↔ x = y := by
  unfold own_lc
  by_cases h : x > y
  · rw [if_pos h]
    constructor
    · intro q; exact absurd q (by decide)
    · intro q; subst q; exact absurd h Int64.lt_irrefl
  · rw [if_neg h]
    by_cases q : x = y
    · simp [q]
    · simp [q]
theorem own_lcle (x y : Int64) : own_lc x y ≤ 0 ↔ x ≤ y := by
  unfold own_lc
  by_cases h : x > y
  · rw [if_pos h]
    constructor
    · intro q; exact absurd q (by decide)
    · intro q; exact absurd h (Int64.not_lt.mpr q)
  · rw [if_neg h]
    by_cases q : x = y
    · subst q
      simp only [beq_self_eq_true, if_true]
      exact ⟨fun _ => Int64.le_refl _, fun _ => by decide⟩
    · have e : (x == y) = false := by simpa using q
      rw [e]
      exact ⟨fun _ => Int64.not_lt.mp h, fun _ => by decide⟩
end OwnLayer
end Jvm.Pilot.@@N@@
namespace Jvm.Pilot.@@N@@
open Jvm Jvm.ClassFile Sem Op Jvm.Sym Jvm.Pilot.@@N@@.Jvm.D
/-! 1. the callees -/
def y : MethodName := ⟨"com/example/antecede/antecede/log/Lines", "endsLine", "(C)Z"⟩
def ycode : ByteArray := prog_54_method_2_code
def yI : Info := { own := "com/example/antecede/antecede/log/Lines", ret := some .boolean, longs := [] }
def yout : Option (Cond × List Cond × List Cond) := walk yI ycode 200 (entry [.int] 1)
theorem ywalks : yout.isSome = true := by decide +kernel
def ygot : Cond × List Cond × List Cond := yout.get ywalks
def yspec : Spec := specOf y ycode 1 (some .boolean) [.int] ygot.1 ygot.2.1 ygot.2.2
theorem ymeets (l : Launch) : MeetsLoose l y yspec :=
  walk_meets (n := 200) (I := yI) (by decide) rfl rfl (show walk yI ycode 200 (entry [.int] 1) = some (ygot.1, ygot.2.1, ygot.2.2) from (Option.some_get ywalks).symm)
theorem ycold : yspec.Cold := Spec.cold_of_keeps (by decide +kernel)
def ycallee : Callee := { y := y, S := yspec, bytes := ycode, maxL := 1, ret := some .boolean, static := true, params := 1, res := some .int }
def z : MethodName := ⟨"com/example/antecede/antecede/log/LinesEndsLinePinLaw", "reference", "(I)Z"⟩
def zcode : ByteArray := method_2_code
def zI : Info := { own := "com/example/antecede/antecede/log/LinesEndsLinePinLaw", ret := some .boolean, longs := [] }
def zout : Option (Cond × List Cond × List Cond) := walk zI zcode 200 (entry [.int] 1)
theorem zwalks : zout.isSome = true := by decide +kernel
def zgot : Cond × List Cond × List Cond := zout.get zwalks
def zspec : Spec := specOf z zcode 1 (some .boolean) [.int] zgot.1 zgot.2.1 zgot.2.2
theorem zmeets (l : Launch) : MeetsLoose l z zspec :=
  walk_meets (n := 200) (I := zI) (by decide) rfl rfl (show walk zI zcode 200 (entry [.int] 1) = some (zgot.1, zgot.2.1, zgot.2.2) from (Option.some_get zwalks).symm)
theorem zcold : zspec.Cold := Spec.cold_of_keeps (by decide +kernel)
def zcallee : Callee := { y := z, S := zspec, bytes := zcode, maxL := 1, ret := some .boolean, static := true, params := 1, res := some .int }
/-! 2. the law's own walk -/
def I : Info := { own := x.cls, ret := ret, ints := [(7, 65535)], longs := [], calls := [(8, ycallee), (14, zcallee)], maxLocals := maxLocals, room := room_1 }
theorem callsOk (l : Launch) : CallsOk l I maxLocals room_1 := fun q hq => by
  have hq' : q = (8, ycallee) ∨ q = (14, zcallee) := by simpa [I] using hq
  rcases hq' with rfl | rfl
  · exact ⟨rfl, rfl, ymeets l, ycold⟩
  · exact ⟨rfl, rfl, zmeets l, zcold⟩
def w := walkTo I code [] 400 true (entry [.int] maxLocals)
theorem w_some : w.isSome = true := by decide +kernel
theorem entry_walk : walkTo I code [] 400 true (entry [.int] maxLocals) = some ((w.get w_some).1, (w.get w_some).2.1, (w.get w_some).2.2) := (Option.some_get w_some).symm
/-! 3. the plain law -/
def own_c (p : Int32) : Int32 := p &&& 65535
def own_d (p : Int32) : Int32 := (own_c p).toUInt32.toUInt16.toUInt32.toInt32
theorem own_cI (p : Int32) : 0 ≤ (own_c p).toInt ∧ (own_c p).toInt < 65536 := by
  have e := Jvm.Kit.i32_mask p 65535 (k := 16) (by decide) (by decide)
  unfold own_c
  omega
theorem own_dc (p : Int32) : own_d p = own_c p := by
  apply Int32.toBitVec_inj.mp
  apply BitVec.eq_of_toNat_eq
  have h : (own_c p).toBitVec.toNat = p.toBitVec.toNat % 65536 := by
    show (p.toBitVec &&& 65535#32).toNat = _
    rw [BitVec.toNat_and]
    exact Nat.and_two_pow_sub_one_eq_mod p.toBitVec.toNat 16
  show (((own_c p).toBitVec.setWidth 16).setWidth 32).toNat = (own_c p).toBitVec.toNat
  rw [BitVec.toNat_setWidth, BitVec.toNat_setWidth, h]
  omega
def tC : Term := .op2 .iand (.arg 0) (.int 65535)
def tD : Term := .op1 .i2c tC
def e10 : Cond := .eq (.old tD) (.old (.int 10))
theorem e10_value (p : Int32) (s : State) : e10.value #[.int p] s none s [] = some (decide (own_d p = 10)) := Cond.eq_ints rfl rfl
def e13 : Cond := .eq (.old tD) (.old (.int 13))
theorem e13_value (p : Int32) (s : State) : e13.value #[.int p] s none s [] = some (decide (own_d p = 13)) := Cond.eq_ints rfl rfl
def e133 : Cond := .eq (.old tD) (.old (.int 133))
theorem e133_value (p : Int32) (s : State) : e133.value #[.int p] s none s [] = some (decide (own_d p = 133)) := Cond.eq_ints rfl rfl
def e8232 : Cond := .eq (.old tD) (.old (.int 8232))
theorem e8232_value (p : Int32) (s : State) : e8232.value #[.int p] s none s [] = some (decide (own_d p = 8232)) := Cond.eq_ints rfl rfl
def e8233 : Cond := .eq (.old tD) (.old (.int 8233))
theorem e8233_value (p : Int32) (s : State) : e8233.value #[.int p] s none s [] = some (decide (own_d p = 8233)) := Cond.eq_ints rfl rfl
def f10 : Cond := .eq (.old tC) (.old (.int 10))
theorem f10_value (p : Int32) (s : State) : f10.value #[.int p] s none s [] = some (decide (own_c p = 10)) := Cond.eq_ints rfl rfl
def f13 : Cond := .eq (.old tC) (.old (.int 13))
theorem f13_value (p : Int32) (s : State) : f13.value #[.int p] s none s [] = some (decide (own_c p = 13)) := Cond.eq_ints rfl rfl
def f133 : Cond := .eq (.old tC) (.old (.int 133))
theorem f133_value (p : Int32) (s : State) : f133.value #[.int p] s none s [] = some (decide (own_c p = 133)) := Cond.eq_ints rfl rfl
def l128 : Cond := .le (.old (.int 128)) (.old tC)
theorem l128_value (p : Int32) (s : State) : l128.value #[.int p] s none s [] = some (decide ((128 : Int32) ≤ own_c p)) := Cond.le_ints rfl rfl
def l256 : Cond := .le (.old (.int 256)) (.old tC)
theorem l256_value (p : Int32) (s : State) : l256.value #[.int p] s none s [] = some (decide ((256 : Int32) ≤ own_c p)) := Cond.le_ints rfl rfl
def b8232 : Cond := .lt (.old tC) (.old (.int 8232))
theorem b8232_value (p : Int32) (s : State) : b8232.value #[.int p] s none s [] = some (decide (own_c p < 8232)) := Cond.lt_ints rfl rfl
def a8233 : Cond := .lt (.old (.int 8233)) (.old tC)
theorem a8233_value (p : Int32) (s : State) : a8233.value #[.int p] s none s [] = some (decide ((8233 : Int32) < own_c p)) := Cond.lt_ints rfl rfl
def R1 : STree := .ret (some ⟨.op2 .iand (.int 1) (.int 1), .int⟩) []
theorem value_eq (p : Int32) (s : State) : Kit.valueOf #[.int p] s (w.get w_some).1 = some (.int 1) := by
  have hdc := own_dc p
  have hI := own_cI p
  by_cases h10 : own_c p = 10
  · have hd10 : own_d p = 10 := hdc.trans h10
    rw [← own_prune_value (w.get w_some).1 [e10, f10, b8232] [e13, e133, e8232, e8233, f13, f133, l128, l256, a8233] (own_allS (own_t (e10_value p s) (by rw [hd10] <;> decide)) (own_allS (own_t (f10_value p s) (by rw [h10] <;> decide)) (own_allS (own_t (b8232_value p s) (by rw [h10] <;> decide)) own_all0))) (own_allS (own_n (e13_value p s) (by rw [hd10] <;> decide)) (own_allS (own_n (e133_value p s) (by rw [hd10] <;> decide)) (own_allS (own_n (e8232_value p s) (by rw [hd10] <;> decide)) (own_allS (own_n (e8233_value p s) (by rw [hd10] <;> decide)) (own_allS (own_n (f13_value p s) (by rw [h10] <;> decide)) (own_allS (own_n (f133_value p s) (by rw [h10] <;> decide)) (own_allS (own_n (l128_value p s) (by rw [h10] <;> decide)) (own_allS (own_n (l256_value p s) (by rw [h10] <;> decide)) (own_allS (own_n (a8233_value p s) (by rw [h10] <;> decide)) own_all0))))))))),
      show own_prune [e10, f10, b8232] [e13, e133, e8232, e8233, f13, f133, l128, l256, a8233] (w.get w_some).1 = R1 by decide +kernel]
    rfl
  · by_cases h13 : own_c p = 13
    · have hd13 : own_d p = 13 := hdc.trans h13
      rw [← own_prune_value (w.get w_some).1 [e13, f13, b8232] [e10, e133, e8232, e8233, f10, f133, l128, l256, a8233] (own_allS (own_t (e13_value p s) (by rw [hd13] <;> decide)) (own_allS (own_t (f13_value p s) (by rw [h13] <;> decide)) (own_allS (own_t (b8232_value p s) (by rw [h13] <;> decide)) own_all0))) (own_allS (own_n (e10_value p s) (by rw [hd13] <;> decide)) (own_allS (own_n (e133_value p s) (by rw [hd13] <;> decide)) (own_allS (own_n (e8232_value p s) (by rw [hd13] <;> decide)) (own_allS (own_n (e8233_value p s) (by rw [hd13] <;> decide)) (own_allS (own_n (f10_value p s) (by rw [h13] <;> decide)) (own_allS (own_n (f133_value p s) (by rw [h13] <;> decide)) (own_allS (own_n (l128_value p s) (by rw [h13] <;> decide)) (own_allS (own_n (l256_value p s) (by rw [h13] <;> decide)) (own_allS (own_n (a8233_value p s) (by rw [h13] <;> decide)) own_all0))))))))),
        show own_prune [e13, f13, b8232] [e10, e133, e8232, e8233, f10, f133, l128, l256, a8233] (w.get w_some).1 = R1 by decide +kernel]
      rfl
    · by_cases h133 : own_c p = 133
      · have hd133 : own_d p = 133 := hdc.trans h133
        rw [← own_prune_value (w.get w_some).1 [e133, f133, l128, b8232] [e10, e13, e8232, e8233, f10, f13, l256, a8233] (own_allS (own_t (e133_value p s) (by rw [hd133] <;> decide)) (own_allS (own_t (f133_value p s) (by rw [h133] <;> decide)) (own_allS (own_t (l128_value p s) (by rw [h133] <;> decide)) (own_allS (own_t (b8232_value p s) (by rw [h133] <;> decide)) own_all0)))) (own_allS (own_n (e10_value p s) (by rw [hd133] <;> decide)) (own_allS (own_n (e13_value p s) (by rw [hd133] <;> decide)) (own_allS (own_n (e8232_value p s) (by rw [hd133] <;> decide)) (own_allS (own_n (e8233_value p s) (by rw [hd133] <;> decide)) (own_allS (own_n (f10_value p s) (by rw [h133] <;> decide)) (own_allS (own_n (f13_value p s) (by rw [h133] <;> decide)) (own_allS (own_n (l256_value p s) (by rw [h133] <;> decide)) (own_allS (own_n (a8233_value p s) (by rw [h133] <;> decide)) own_all0)))))))),
          show own_prune [e133, f133, l128, b8232] [e10, e13, e8232, e8233, f10, f13, l256, a8233] (w.get w_some).1 = R1 by decide +kernel]
        rfl
      · by_cases h8232 : own_c p = 8232
        · have hd8232 : own_d p = 8232 := hdc.trans h8232
          rw [← own_prune_value (w.get w_some).1 [e8232, l128, l256] [e10, e13, e133, e8233, f10, f13, f133, b8232, a8233] (own_allS (own_t (e8232_value p s) (by rw [hd8232] <;> decide)) (own_allS (own_t (l128_value p s) (by rw [h8232] <;> decide)) (own_allS (own_t (l256_value p s) (by rw [h8232] <;> decide)) own_all0))) (own_allS (own_n (e10_value p s) (by rw [hd8232] <;> decide)) (own_allS (own_n (e13_value p s) (by rw [hd8232] <;> decide)) (own_allS (own_n (e133_value p s) (by rw [hd8232] <;> decide)) (own_allS (own_n (e8233_value p s) (by rw [hd8232] <;> decide)) (own_allS (own_n (f10_value p s) (by rw [h8232] <;> decide)) (own_allS (own_n (f13_value p s) (by rw [h8232] <;> decide)) (own_allS (own_n (f133_value p s) (by rw [h8232] <;> decide)) (own_allS (own_n (b8232_value p s) (by rw [h8232] <;> decide)) (own_allS (own_n (a8233_value p s) (by rw [h8232] <;> decide)) own_all0))))))))),
            show own_prune [e8232, l128, l256] [e10, e13, e133, e8233, f10, f13, f133, b8232, a8233] (w.get w_some).1 = R1 by decide +kernel]
          rfl
        · by_cases h8233 : own_c p = 8233
          · have hd8233 : own_d p = 8233 := hdc.trans h8233
            rw [← own_prune_value (w.get w_some).1 [e8233, l128, l256] [e10, e13, e133, e8232, f10, f13, f133, b8232, a8233] (own_allS (own_t (e8233_value p s) (by rw [hd8233] <;> decide)) (own_allS (own_t (l128_value p s) (by rw [h8233] <;> decide)) (own_allS (own_t (l256_value p s) (by rw [h8233] <;> decide)) own_all0))) (own_allS (own_n (e10_value p s) (by rw [hd8233] <;> decide)) (own_allS (own_n (e13_value p s) (by rw [hd8233] <;> decide)) (own_allS (own_n (e133_value p s) (by rw [hd8233] <;> decide)) (own_allS (own_n (e8232_value p s) (by rw [hd8233] <;> decide)) (own_allS (own_n (f10_value p s) (by rw [h8233] <;> decide)) (own_allS (own_n (f13_value p s) (by rw [h8233] <;> decide)) (own_allS (own_n (f133_value p s) (by rw [h8233] <;> decide)) (own_allS (own_n (b8232_value p s) (by rw [h8233] <;> decide)) (own_allS (own_n (a8233_value p s) (by rw [h8233] <;> decide)) own_all0))))))))),
              show own_prune [e8233, l128, l256] [e10, e13, e133, e8232, f10, f13, f133, b8232, a8233] (w.get w_some).1 = R1 by decide +kernel]
            rfl
          · have q : ∀ k : Int32, own_c p = k ↔ (own_c p).toInt = k.toInt := fun k => Int32.toInt_inj.symm
            have k0 : (128 : Int32).toInt = 128 := rfl
            have k1 : (256 : Int32).toInt = 256 := rfl
            have k2 : (8232 : Int32).toInt = 8232 := rfl
            have k3 : (8233 : Int32).toInt = 8233 := rfl
            rw [q, k2] at h8232
            rw [q, k3] at h8233
            have d10 : ¬ own_d p = 10 := fun h => h10 (hdc.symm.trans h)
            have d13 : ¬ own_d p = 13 := fun h => h13 (hdc.symm.trans h)
            have d133 : ¬ own_d p = 133 := fun h => h133 (hdc.symm.trans h)
            have d8232 : ¬ own_d p = 8232 := fun h => h8232 (by rw [← hdc, h]; rfl)
            have d8233 : ¬ own_d p = 8233 := fun h => h8233 (by rw [← hdc, h]; rfl)
            by_cases c1 : (own_c p).toInt < 128
            · rw [← own_prune_value (w.get w_some).1 [b8232] [e10, e13, e133, e8232, e8233, f10, f13, f133, l128, l256, a8233] (own_allS (own_t (b8232_value p s) (by rw [Int32.lt_iff_toInt_lt]; omega)) own_all0) (own_allS (own_n (e10_value p s) d10) (own_allS (own_n (e13_value p s) d13) (own_allS (own_n (e133_value p s) d133) (own_allS (own_n (e8232_value p s) d8232) (own_allS (own_n (e8233_value p s) d8233) (own_allS (own_n (f10_value p s) h10) (own_allS (own_n (f13_value p s) h13) (own_allS (own_n (f133_value p s) h133) (own_allS (own_n (l128_value p s) (by rw [Int32.le_iff_toInt_le]; omega)) (own_allS (own_n (l256_value p s) (by rw [Int32.le_iff_toInt_le]; omega)) (own_allS (own_n (a8233_value p s) (by rw [Int32.lt_iff_toInt_lt]; omega)) own_all0))))))))))),
                show own_prune [b8232] [e10, e13, e133, e8232, e8233, f10, f13, f133, l128, l256, a8233] (w.get w_some).1 = R1 by decide +kernel]
              rfl
            · by_cases c2 : (own_c p).toInt < 256
              · rw [← own_prune_value (w.get w_some).1 [l128, b8232] [e10, e13, e133, e8232, e8233, f10, f13, f133, l256, a8233] (own_allS (own_t (l128_value p s) (by rw [Int32.le_iff_toInt_le]; omega)) (own_allS (own_t (b8232_value p s) (by rw [Int32.lt_iff_toInt_lt]; omega)) own_all0)) (own_allS (own_n (e10_value p s) d10) (own_allS (own_n (e13_value p s) d13) (own_allS (own_n (e133_value p s) d133) (own_allS (own_n (e8232_value p s) d8232) (own_allS (own_n (e8233_value p s) d8233) (own_allS (own_n (f10_value p s) h10) (own_allS (own_n (f13_value p s) h13) (own_allS (own_n (f133_value p s) h133) (own_allS (own_n (l256_value p s) (by rw [Int32.le_iff_toInt_le]; omega)) (own_allS (own_n (a8233_value p s) (by rw [Int32.lt_iff_toInt_lt]; omega)) own_all0)))))))))),
                  show own_prune [l128, b8232] [e10, e13, e133, e8232, e8233, f10, f13, f133, l256, a8233] (w.get w_some).1 = R1 by decide +kernel]
                rfl
              · by_cases c3 : (own_c p).toInt < 8232
                · rw [← own_prune_value (w.get w_some).1 [l128, l256, b8232] [e10, e13, e133, e8232, e8233, f10, f13, f133, a8233] (own_allS (own_t (l128_value p s) (by rw [Int32.le_iff_toInt_le]; omega)) (own_allS (own_t (l256_value p s) (by rw [Int32.le_iff_toInt_le]; omega)) (own_allS (own_t (b8232_value p s) (by rw [Int32.lt_iff_toInt_lt]; omega)) own_all0))) (own_allS (own_n (e10_value p s) d10) (own_allS (own_n (e13_value p s) d13) (own_allS (own_n (e133_value p s) d133) (own_allS (own_n (e8232_value p s) d8232) (own_allS (own_n (e8233_value p s) d8233) (own_allS (own_n (f10_value p s) h10) (own_allS (own_n (f13_value p s) h13) (own_allS (own_n (f133_value p s) h133) (own_allS (own_n (a8233_value p s) (by rw [Int32.lt_iff_toInt_lt]; omega)) own_all0))))))))),
                    show own_prune [l128, l256, b8232] [e10, e13, e133, e8232, e8233, f10, f13, f133, a8233] (w.get w_some).1 = R1 by decide +kernel]
                  rfl
                · rw [← own_prune_value (w.get w_some).1 [l128, l256, a8233] [e10, e13, e133, e8232, e8233, f10, f13, f133, b8232] (own_allS (own_t (l128_value p s) (by rw [Int32.le_iff_toInt_le]; omega)) (own_allS (own_t (l256_value p s) (by rw [Int32.le_iff_toInt_le]; omega)) (own_allS (own_t (a8233_value p s) (by rw [Int32.lt_iff_toInt_lt]; omega)) own_all0))) (own_allS (own_n (e10_value p s) d10) (own_allS (own_n (e13_value p s) d13) (own_allS (own_n (e133_value p s) d133) (own_allS (own_n (e8232_value p s) d8232) (own_allS (own_n (e8233_value p s) d8233) (own_allS (own_n (f10_value p s) h10) (own_allS (own_n (f13_value p s) h13) (own_allS (own_n (f133_value p s) h133) (own_allS (own_n (b8232_value p s) (by rw [Int32.lt_iff_toInt_lt]; omega)) own_all0))))))))),
                    show own_prune [l128, l256, a8233] [e10, e13, e133, e8232, e8233, f10, f13, f133, b8232] (w.get w_some).1 = R1 by decide +kernel]
                  rfl
theorem sorts_ok {p : Int32} {s : State} : ∀ q ∈ Sym.sorts 0 [.int], q.before #[.int p] s = true := by
  intro q hq
  simp only [Sym.sorts, List.mem_cons, List.not_mem_nil, or_false] at hq
  rcases hq with rfl <;> simp [isK, Cond.before, Cond.holds, Cond.value, Term.eval]
theorem kinds_ok {p : Int32} : KindsOk [.int] #[.int p] := by
  intro v kd h
  match v, h with
  | 0, h => cases h; exact ⟨.int p, rfl, rfl⟩
  | (n + 1), h => simp at h
def post_1 : Cond := .and limb_1_1 limb_1_2
theorem met_1 (l : Launch) : MeetsLoose l x (armSpec x code maxLocals ret tables_1 room_1 .tt (.and given_1 narrow_1) post_1 frame_1_writes frame_1_arrays frame_1_statics) := by
  refine loops_meets (I := I) (ks0 := [.int]) (cuts := []) (by decide) rfl rfl rfl rfl rfl (fun args s h => ?_) entry_walk (fun _ => none) (fun _ _ _ _ _ => False) (fun _ _ _ => 0) (fun args s h => ?_) (fun args s _ h ks hks => by cases hks) (callsOk l)
  · simp only [armSpec, allAtoms, List.foldr_cons, Cond.before_and, Bool.and_eq_true] at h; exact h.1.1
  · have hts : (allAtoms (Cond.code x code maxLocals ret :: tables_1)).before args s = true := by simp only [armSpec, Cond.before_and, Bool.and_eq_true] at h; exact h.1
    have hK : (Cond.and .tt (.and given_1 narrow_1)).before args s = true := by simp only [armSpec, Cond.before_and, Bool.and_eq_true] at h ⊢; exact h.2
    simp only [armSpec, given_1, Cond.before_and, Bool.and_eq_true] at h
    obtain ⟨-, -, ⟨hc, h0⟩, hn⟩ := h
    obtain ⟨p, rfl⟩ := Cond.one_int hc h0
    have hT := known3 (Gt := []) hts hK (own_all0)
    refine ⟨rfl, sorts_ok, tabs_of_sub hts (by decide +kernel), own_needs (Ds := []) kinds_ok hT (own_all0) (by decide +kernel), Kit.vc_of_value (w₀ := .int 1) (fun E => ?_) (w.get w_some).1 (by decide +kernel) (value_eq p s)⟩
    simp [armSpec, post_1, limb_1_1, limb_1_2, Cond.after, Cond.holds, Cond.value, Term.eval]
theorem wide {limb : Cond} (h0 : ∀ args s o t, post_1.after args s o t = true → limb.after args s o t = true) :
    ArmFor flags0 classFile x code maxLocals ret World_1 tables_1 room_1 Calls_1 rest_1 Pre_1 (fun tb e a s o t => postC limb tb e a s o t ∧ Framed s o t (fieldLocs frame_1_writes a s ++ arrayLocs frame_1_arrays a s ++ staticLocs frame_1_statics s) 0 0) := by
  intro l hfl hL hW p e ha hc hk s m args below hf hA hF happ hP
  obtain ⟨n, o, h1, h2, h3, hq⟩ := armFor_of_meets0 (fun l => (met_1 l).meets) h0 l hfl hL hW p e ha hc hk s m args below hf hA hF happ hP
  exact ⟨n, o, h1, h2, h3, hq.1, hq.2.1, hq.2.2.1, hq.2.2.2.mono (by decide) (by decide)⟩
theorem main_1_1 : Claimed_1_1 := wide fun _ _ _ _ h => by simp only [post_1, Cond.after_and, Bool.and_eq_true] at h; exact h.1
theorem main_1_2 : Claimed_1_2 := wide fun _ _ _ _ h => by simp only [post_1, Cond.after_and, Bool.and_eq_true] at h; exact h.2
end Jvm.Pilot.@@N@@
namespace Jvm.Pilot.@@N@@
open Jvm Jvm.ClassFile Sem Op Lib Jvm.Free Jvm.Stand Jvm.Pilot.@@N@@.Jvm.D
/-! MADE BY PROGRAM (witnessworld.py) out of the Statement's table words and the real class files: 9 classes; the members and pool entries that the words name. The judged class is class 1, her method 2. -/
namespace start1
open Jvm.ClassFile
def u (s : String) : CpInfo := .utf8 (stringToUtf16 s)
/-- a pool by its gaps: so many unusable entries, then the entry; so many at the end -/
def gap : Nat → List CpInfo → List CpInfo
  | 0, r => r
  | n + 1, r => .unusable :: gap n r
def poolList (es : List (Nat × CpInfo)) (last : Nat) : List CpInfo := es.foldr (fun e r => gap e.1 (e.2 :: r)) (gap last [])
def pool (es : List (Nat × CpInfo)) (last : Nat) : Array CpInfo := ⟨poolList es last⟩
def fileOf (pool : Array CpInfo) (this : Nat) (attrs : Array Attribute := #[]) (ms : Array MethodInfo := #[]) (fl : Nat := 33) (sup : Nat := 0) (ifs : Array Nat := #[]) (fds : Array FieldInfo := #[]) : ClassFile where
  minorVersion := 0
  majorVersion := 65
  constantPool := pool
  accessFlags := fl
  thisClass := this
  superClass := sup
  interfaces := ifs
  fields := fds
  methods := ms
  attributes := attrs
def plain (name : String) (sup : Option ClassId) : Class where
  name := name
  kind := .ordinary
  loader := none
  accessFlags := 33
  super := sup
  interfaces := #[]
  cf := none
  fields := #[]
  methods := #[]
  instanceTypes := #[]
  staticTypes := #[]
  resolved := #[]
  callSites := []
  init := .initialized
  statics := none
  mirror := none

def pool0 : Array CpInfo := pool [(5, u "<init>"), (0, u "()V"), (1, .class_ 10), (1, u "java/lang/Object")] 113

def k0m0 : Method := { name := "<init>", desc := "()V", sig := { parameters := [], returnType := none }, accessFlags := 1, code := none }
/-- java/lang/Object -/
def k0 : Class := { plain "java/lang/Object" none with
  accessFlags := 33
  interfaces := #[]
  cf := some (fileOf pool0 8 #[] #[{ accessFlags := 1, nameIndex := 5, descriptorIndex := 6, attributes := #[] }] 33 0 #[] #[])
  fields := #[]
  methods := #[k0m0]
  instanceTypes := #[]
  staticTypes := #[]
  resolved := Array.replicate 124 none
  statics := none }

def pool1 : Array CpInfo := pool [(2, .class_ 4), (1, u "java/lang/Object"), (0, u "<init>"), (0, u "()V"), (0, .integer 65535), (0, .methodref 9 10), (0, .class_ 11), (0, .nameAndType 12 13), (0, u "com/example/antecede/antecede/log/Lines"), (0, u "endsLine"), (0, u "(C)Z"), (0, .methodref 15 16), (0, .class_ 17), (0, .nameAndType 18 19), (0, u "com/example/antecede/antecede/log/LinesEndsLinePinLaw"), (0, u "reference"), (0, u "(I)Z"), (3, u "law")] 2

def k1m0 : Method := { name := "<init>", desc := "()V", sig := { parameters := [], returnType := none }, accessFlags := 2, code := none }
def k1c1 : Code := { maxStack := 2, maxLocals := 1, code := method_2_code, exceptionTable := #[], attributes := #[] }
def k1m1 : Method := { name := "reference", desc := "(I)Z", sig := { parameters := [.int], returnType := some .boolean }, accessFlags := 10, code := some k1c1 }
def k1c2 : Code := { maxStack := 2, maxLocals := 3, code := code, exceptionTable := #[], attributes := #[] }
def k1m2 : Method := { name := "law", desc := "(I)Z", sig := { parameters := [.int], returnType := some .boolean }, accessFlags := 9, code := some k1c2 }
/-- com/example/antecede/antecede/log/LinesEndsLinePinLaw -/
def k1 : Class := { plain "com/example/antecede/antecede/log/LinesEndsLinePinLaw" (some 0) with
  accessFlags := 49
  interfaces := #[]
  cf := some (fileOf pool1 15 #[] #[{ accessFlags := 2, nameIndex := 5, descriptorIndex := 6, attributes := #[] }, { accessFlags := 10, nameIndex := 18, descriptorIndex := 19, attributes := #[] }, { accessFlags := 9, nameIndex := 23, descriptorIndex := 19, attributes := #[] }] 49 2 #[] #[])
  fields := #[]
  methods := #[k1m0, k1m1, k1m2]
  instanceTypes := #[]
  staticTypes := #[]
  resolved := Array.replicate 26 none
  statics := none }

def pool2 : Array CpInfo := pool [(2, .class_ 4), (1, u "java/lang/Object"), (0, u "<init>"), (0, u "()V"), (7, .class_ 16), (1, u "com/example/antecede/antecede/log/Lines"), (0, u "endsLine"), (0, u "(C)Z")] 11

def k2m0 : Method := { name := "<init>", desc := "()V", sig := { parameters := [], returnType := none }, accessFlags := 2, code := none }
def k2c1 : Code := { maxStack := 2, maxLocals := 1, code := prog_54_method_2_code, exceptionTable := #[], attributes := #[] }
def k2m1 : Method := { name := "endsLine", desc := "(C)Z", sig := { parameters := [.char], returnType := some .boolean }, accessFlags := 8, code := some k2c1 }
/-- com/example/antecede/antecede/log/Lines -/
def k2 : Class := { plain "com/example/antecede/antecede/log/Lines" (some 0) with
  accessFlags := 48
  interfaces := #[]
  cf := some (fileOf pool2 14 #[] #[{ accessFlags := 2, nameIndex := 5, descriptorIndex := 6, attributes := #[] }, { accessFlags := 8, nameIndex := 17, descriptorIndex := 18, attributes := #[] }] 48 2 #[] #[])
  fields := #[]
  methods := #[k2m0, k2m1]
  instanceTypes := #[]
  staticTypes := #[]
  resolved := Array.replicate 30 none
  statics := none }

def pool3 : Array CpInfo := pool [(1, u "java/lang/Cloneable"), (0, .class_ 1), (0, u "java/lang/Object"), (0, .class_ 3)] 3

/-- java/lang/Cloneable -/
def k3 : Class := { plain "java/lang/Cloneable" (some 0) with
  accessFlags := 1537
  interfaces := #[]
  cf := some (fileOf pool3 2 #[] #[] 1537 4 #[] #[])
  fields := #[]
  methods := #[]
  instanceTypes := #[]
  staticTypes := #[]
  resolved := Array.replicate 8 none
  statics := none }

def pool4 : Array CpInfo := pool [(1, u "java/io/Serializable"), (0, .class_ 1), (0, u "java/lang/Object"), (0, .class_ 3)] 3

/-- java/io/Serializable -/
def k4 : Class := { plain "java/io/Serializable" (some 0) with
  accessFlags := 1537
  interfaces := #[]
  cf := some (fileOf pool4 2 #[] #[] 1537 4 #[] #[])
  fields := #[]
  methods := #[]
  instanceTypes := #[]
  staticTypes := #[]
  resolved := Array.replicate 8 none
  statics := none }

/-- the primitive byte -/
def k5 : Class := { plain "byte" none with kind := .primitive 'B', accessFlags := 0x411 }
/-- [B -/
def k6 : Class := { plain "[B" (some 0) with kind := .array 5 .byte, interfaces := #[3, 4], accessFlags := 1041 }

/-- the primitive int -/
def k7 : Class := { plain "int" none with kind := .primitive 'I', accessFlags := 0x411 }
/-- [I -/
def k8 : Class := { plain "[I" (some 0) with kind := .array 7 .int, interfaces := #[3, 4], accessFlags := 1041 }

def heap : Heap := #[]
def classes : Array Class := #[k0, k1, k2, k3, k4, k5, k6, k7, k8]
def interned : List (Array UInt16 × Addr) := []
def slotsUsed : Nat := 0
def theMethod : MethodId := ⟨1, 2⟩
def args0 : Array Value := #[.int 5]
def aboutOver (below : List Frame) : State where
  vm := { classes := classes, interned := interned.toArray }
  heap := heap
  slotsUsed := slotsUsed
  threads := #[{ frames := .invoking theMethod args0 :: below }]
def below0 : List Frame := [.native { method := ⟨0, 0⟩, args := #[] }]
def about1 : State := aboutOver below0
def p0 : Program := .bare "" "" ""
def e0 : Env := launch0.env 0 0 0
theorem w_frames : about1.frames = Frame.invoking theMethod args0 :: below0 := rfl
set_option maxRecDepth 65536 in
theorem w_args : argsFit about1.vm theMethod args0 = true := by decide +kernel
set_option maxRecDepth 65536 in
theorem w_heap : heapFits about1 = true := by decide +kernel
set_option maxRecDepth 65536 in
theorem w_runnable : about1.curStatus? = some .runnable := by decide +kernel
set_option maxRecDepth 65536 in
theorem w_alone : about1.alone = true := by decide +kernel
set_option maxRecDepth 65536 in
theorem w_named : about1.methodNamed? x = some theMethod := by decide +kernel
set_option maxRecDepth 65536 in
theorem w_hears : about1.hears theMethod below0 = true := by decide +kernel
set_option maxRecDepth 65536 in
theorem w_ripe : about1.ripe theMethod args0 below0 = true := by decide +kernel
theorem w_running : about1.status = .running := rfl
set_option maxRecDepth 65536 in
theorem w_room : about1.hasRoom e0.platform room_1 = true :=
  launch0.hasRoom_least _ room_1 (by decide +kernel) (by decide +kernel) (by decide +kernel) (by decide +kernel) (by decide +kernel) (by decide +kernel)
theorem allAtoms_all (ts : List Jvm.Cond) (a : Array Jvm.Value) (st : Jvm.State) : (allAtoms ts).before a st = ts.all (fun c => c.before a st) := by
  induction ts with
  | nil => rfl
  | cons c t ih =>
    show (Jvm.Cond.and c (allAtoms t)).before a st = _
    rw [Jvm.Cond.before_and, ih, List.all_cons]
def words1 : List Jvm.Cond := Jvm.Cond.code x code maxLocals ret :: tables_1
/-- a 'code' word, met by the world's own term for the bytes: nothing is compared byte by byte -/
theorem code_word {y : MethodName} {bytes : ByteArray} {mx : Nat} {rt : Option FieldType} {a : Array Value} {s : State} {m : MethodId} {meth : Method} {c : Code} (h1 : s.methodNamed? y = some m) (h2 : s.vm.method? m = some meth) (h3 : meth.code = some c) (h4 : c.code = bytes)
    (h5 : (c.maxLocals == mx && c.exceptionTable.isEmpty && decide (c.maxStack ≤ mostOperands) && decide (meth.sig.returnType = rt) && !meth.locks && decide (parseMethodDescriptor y.desc = some meth.sig)) = true) : (Jvm.Cond.code y bytes mx rt).before a s = true := by
  simp only [Bool.and_eq_true, beq_iff_eq, Bool.not_eq_true', decide_eq_true_eq] at h5
  obtain ⟨⟨⟨⟨⟨g1, g2⟩, g3⟩, g4⟩, g5⟩, g6⟩ := h5
  simp [Cond.before, Cond.holds, Cond.value, h1, h2, h3, h4, g1, g2, g3, g4, g5, g6]
def isCode : Jvm.Cond → Bool
  | .code _ _ _ _ => true
  | _ => false
theorem all_split {L : List Jvm.Cond} {P : Jvm.Cond → Bool} (h1 : L.all (fun c => isCode c || P c) = true) (h2 : ∀ c ∈ L.filter isCode, P c = true) : L.all P = true := by
  refine List.all_eq_true.mpr fun c hc => ?_
  have h := List.all_eq_true.mp h1 c hc
  rcases Bool.eq_false_or_eq_true (isCode c) with hi | hi
  · exact h2 c (List.mem_filter.mpr ⟨hc, hi⟩)
  · simpa [hi] using h
set_option maxRecDepth 65536 in
theorem w_c0 : (Jvm.Cond.code x code maxLocals ret).before args0 about1 = true := code_word (m := ⟨1, 2⟩) (meth := k1m2) (c := k1c2) (by decide +kernel) rfl rfl rfl (by decide +kernel)
set_option maxRecDepth 65536 in
theorem w_c1 : (Jvm.Cond.code ({ cls := "com/example/antecede/antecede/log/Lines", name := "endsLine", desc := "(C)Z" } : Jvm.MethodName) prog_54_method_2_code (1 : Nat) (Option.some Jvm.ClassFile.FieldType.boolean)).before args0 about1 = true := code_word (m := ⟨2, 1⟩) (meth := k2m1) (c := k2c1) (by decide +kernel) rfl rfl rfl (by decide +kernel)
set_option maxRecDepth 65536 in
theorem w_c2 : (Jvm.Cond.code ({ cls := "com/example/antecede/antecede/log/LinesEndsLinePinLaw", name := "reference", desc := "(I)Z" } : Jvm.MethodName) method_2_code (1 : Nat) (Option.some Jvm.ClassFile.FieldType.boolean)).before args0 about1 = true := code_word (m := ⟨1, 1⟩) (meth := k1m1) (c := k1c1) (by decide +kernel) rfl rfl rfl (by decide +kernel)
def codes1 : List Jvm.Cond := [Jvm.Cond.code x code maxLocals ret, Jvm.Cond.code ({ cls := "com/example/antecede/antecede/log/Lines", name := "endsLine", desc := "(C)Z" } : Jvm.MethodName) prog_54_method_2_code (1 : Nat) (Option.some Jvm.ClassFile.FieldType.boolean), Jvm.Cond.code ({ cls := "com/example/antecede/antecede/log/LinesEndsLinePinLaw", name := "reference", desc := "(I)Z" } : Jvm.MethodName) method_2_code (1 : Nat) (Option.some Jvm.ClassFile.FieldType.boolean)]
set_option maxRecDepth 65536 in
theorem codes_eq : words1.filter isCode = codes1 := rfl
theorem w_codes : ∀ c ∈ words1.filter isCode, c.before args0 about1 = true := by
  rw [codes_eq]
  intro c hc
  simp only [codes1, List.mem_cons, List.not_mem_nil, or_false] at hc
  rcases hc with rfl | rfl | rfl
  · exact w_c0
  · exact w_c1
  · exact w_c2
set_option maxRecDepth 65536 in
theorem w_t1 : words1.all (fun c => isCode c || c.before args0 about1) = true := by decide +kernel
theorem w_tables : (allAtoms (Jvm.Cond.code x code maxLocals ret :: tables_1)).before args0 about1 = true := by
  rw [allAtoms_all]
  show words1.all (fun c => c.before args0 about1) = true
  refine all_split ?_ w_codes
  rw [w_t1]
set_option maxRecDepth 65536 in
theorem w_case : (Jvm.Cond.and given_1 narrow_1).before args0 about1 = true := by decide +kernel
theorem w_applies : (headSpec (Jvm.Cond.code x code maxLocals ret :: tables_1) room_1).applies x e0.platform about1 = true :=
  (Spec.applies_iff w_frames).mpr ⟨w_running, w_runnable, w_alone, w_named, w_hears, w_ripe, w_room, w_tables⟩
theorem atStart : AtStart classFile x code maxLocals ret World_1 tables_1 room_1 Calls_1 rest_1 Pre_1 launch0 p0 e0 about1 theMethod args0 below0 :=
  ⟨lists_1, trivial, launch0.admits_env _ _ _, launch0.least_env, fairChoices_fair.cas, fairChoices_fair.clock, w_frames, w_args, w_heap, w_applies, trivial, trivial, w_case⟩
end start1
theorem witness_1 : WitnessClaimed_1 := ⟨start1.p0, start1.e0, start1.about1, start1.theMethod, start1.args0, start1.below0, start1.atStart⟩
end Jvm.Pilot.@@N@@
