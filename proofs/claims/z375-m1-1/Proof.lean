import JvmDerived
import JvmDerived.Pilot.@@N@@Statement
import JvmDerived.Pilot.@@N@@Code
set_option linter.unusedVariables false
set_option linter.unusedSimpArgs false
@@BLOCK:HandJ.lean.txt@@
@@BLOCK:HandW.lean.txt@@
@@BLOCK:HandBits.lean.txt@@
@@BLOCK:SymRun.lean.txt@@
@@BLOCK:RowBasics.lean.txt@@
@@BLOCK:Bridge.lean.txt@@
@@BLOCK:SymKit.lean.txt@@
@@BLOCK:NumsL.lean.txt@@
/-! own layer: a tree made short by what is known of its guards; needs paid one by one, each guard ahead of them being worth something -/
namespace Jvm.Pilot.@@N@@
open Jvm Jvm.ClassFile Sem Op Jvm.Sym Jvm.Pilot.@@N@@.Jvm.D
section OwnLayer
variable {A : Array Value} {s : State}
/-- an int constant, masked or not -/
def own_ci : Term → Option Int32
  | .int v => some v
  | .old t => own_ci t
  | .op2 o a b => match o, own_ci a, own_ci b with
    | .iand, some x, some y => some (x &&& y)
    | _, _, _ => none
  | _ => none
theorem own_ci_eval : ∀ (t : Term) (v : Int32), own_ci t = some v → t.eval A s none [] s = some (.int v) := by
  intro t
  induction t with
  | int n => intro v h; cases h; rfl
  | old t ih => intro v h; exact ih v h
  | op2 o a b iha ihb =>
    intro v h
    cases ha : own_ci a with
    | none => cases o <;> simp [own_ci, ha] at h
    | some p =>
      cases hb : own_ci b with
      | none => cases o <;> simp [own_ci, ha, hb] at h
      | some q =>
        cases o <;> simp [own_ci, ha, hb] at h
        subst h
        simp [Term.eval, iha p ha, ihb q hb, Binary.apply]
  | _ => intro v h; simp [own_ci] at h
/-- a guard over constants alone -/
def own_cg : Cond → Option Bool
  | .eq a b => match own_ci a, own_ci b with
    | some x, some y => some (decide (x = y))
    | _, _ => none
  | .lt a b => match own_ci a, own_ci b with
    | some x, some y => some (decide (x < y))
    | _, _ => none
  | .le a b => match own_ci a, own_ci b with
    | some x, some y => some (decide (x ≤ y))
    | _, _ => none
  | .not c => (own_cg c).map (!·)
  | _ => none
theorem own_cg_value : ∀ (G : Cond) (b : Bool), own_cg G = some b → G.value A s none s [] = some b := by
  intro G
  induction G with
  | eq x y =>
    intro b h
    cases hx : own_ci x with
    | none => simp [own_cg, hx] at h
    | some p =>
      cases hy : own_ci y with
      | none => simp [own_cg, hx, hy] at h
      | some q =>
        simp only [own_cg, hx, hy, Option.some.injEq] at h
        rw [← h]
        exact Cond.eq_ints (own_ci_eval x p hx) (own_ci_eval y q hy)
  | lt x y =>
    intro b h
    cases hx : own_ci x with
    | none => simp [own_cg, hx] at h
    | some p =>
      cases hy : own_ci y with
      | none => simp [own_cg, hx, hy] at h
      | some q =>
        simp only [own_cg, hx, hy, Option.some.injEq] at h
        rw [← h]
        exact Cond.lt_ints (own_ci_eval x p hx) (own_ci_eval y q hy)
  | le x y =>
    intro b h
    cases hx : own_ci x with
    | none => simp [own_cg, hx] at h
    | some p =>
      cases hy : own_ci y with
      | none => simp [own_cg, hx, hy] at h
      | some q =>
        simp only [own_cg, hx, hy, Option.some.injEq] at h
        rw [← h]
        exact Cond.le_ints (own_ci_eval x p hx) (own_ci_eval y q hy)
  | not c ih =>
    intro b h
    cases hc : own_cg c with
    | none => simp [own_cg, hc] at h
    | some g =>
      simp only [own_cg, hc, Option.map_some, Option.some.injEq] at h
      rw [← h]
      simp [Cond.value, ih g hc]
  | _ => intro b h; simp [own_cg] at h
def own_known (T F : List Cond) (G : Cond) : Option Bool := match own_cg G with
  | some b => some b
  | none => tv T F G
theorem own_known_value {T F : List Cond} (hT : ∀ c ∈ T, c.value A s none s [] = some true) (hF : ∀ c ∈ F, c.value A s none s [] = some false) {G : Cond} {b : Bool} (h : own_known T F G = some b) : G.value A s none s [] = some b := by
  unfold own_known at h
  cases hc : own_cg G with
  | none => rw [hc] at h; exact tv_sound hT hF G b h
  | some g => rw [hc] at h; cases h; exact own_cg_value G _ hc
def own_prune (T F : List Cond) : STree → STree
  | .ret v W => .ret v W
  | .cut σ => .cut σ
  | .fork G a b => match own_known T F G with
    | some true => own_prune T F a
    | some false => own_prune T F b
    | none => .fork G (own_prune (G :: T) F a) (own_prune T (G :: F) b)
theorem own_prune_value : ∀ (t : STree) (T F : List Cond), (∀ c ∈ T, c.value A s none s [] = some true) → (∀ c ∈ F, c.value A s none s [] = some false) → Kit.valueOf A s (own_prune T F t) = Kit.valueOf A s t
  | .ret _ _, _, _, _, _ => rfl
  | .cut _, _, _, _, _ => rfl
  | .fork G a b, T, F, hT, hF => by
    cases hk : own_known T F G with
    | some g =>
      have hg : G.value A s none s [] = some g := own_known_value hT hF hk
      cases g
      · simp only [own_prune, hk, Kit.valueOf, hg]; exact own_prune_value b T F hT hF
      · simp only [own_prune, hk, Kit.valueOf, hg]; exact own_prune_value a T F hT hF
    | none =>
      cases hg : G.value A s none s [] with
      | none => simp only [own_prune, hk, Kit.valueOf, hg]
      | some g =>
        cases g
        · simp only [own_prune, hk, Kit.valueOf, hg]
          exact own_prune_value b T (G :: F) hT (fun c hc => by rcases List.mem_cons.mp hc with rfl | hc; exact hg; exact hF c hc)
        · simp only [own_prune, hk, Kit.valueOf, hg]
          exact own_prune_value a (G :: T) F (fun c hc => by rcases List.mem_cons.mp hc with rfl | hc; exact hg; exact hT c hc) hF
/-- a guard that is worth something: by the sorts of its terms, or because you have shown it -/
def own_def (ks : List VKind) (Ds : List Cond) : Cond → Bool
  | .not c => own_def ks Ds c
  | G => decG6 ks [] G || Ds.contains G
theorem own_def_value {ks : List VKind} {Ds : List Cond} (hK : KindsOk ks A) (hD : ∀ G ∈ Ds, ∃ b, G.value A s none s [] = some b) : ∀ G : Cond, own_def ks Ds G = true → ∃ b, G.value A s none s [] = some b := by
  have base : ∀ G : Cond, (decG6 ks [] G || Ds.contains G) = true → ∃ b, G.value A s none s [] = some b := by
    intro G h
    rcases Bool.or_eq_true_iff.mp h with h | h
    · exact decG6_value hK (fun q hq => by cases hq) G h
    · exact hD G (List.contains_iff_mem.mp h)
  intro G
  induction G with
  | not c ih =>
    intro h
    obtain ⟨b, hb⟩ := ih h
    exact ⟨!b, by simp [Cond.value, hb]⟩
  | _ => intro h; exact base _ h
def own_pay (ks : List VKind) (T Ds : List Cond) : Cond → Bool
  | .tt => true
  | .and a c => own_pay ks T Ds a && own_pay ks T Ds c
  | .or G c => own_def ks Ds G && own_pay ks T Ds c
  | q => T.contains q || fineN6 ks [] q
theorem own_pay_value {ks : List VKind} {T Ds : List Cond} (hK : KindsOk ks A) (hT : ∀ c ∈ T, c.value A s none s [] = some true) (hD : ∀ G ∈ Ds, ∃ b, G.value A s none s [] = some b) : ∀ q : Cond, own_pay ks T Ds q = true → q.value A s none s [] = some true := by
  have base : ∀ q : Cond, (T.contains q || fineN6 ks [] q) = true → q.value A s none s [] = some true := by
    intro q h
    rcases Bool.or_eq_true_iff.mp h with h | h
    · exact hT q (List.contains_iff_mem.mp h)
    · exact fineN6_holds hK (fun q hq => by cases hq) q h
  intro q
  induction q with
  | tt => intro _; rfl
  | and a c iha ihc =>
    intro h
    obtain ⟨h1, h2⟩ := Bool.and_eq_true_iff.mp h
    simp [Cond.value, iha h1, ihc h2]
  | or G c _ ih =>
    intro h
    obtain ⟨h1, h2⟩ := Bool.and_eq_true_iff.mp h
    obtain ⟨b, hb⟩ := own_def_value hK hD G h1
    cases b <;> simp [Cond.value, hb, ih h2]
  | _ => intro h; exact base _ h
theorem own_needs {ks : List VKind} {T Ds L : List Cond} (hK : KindsOk ks A) (hT : ∀ c ∈ T, c.value A s none s [] = some true) (hD : ∀ G ∈ Ds, ∃ b, G.value A s none s [] = some b) (h : L.all (own_pay ks T Ds) = true) : ∀ q ∈ L, q.before A s = true :=
  fun q hq => before_of_value (own_pay_value hK hT hD q (List.all_eq_true.mp h q hq))
theorem own_t {G : Cond} {q : Prop} [Decidable q] (h : G.value A s none s [] = some (decide q)) (hq : q) : G.value A s none s [] = some true := by rw [h, decide_eq_true hq]
theorem own_n {G : Cond} {q : Prop} [Decidable q] (h : G.value A s none s [] = some (decide q)) (hq : ¬ q) : G.value A s none s [] = some false := by rw [h, decide_eq_false hq]
theorem own_all0 {P : Cond → Prop} : ∀ c ∈ ([] : List Cond), P c := fun _ h => nomatch h
theorem own_allS {P : Cond → Prop} {c : Cond} {L : List Cond} (h : P c) (hL : ∀ q ∈ L, P q) : ∀ q ∈ c :: L, P q := fun q hq => by
  rcases List.mem_cons.mp hq with rfl | hq
  · exact h
  · exact hL q hq
/-- what the model's lcmp pushes -/
def own_lc (x y : Int64) : Int32 := if x > y then 1 else if x == y then 0 else -1
theorem own_lc0 (x y : Int64) : own_lc x y = 0 ↔ x = y := by
  unfold own_lc
  by_cases h : x > y
  · rw [if_pos h]
    constructor
    · intro q; exact absurd q (by decide)
    · intro q; subst q; exact absurd h Int64.lt_irrefl
  · rw [if_neg h]
    by_cases q : x = y
    · simp [q]
    · simp [q]
theorem own_lcle (x y : Int64) : own_lc x y ≤ 0 ↔ x ≤ y := by
  unfold own_lc
  by_cases h : x > y
  · rw [if_pos h]
    constructor
    · intro q; exact absurd q (by decide)
    · intro q; exact absurd h (Int64.not_lt.mpr q)
  · rw [if_neg h]
    by_cases q : x = y
    · subst q
      simp only [beq_self_eq_true, if_true]
      exact ⟨fun _ => Int64.le_refl _, fun _ => by decide⟩
    · have e : (x == y) = false := by simpa using q
      rw [e]
      exact ⟨fun _ => Int64.not_lt.mp h, fun _ => by decide⟩
end OwnLayer
end Jvm.Pilot.@@N@@
namespace Jvm.Pilot.@@N@@
open Jvm Jvm.ClassFile Sem Op Jvm.Sym Jvm.Pilot.@@N@@.Jvm.D
/-! 1. the callees -/
def y : MethodName := ⟨"com/example/lease/lease/lock/Leases", "driftMillis", "(J)J"⟩
def ycode : ByteArray := prog_2_method_2_code
def yI : Info := { own := "com/example/lease/lease/lock/Leases", ret := some .long, longs := [(22, 99), (24, 100), (26, 2)] }
def yout : Option (Cond × List Cond × List Cond) := walk yI ycode 200 (entry [.long] 2)
theorem ywalks : yout.isSome = true := by decide +kernel
def ygot : Cond × List Cond × List Cond := yout.get ywalks
def yspec : Spec := specOf y ycode 2 (some .long) [.long] ygot.1 ygot.2.1 ygot.2.2
theorem ymeets (l : Launch) : MeetsLoose l y yspec :=
  walk_meets (n := 200) (I := yI) (by decide) rfl rfl (show walk yI ycode 200 (entry [.long] 2) = some (ygot.1, ygot.2.1, ygot.2.2) from (Option.some_get ywalks).symm)
theorem ycold : yspec.Cold := Spec.cold_of_keeps (by decide +kernel)
def ycallee : Callee := { y := y, S := yspec, bytes := ycode, maxL := 2, ret := some .long, static := true, params := 1, res := some .long }
/-! 2. the law's own walk -/
def I : Info := { own := x.cls, ret := ret, ints := [], longs := [(9, 9223372036854775807), (11, 9223372036854775708), (19, 100), (21, 2)], calls := [(13, ycallee)], maxLocals := maxLocals, room := room_1 }
theorem callsOk (l : Launch) : CallsOk l I maxLocals room_1 := fun q hq => by
  have hq' : q = (13, ycallee) := by simpa [I] using hq
  obtain rfl := hq'
  exact ⟨rfl, rfl, ymeets l, ycold⟩
def w := walkTo I code [] 400 true (entry [.long] maxLocals)
theorem w_some : w.isSome = true := by decide +kernel
theorem entry_walk : walkTo I code [] 400 true (entry [.long] maxLocals) = some ((w.get w_some).1, (w.get w_some).2.1, (w.get w_some).2.2) := (Option.some_get w_some).symm
/-! 3. the plain law -/
def own_l (p : Int64) : Int64 := p &&& 9223372036854775807
def own_d (p : Int64) : Int64 := (own_l p + 99) / 100 + 2
def own_q (p : Int64) : Int64 := own_l p / 100
def own_r (p : Int64) : Int64 := own_l p - (own_l p / 100) * 100
theorem own_lI (p : Int64) : 0 ≤ (own_l p).toInt ∧ (own_l p).toInt < 2 ^ 63 := by
  have e := Jvm.Kit.i64_mask p 9223372036854775807 (k := 63) (by decide) (by decide)
  unfold own_l
  omega
theorem own_dI (p : Int64) (h : (own_l p).toInt ≤ 9223372036854775708) : (own_d p).toInt = ((own_l p).toInt + 99) / 100 + 2 := by
  have hl := own_lI p
  have h99 : (99 : Int64).toInt = 99 := rfl
  have h100 : (100 : Int64).toInt = 100 := rfl
  have h2 : (2 : Int64).toInt = 2 := rfl
  have e1 : (own_l p + 99).toInt = (own_l p).toInt + 99 := by rw [Jvm.Kit.i64_add (by omega) (by omega), h99]
  have e2 : ((own_l p + 99) / 100).toInt = ((own_l p).toInt + 99) / 100 := by
    rw [Jvm.Kit.i64_div (by omega), h100, e1, Int.tdiv_eq_ediv_of_nonneg (by omega)]
  unfold own_d
  rw [Jvm.Kit.i64_add (by omega) (by omega), e2, h2]
theorem own_qI (p : Int64) : (own_q p).toInt = (own_l p).toInt / 100 := by
  have hl := own_lI p
  have h100 : (100 : Int64).toInt = 100 := rfl
  unfold own_q
  rw [Jvm.Kit.i64_div (by omega), h100, Int.tdiv_eq_ediv_of_nonneg hl.1]
theorem own_rI (p : Int64) : (own_r p).toInt = (own_l p).toInt % 100 := by
  have h100 : (100 : Int64).toInt = 100 := rfl
  have r := Jvm.Kit.i64_rem_nonneg (x := own_l p) (y := 100) (own_lI p).1
  rw [h100] at r
  exact r
theorem own_even (p : Int64) (h : (own_l p).toInt ≤ 9223372036854775708) (hr : own_r p = 0) : own_d p = own_q p + 2 := by
  have hl := own_lI p
  have h2 : (2 : Int64).toInt = 2 := rfl
  have z : (0 : Int64).toInt = 0 := rfl
  have q := own_qI p
  have r := own_rI p
  rw [hr, z] at r
  apply Int64.toInt_inj.mp
  rw [own_dI p h, Jvm.Kit.i64_add (by omega) (by omega), h2, q]
  omega
theorem own_odd (p : Int64) (h : (own_l p).toInt ≤ 9223372036854775708) (hr : ¬ own_r p = 0) : own_d p = own_q p + 1 + 2 := by
  have hl := own_lI p
  have h1 : (1 : Int64).toInt = 1 := rfl
  have h2 : (2 : Int64).toInt = 2 := rfl
  have z : (0 : Int64).toInt = 0 := rfl
  have q := own_qI p
  have r := own_rI p
  have hr' : (own_r p).toInt ≠ 0 := fun e => hr (Int64.toInt_inj.mp (e.trans z.symm))
  have e1 : (own_q p + 1).toInt = (own_q p).toInt + 1 := by rw [Jvm.Kit.i64_add (by omega) (by omega), h1]
  apply Int64.toInt_inj.mp
  rw [own_dI p h, Jvm.Kit.i64_add (by omega) (by omega), h2, e1, q]
  omega
def tL : Term := .op2 .land (.arg 0) (.long 9223372036854775807)
def tD0 : Term := .op2 .ldiv (.op2 .ladd tL (.long 99)) (.long 100)
def tD : Term := .op2 .ladd tD0 (.long 2)
def tQ : Term := .op2 .ldiv tL (.long 100)
def tM : Term := .op2 .lrem tL (.long 100)
def g1 : Cond := .le (.old (.op2 .lcmp tL (.long 9223372036854775708))) (.int 0)
def g2 : Cond := .eq (.old (.op2 .lcmp tM (.long 0))) (.int 0)
def g3 : Cond := .eq (.old (.op2 .lcmp tD (.op2 .ladd (.op2 .ladd tQ (.long 1)) (.long 2)))) (.int 0)
def g4 : Cond := .eq (.old (.op2 .lcmp tD (.op2 .ladd tQ (.long 2)))) (.int 0)
theorem g1_value (p : Int64) (s : State) : g1.value #[.long p] s none s [] = some (decide (own_lc (own_l p) 9223372036854775708 ≤ 0)) := Cond.le_ints rfl rfl
theorem g2_value (p : Int64) (s : State) : g2.value #[.long p] s none s [] = some (decide (own_lc (own_r p) 0 = 0)) := Cond.eq_ints rfl rfl
theorem g3_value (p : Int64) (s : State) : g3.value #[.long p] s none s [] = some (decide (own_lc (own_d p) (own_q p + 1 + 2) = 0)) := Cond.eq_ints rfl rfl
theorem g4_value (p : Int64) (s : State) : g4.value #[.long p] s none s [] = some (decide (own_lc (own_d p) (own_q p + 2) = 0)) := Cond.eq_ints rfl rfl
def R1 : STree := .ret (some ⟨.op2 .iand (.int 1) (.int 1), .int⟩) []
theorem value_eq (p : Int64) (s : State) : Kit.valueOf #[.long p] s (w.get w_some).1 = some (.int 1) := by
  by_cases h1 : own_l p ≤ 9223372036854775708
  · have hb : (own_l p).toInt ≤ 9223372036854775708 := Int64.le_iff_toInt_le.mp h1
    by_cases h2 : own_r p = 0
    · rw [← own_prune_value (w.get w_some).1 [g1, g2, g4] [] (own_allS (own_t (g1_value p s) ((own_lcle _ _).mpr h1)) (own_allS (own_t (g2_value p s) ((own_lc0 _ _).mpr h2)) (own_allS (own_t (g4_value p s) ((own_lc0 _ _).mpr (own_even p hb h2))) own_all0))) own_all0,
        show own_prune [g1, g2, g4] [] (w.get w_some).1 = R1 by decide +kernel]
      rfl
    · rw [← own_prune_value (w.get w_some).1 [g1, g3] [g2] (own_allS (own_t (g1_value p s) ((own_lcle _ _).mpr h1)) (own_allS (own_t (g3_value p s) ((own_lc0 _ _).mpr (own_odd p hb h2))) own_all0)) (own_allS (own_n (g2_value p s) (fun h => h2 ((own_lc0 _ _).mp h))) own_all0),
        show own_prune [g1, g3] [g2] (w.get w_some).1 = R1 by decide +kernel]
      rfl
  · rw [← own_prune_value (w.get w_some).1 [] [g1] own_all0 (own_allS (own_n (g1_value p s) (fun h => h1 ((own_lcle _ _).mp h))) own_all0),
      show own_prune [] [g1] (w.get w_some).1 = R1 by decide +kernel]
    rfl
theorem sorts_ok {p : Int64} {s : State} : ∀ q ∈ Sym.sorts 0 [.long], q.before #[.long p] s = true := by
  intro q hq
  simp only [Sym.sorts, List.mem_cons, List.not_mem_nil, or_false] at hq
  rcases hq with rfl <;> simp [isK, Cond.before, Cond.holds, Cond.value, Term.eval]
theorem kinds_ok {p : Int64} : KindsOk [.long] #[.long p] := by
  intro v kd h
  match v, h with
  | 0, h => cases h; exact ⟨.long p, rfl, rfl⟩
  | (n + 1), h => simp at h
def post_1 : Cond := .and limb_1_1 limb_1_2
theorem met_1 (l : Launch) : MeetsLoose l x (armSpec x code maxLocals ret tables_1 room_1 .tt (.and given_1 narrow_1) post_1 frame_1_writes frame_1_arrays frame_1_statics) := by
  refine loops_meets (I := I) (ks0 := [.long]) (cuts := []) (by decide) rfl rfl rfl rfl rfl (fun args s h => ?_) entry_walk (fun _ => none) (fun _ _ _ _ _ => False) (fun _ _ _ => 0) (fun args s h => ?_) (fun args s _ h ks hks => by cases hks) (callsOk l)
  · simp only [armSpec, allAtoms, List.foldr_cons, Cond.before_and, Bool.and_eq_true] at h; exact h.1.1
  · have hts : (allAtoms (Cond.code x code maxLocals ret :: tables_1)).before args s = true := by simp only [armSpec, Cond.before_and, Bool.and_eq_true] at h; exact h.1
    have hK : (Cond.and .tt (.and given_1 narrow_1)).before args s = true := by simp only [armSpec, Cond.before_and, Bool.and_eq_true] at h ⊢; exact h.2
    simp only [armSpec, given_1, Cond.before_and, Bool.and_eq_true] at h
    obtain ⟨-, -, ⟨hc, h0⟩, hn⟩ := h
    obtain ⟨p, rfl⟩ := Jvm.Lib.MathLoose.one_long hc h0
    have hT := known3 (Gt := [.isLong tD0, .isLong tD, .isLong tQ, .isLong tM]) hts hK (own_allS rfl (own_allS rfl (own_allS rfl (own_allS rfl own_all0))))
    refine ⟨rfl, sorts_ok, tabs_of_sub hts (by decide +kernel), own_needs (Ds := [g1]) kinds_ok hT (own_allS ⟨_, g1_value p s⟩ own_all0) (by decide +kernel), Kit.vc_of_value (w₀ := .int 1) (fun E => ?_) (w.get w_some).1 (by decide +kernel) (value_eq p s)⟩
    simp [armSpec, post_1, limb_1_1, limb_1_2, Cond.after, Cond.holds, Cond.value, Term.eval]
theorem wide {limb : Cond} (h0 : ∀ args s o t, post_1.after args s o t = true → limb.after args s o t = true) :
    ArmFor flags0 classFile x code maxLocals ret World_1 tables_1 room_1 Calls_1 rest_1 Pre_1 (fun tb e a s o t => postC limb tb e a s o t ∧ Framed s o t (fieldLocs frame_1_writes a s ++ arrayLocs frame_1_arrays a s ++ staticLocs frame_1_statics s) 0 0) := by
  intro l hfl hL hW p e ha hc hk s m args below hf hA hF happ hP
  obtain ⟨n, o, h1, h2, h3, hq⟩ := armFor_of_meets0 (fun l => (met_1 l).meets) h0 l hfl hL hW p e ha hc hk s m args below hf hA hF happ hP
  exact ⟨n, o, h1, h2, h3, hq.1, hq.2.1, hq.2.2.1, hq.2.2.2.mono (by decide) (by decide)⟩
theorem main_1_1 : Claimed_1_1 := wide fun _ _ _ _ h => by simp only [post_1, Cond.after_and, Bool.and_eq_true] at h; exact h.1
theorem main_1_2 : Claimed_1_2 := wide fun _ _ _ _ h => by simp only [post_1, Cond.after_and, Bool.and_eq_true] at h; exact h.2
end Jvm.Pilot.@@N@@
namespace Jvm.Pilot.@@N@@
open Jvm Jvm.ClassFile Sem Op Lib Jvm.Free Jvm.Stand Jvm.Pilot.@@N@@.Jvm.D
/-! MADE BY PROGRAM (witnessworld.py) out of the Statement's table words and the real class files: 9 classes; the members and pool entries that the words name. The judged class is class 1, her method 1. -/
namespace start1
open Jvm.ClassFile
def u (s : String) : CpInfo := .utf8 (stringToUtf16 s)
/-- a pool by its gaps: so many unusable entries, then the entry; so many at the end -/
def gap : Nat → List CpInfo → List CpInfo
  | 0, r => r
  | n + 1, r => .unusable :: gap n r
def poolList (es : List (Nat × CpInfo)) (last : Nat) : List CpInfo := es.foldr (fun e r => gap e.1 (e.2 :: r)) (gap last [])
def pool (es : List (Nat × CpInfo)) (last : Nat) : Array CpInfo := ⟨poolList es last⟩
def fileOf (pool : Array CpInfo) (this : Nat) (attrs : Array Attribute := #[]) (ms : Array MethodInfo := #[]) (fl : Nat := 33) (sup : Nat := 0) (ifs : Array Nat := #[]) (fds : Array FieldInfo := #[]) : ClassFile where
  minorVersion := 0
  majorVersion := 65
  constantPool := pool
  accessFlags := fl
  thisClass := this
  superClass := sup
  interfaces := ifs
  fields := fds
  methods := ms
  attributes := attrs
def plain (name : String) (sup : Option ClassId) : Class where
  name := name
  kind := .ordinary
  loader := none
  accessFlags := 33
  super := sup
  interfaces := #[]
  cf := none
  fields := #[]
  methods := #[]
  instanceTypes := #[]
  staticTypes := #[]
  resolved := #[]
  callSites := []
  init := .initialized
  statics := none
  mirror := none

def pool0 : Array CpInfo := pool [(5, u "<init>"), (0, u "()V"), (1, .class_ 10), (1, u "java/lang/Object")] 113

def k0m0 : Method := { name := "<init>", desc := "()V", sig := { parameters := [], returnType := none }, accessFlags := 1, code := none }
/-- java/lang/Object -/
def k0 : Class := { plain "java/lang/Object" none with
  accessFlags := 33
  interfaces := #[]
  cf := some (fileOf pool0 8 #[] #[{ accessFlags := 1, nameIndex := 5, descriptorIndex := 6, attributes := #[] }] 33 0 #[] #[])
  fields := #[]
  methods := #[k0m0]
  instanceTypes := #[]
  staticTypes := #[]
  resolved := Array.replicate 124 none
  statics := none }

def pool1 : Array CpInfo := pool [(2, .class_ 4), (1, u "java/lang/Object"), (0, u "<init>"), (0, u "()V"), (2, .long 9223372036854775807), (1, .long 9223372036854775708), (1, .methodref 14 15), (0, .class_ 16), (0, .nameAndType 17 18), (0, u "com/example/lease/lease/lock/Leases"), (0, u "driftMillis"), (0, u "(J)J"), (0, .long 100), (1, .long 2), (1, .class_ 24), (0, u "com/example/lease/lease/lock/LeasesDriftMillisPinLaw"), (2, u "law"), (0, u "(J)Z")] 3

def k1m0 : Method := { name := "<init>", desc := "()V", sig := { parameters := [], returnType := none }, accessFlags := 1, code := none }
def k1c1 : Code := { maxStack := 4, maxLocals := 14, code := code, exceptionTable := #[], attributes := #[] }
def k1m1 : Method := { name := "law", desc := "(J)Z", sig := { parameters := [.long], returnType := some .boolean }, accessFlags := 9, code := some k1c1 }
/-- com/example/lease/lease/lock/LeasesDriftMillisPinLaw -/
def k1 : Class := { plain "com/example/lease/lease/lock/LeasesDriftMillisPinLaw" (some 0) with
  accessFlags := 49
  interfaces := #[]
  cf := some (fileOf pool1 23 #[] #[{ accessFlags := 1, nameIndex := 5, descriptorIndex := 6, attributes := #[] }, { accessFlags := 9, nameIndex := 27, descriptorIndex := 28, attributes := #[] }] 49 2 #[] #[])
  fields := #[]
  methods := #[k1m0, k1m1]
  instanceTypes := #[]
  staticTypes := #[]
  resolved := Array.replicate 32 none
  statics := none }

def pool2 : Array CpInfo := pool [(4, .class_ 6), (1, u "java/lang/Object"), (0, u "<init>"), (0, u "()V"), (4, .class_ 15), (1, u "com/example/lease/lease/lock/Leases"), (0, u "endNanos"), (0, u "Ljava/util/Map;"), (2, u "clearAbove"), (0, u "I"), (0, .long 99), (1, .long 100), (1, .long 2), (3, u "driftMillis"), (0, u "(J)J"), (81, u "MAX_COUNTED_NANOS"), (0, u "J"), (1, u "CLEARED_ABOVE")] 44

def k2m0 : Method := { name := "<init>", desc := "()V", sig := { parameters := [], returnType := none }, accessFlags := 0, code := none }
def k2c1 : Code := { maxStack := 4, maxLocals := 2, code := prog_2_method_2_code, exceptionTable := #[], attributes := #[] }
def k2m1 : Method := { name := "driftMillis", desc := "(J)J", sig := { parameters := [.long], returnType := some .long }, accessFlags := 8, code := some k2c1 }
/-- com/example/lease/lease/lock/Leases -/
def k2 : Class := { plain "com/example/lease/lease/lock/Leases" (some 0) with
  accessFlags := 48
  interfaces := #[]
  cf := some (fileOf pool2 13 #[] #[{ accessFlags := 0, nameIndex := 7, descriptorIndex := 8, attributes := #[] }, { accessFlags := 8, nameIndex := 30, descriptorIndex := 31, attributes := #[] }] 48 4 #[] #[{ accessFlags := 26, nameIndex := 113, descriptorIndex := 114, attributes := #[] }, { accessFlags := 26, nameIndex := 116, descriptorIndex := 21, attributes := #[] }, { accessFlags := 18, nameIndex := 16, descriptorIndex := 17, attributes := #[] }, { accessFlags := 66, nameIndex := 20, descriptorIndex := 21, attributes := #[] }])
  fields := #[{ name := "MAX_COUNTED_NANOS", type := .long, accessFlags := 26, slot := 0, constantValue := 0 }, { name := "CLEARED_ABOVE", type := .int, accessFlags := 26, slot := 1, constantValue := 0 }, { name := "endNanos", type := (.object "java/util/Map"), accessFlags := 18, slot := 0, constantValue := 0 }, { name := "clearAbove", type := .int, accessFlags := 66, slot := 1, constantValue := 0 }]
  methods := #[k2m0, k2m1]
  instanceTypes := #[(.object "java/util/Map"), .int]
  staticTypes := #[.long, .int]
  resolved := Array.replicate 161 none
  statics := none }

def pool3 : Array CpInfo := pool [(1, u "java/lang/Cloneable"), (0, .class_ 1), (0, u "java/lang/Object"), (0, .class_ 3)] 3

/-- java/lang/Cloneable -/
def k3 : Class := { plain "java/lang/Cloneable" (some 0) with
  accessFlags := 1537
  interfaces := #[]
  cf := some (fileOf pool3 2 #[] #[] 1537 4 #[] #[])
  fields := #[]
  methods := #[]
  instanceTypes := #[]
  staticTypes := #[]
  resolved := Array.replicate 8 none
  statics := none }

def pool4 : Array CpInfo := pool [(1, u "java/io/Serializable"), (0, .class_ 1), (0, u "java/lang/Object"), (0, .class_ 3)] 3

/-- java/io/Serializable -/
def k4 : Class := { plain "java/io/Serializable" (some 0) with
  accessFlags := 1537
  interfaces := #[]
  cf := some (fileOf pool4 2 #[] #[] 1537 4 #[] #[])
  fields := #[]
  methods := #[]
  instanceTypes := #[]
  staticTypes := #[]
  resolved := Array.replicate 8 none
  statics := none }

/-- the primitive byte -/
def k5 : Class := { plain "byte" none with kind := .primitive 'B', accessFlags := 0x411 }
/-- [B -/
def k6 : Class := { plain "[B" (some 0) with kind := .array 5 .byte, interfaces := #[3, 4], accessFlags := 1041 }

/-- the primitive int -/
def k7 : Class := { plain "int" none with kind := .primitive 'I', accessFlags := 0x411 }
/-- [I -/
def k8 : Class := { plain "[I" (some 0) with kind := .array 7 .int, interfaces := #[3, 4], accessFlags := 1041 }

def heap : Heap := #[]
def classes : Array Class := #[k0, k1, k2, k3, k4, k5, k6, k7, k8]
def interned : List (Array UInt16 × Addr) := []
def slotsUsed : Nat := 0
def theMethod : MethodId := ⟨1, 1⟩
def args0 : Array Value := #[.long 5]
def aboutOver (below : List Frame) : State where
  vm := { classes := classes, interned := interned.toArray }
  heap := heap
  slotsUsed := slotsUsed
  threads := #[{ frames := .invoking theMethod args0 :: below }]
def below0 : List Frame := [.native { method := ⟨0, 0⟩, args := #[] }]
def about1 : State := aboutOver below0
def p0 : Program := .bare "" "" ""
def e0 : Env := launch0.env 0 0 0
theorem w_frames : about1.frames = Frame.invoking theMethod args0 :: below0 := rfl
set_option maxRecDepth 65536 in
theorem w_args : argsFit about1.vm theMethod args0 = true := by decide +kernel
set_option maxRecDepth 65536 in
theorem w_heap : heapFits about1 = true := by decide +kernel
set_option maxRecDepth 65536 in
theorem w_runnable : about1.curStatus? = some .runnable := by decide +kernel
set_option maxRecDepth 65536 in
theorem w_alone : about1.alone = true := by decide +kernel
set_option maxRecDepth 65536 in
theorem w_named : about1.methodNamed? x = some theMethod := by decide +kernel
set_option maxRecDepth 65536 in
theorem w_hears : about1.hears theMethod below0 = true := by decide +kernel
set_option maxRecDepth 65536 in
theorem w_ripe : about1.ripe theMethod args0 below0 = true := by decide +kernel
theorem w_running : about1.status = .running := rfl
set_option maxRecDepth 65536 in
theorem w_room : about1.hasRoom e0.platform room_1 = true :=
  launch0.hasRoom_least _ room_1 (by decide +kernel) (by decide +kernel) (by decide +kernel) (by decide +kernel) (by decide +kernel) (by decide +kernel)
theorem allAtoms_all (ts : List Jvm.Cond) (a : Array Jvm.Value) (st : Jvm.State) : (allAtoms ts).before a st = ts.all (fun c => c.before a st) := by
  induction ts with
  | nil => rfl
  | cons c t ih =>
    show (Jvm.Cond.and c (allAtoms t)).before a st = _
    rw [Jvm.Cond.before_and, ih, List.all_cons]
def words1 : List Jvm.Cond := Jvm.Cond.code x code maxLocals ret :: tables_1
/-- a 'code' word, met by the world's own term for the bytes: nothing is compared byte by byte -/
theorem code_word {y : MethodName} {bytes : ByteArray} {mx : Nat} {rt : Option FieldType} {a : Array Value} {s : State} {m : MethodId} {meth : Method} {c : Code} (h1 : s.methodNamed? y = some m) (h2 : s.vm.method? m = some meth) (h3 : meth.code = some c) (h4 : c.code = bytes)
    (h5 : (c.maxLocals == mx && c.exceptionTable.isEmpty && decide (c.maxStack ≤ mostOperands) && decide (meth.sig.returnType = rt) && !meth.locks && decide (parseMethodDescriptor y.desc = some meth.sig)) = true) : (Jvm.Cond.code y bytes mx rt).before a s = true := by
  simp only [Bool.and_eq_true, beq_iff_eq, Bool.not_eq_true', decide_eq_true_eq] at h5
  obtain ⟨⟨⟨⟨⟨g1, g2⟩, g3⟩, g4⟩, g5⟩, g6⟩ := h5
  simp [Cond.before, Cond.holds, Cond.value, h1, h2, h3, h4, g1, g2, g3, g4, g5, g6]
def isCode : Jvm.Cond → Bool
  | .code _ _ _ _ => true
  | _ => false
theorem all_split {L : List Jvm.Cond} {P : Jvm.Cond → Bool} (h1 : L.all (fun c => isCode c || P c) = true) (h2 : ∀ c ∈ L.filter isCode, P c = true) : L.all P = true := by
  refine List.all_eq_true.mpr fun c hc => ?_
  have h := List.all_eq_true.mp h1 c hc
  rcases Bool.eq_false_or_eq_true (isCode c) with hi | hi
  · exact h2 c (List.mem_filter.mpr ⟨hc, hi⟩)
  · simpa [hi] using h
set_option maxRecDepth 65536 in
theorem w_c0 : (Jvm.Cond.code x code maxLocals ret).before args0 about1 = true := code_word (m := ⟨1, 1⟩) (meth := k1m1) (c := k1c1) (by decide +kernel) rfl rfl rfl (by decide +kernel)
set_option maxRecDepth 65536 in
theorem w_c1 : (Jvm.Cond.code ({ cls := "com/example/lease/lease/lock/Leases", name := "driftMillis", desc := "(J)J" } : Jvm.MethodName) prog_2_method_2_code (2 : Nat) (Option.some Jvm.ClassFile.FieldType.long)).before args0 about1 = true := code_word (m := ⟨2, 1⟩) (meth := k2m1) (c := k2c1) (by decide +kernel) rfl rfl rfl (by decide +kernel)
def codes1 : List Jvm.Cond := [Jvm.Cond.code x code maxLocals ret, Jvm.Cond.code ({ cls := "com/example/lease/lease/lock/Leases", name := "driftMillis", desc := "(J)J" } : Jvm.MethodName) prog_2_method_2_code (2 : Nat) (Option.some Jvm.ClassFile.FieldType.long)]
set_option maxRecDepth 65536 in
theorem codes_eq : words1.filter isCode = codes1 := rfl
theorem w_codes : ∀ c ∈ words1.filter isCode, c.before args0 about1 = true := by
  rw [codes_eq]
  intro c hc
  simp only [codes1, List.mem_cons, List.not_mem_nil, or_false] at hc
  rcases hc with rfl | rfl
  · exact w_c0
  · exact w_c1
set_option maxRecDepth 65536 in
theorem w_t1 : words1.all (fun c => isCode c || c.before args0 about1) = true := by decide +kernel
theorem w_tables : (allAtoms (Jvm.Cond.code x code maxLocals ret :: tables_1)).before args0 about1 = true := by
  rw [allAtoms_all]
  show words1.all (fun c => c.before args0 about1) = true
  refine all_split ?_ w_codes
  rw [w_t1]
set_option maxRecDepth 65536 in
theorem w_case : (Jvm.Cond.and given_1 narrow_1).before args0 about1 = true := by decide +kernel
theorem w_applies : (headSpec (Jvm.Cond.code x code maxLocals ret :: tables_1) room_1).applies x e0.platform about1 = true :=
  (Spec.applies_iff w_frames).mpr ⟨w_running, w_runnable, w_alone, w_named, w_hears, w_ripe, w_room, w_tables⟩
theorem atStart : AtStart classFile x code maxLocals ret World_1 tables_1 room_1 Calls_1 rest_1 Pre_1 launch0 p0 e0 about1 theMethod args0 below0 :=
  ⟨lists_1, trivial, launch0.admits_env _ _ _, launch0.least_env, fairChoices_fair.cas, fairChoices_fair.clock, w_frames, w_args, w_heap, w_applies, trivial, trivial, w_case⟩
end start1
theorem witness_1 : WitnessClaimed_1 := ⟨start1.p0, start1.e0, start1.about1, start1.theMethod, start1.args0, start1.below0, start1.atStart⟩
end Jvm.Pilot.@@N@@
