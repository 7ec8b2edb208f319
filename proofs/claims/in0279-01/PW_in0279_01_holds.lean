import PyProof.Rows.All
import Wide.All
import OpenK.AllK
import Wide.FinOn
import PySem.Challenge.RW_in0279_01
set_option Elab.async false
set_option linter.all false
section
open PySem PySem.W PyProof.Rows
set_option maxRecDepth 100000
set_option maxHeartbeats 0
namespace Mine
noncomputable def vw : Program := PySem.W.view PySem.Challenge.pw_in0279_01 [0, 2, 4, 5, 6, 7, 8, 9, 10, 12, 13, 15, 16, 18, 19, 21, 22, 23, 24, 25]
theorem ws : OpenLaw.wellSaid PySem.Challenge.rw_in0279_01 = true := by
  (try rewrite [PySem.W.Fast.te9446332074065402090])
  kernel_rfl
local macro_rules | `(tactic| o_law) => `(tactic| k_extra "olaw")
theorem kw0 : True := by
  k_with "olaw" => refine holds_law ws fun said => ?_
  k_with "ohead" => (exfalso; assumption)
  trivial
section
local macro_rules | `(tactic| o_head $_) => `(tactic| k_extra "ohead")
theorem mk : False → PySem.Challenge.rw_in0279_01.Holds := by
  intro hF
  w_on; o_law; k_head
end

noncomputable abbrev HK : Hook := kmHook mk.heap_1 [2, 3, 6, 11, 12, 32, 34, 35, 37, 38, 39, 41, 42, 44, 45, 46, 48, 49, 51, 52, 53, 55, 56, 58, 59, 60, 62, 63, 65, 66, 67, 69, 70, 72, 73, 74, 76, 77, 79, 80, 84, 85, 86, 88, 89, 91, 92, 94, 98, 100, 101, 103, 104, 105, 107, 108, 110, 111, 112, 114, 115, 117, 118, 119, 122, 123, 124, 126, 127, 129, 130, 131, 133, 134, 136, 137, 138, 141, 142, 143, 146, 147] (fun _ => by kernel_rfl) [106, 61, 54]
noncomputable abbrev LO : List PySem.Str := [PySem.Str.ofString "_twin_re_1", PySem.Str.ofString "_special_chars_map"]
noncomputable abbrev XT (s : Shared) : Bool := xlAt vw [] s && recOk (RowW.records PySem.Challenge.rw_in0279_01.row.toRowW) s
noncomputable abbrev LP (w : World) : Prop := (openEnds treeTable PySem.Challenge.rw_in0279_01.row.toRowW.prog w 3958).map (fun s => (openSeen vw LO (importedModules PySem.Challenge.rw_in0279_01.row.toRowW.prog.main.body) XT true s, HK.obs s)) = some (openGood vw LO, HK.val w)
theorem lff (w : World) : LP ((w.withFollow "comprehension-iter-twice" false).withFollow "special-get-raises" false) := by unfold LP openEnds fencedOpening topFrom; (try rewrite [PySem.W.Fast.te4187177175401517315, PySem.W.Fast.te5923862056798008813, PySem.W.Fast.te10274390034422433532, PySem.W.Fast.te14364793385576792824, PySem.W.Fast.te1435165496053646825, PySem.W.Fast.te14289696077712309145, PySem.W.Fast.te14082659384304107361, PySem.W.Fast.te8920871248978507458]); kernel_rfl
theorem lft (w : World) : LP ((w.withFollow "comprehension-iter-twice" false).withFollow "special-get-raises" true) := by unfold LP openEnds fencedOpening topFrom; (try rewrite [PySem.W.Fast.te4187177175401517315, PySem.W.Fast.te5923862056798008813, PySem.W.Fast.te10274390034422433532, PySem.W.Fast.te14364793385576792824, PySem.W.Fast.te1435165496053646825, PySem.W.Fast.te14289696077712309145, PySem.W.Fast.te14082659384304107361, PySem.W.Fast.te8920871248978507458]); kernel_rfl
theorem ltf (w : World) : LP ((w.withFollow "comprehension-iter-twice" true).withFollow "special-get-raises" false) := by unfold LP openEnds fencedOpening topFrom; (try rewrite [PySem.W.Fast.te4187177175401517315, PySem.W.Fast.te5923862056798008813, PySem.W.Fast.te10274390034422433532, PySem.W.Fast.te14364793385576792824, PySem.W.Fast.te1435165496053646825, PySem.W.Fast.te14289696077712309145, PySem.W.Fast.te14082659384304107361, PySem.W.Fast.te8920871248978507458]); kernel_rfl
theorem ltt (w : World) : LP ((w.withFollow "comprehension-iter-twice" true).withFollow "special-get-raises" true) := by unfold LP openEnds fencedOpening topFrom; (try rewrite [PySem.W.Fast.te4187177175401517315, PySem.W.Fast.te5923862056798008813, PySem.W.Fast.te10274390034422433532, PySem.W.Fast.te14364793385576792824, PySem.W.Fast.te1435165496053646825, PySem.W.Fast.te14289696077712309145, PySem.W.Fast.te14082659384304107361, PySem.W.Fast.te8920871248978507458]); kernel_rfl
theorem left : LeftO PySem.Challenge.rw_in0279_01.row.toRowW.prog vw LO XT HK.obs HK.val 3958 :=
  byRow2 "special-get-raises" (byRow2 "comprehension-iter-twice" lff ltf) (byRow2 "comprehension-iter-twice" lft ltt)
section
local macro_rules | `(tactic| k_head) => `(tactic| k_extra "khead")
theorem kw1 : True := by
  k_with "khead" => (refine holds_open (q := vw) (loose := LO) (Xt := XT) (XP := XL vw []) (Yf := HK.obs) (Ya := HK.val) (YP := HK.says) (N := 3958) left HK.of HK.keeps (fun s e => xl_of s (Bool.and_eq_true_iff.mp e).1) XL.keeps (by rfl) (by rfl) (by rfl) (fun s e => recFacts_of (Bool.and_eq_true_iff.mp e).2) (by rfl) (by first | assumption | decide +kernel) (by decide +kernel) ⟨rfl, rfl, rfl, rfl, rfl, by decide +kernel⟩ ?hw ?hc)
  trivial
open_top hd for PySem.Challenge.rw_in0279_01
end
end Mine
end

section
open PySem PySem.W PyProof.Rows
namespace Mine
theorem om_s {a b : Nat} (h : a ≠ b) : a + 1 ≠ b + 1 := fun e => h (Nat.succ.inj e)
theorem om_k1 {a : Nat} : a < a + 1 := Nat.lt_succ_self _
theorem om_k2 {a : Nat} : a < a + 1 + 1 := Nat.lt_succ_of_lt om_k1
theorem om_k3 {a : Nat} : a < a + 1 + 1 + 1 := Nat.lt_succ_of_lt om_k2
theorem om_k4 {a : Nat} : a < a + 1 + 1 + 1 + 1 := Nat.lt_succ_of_lt om_k3
theorem om_k5 {a : Nat} : a < a + 1 + 1 + 1 + 1 + 1 := Nat.lt_succ_of_lt om_k4
theorem om_k6 {a : Nat} : a < a + 1 + 1 + 1 + 1 + 1 + 1 := Nat.lt_succ_of_lt om_k5
theorem om_p1 {a d : Nat} (h : a + 1 < d) : a < d := Nat.lt_of_succ_lt h
theorem om_le {a m n : Nat} (h : a ≤ m) (e : Nat.ble m n = true) : a ≤ n := Nat.le_trans h (Nat.le_of_ble_eq_true e)
theorem om_lt {a m n : Nat} (h : a ≤ m) (e : Nat.ble (m + 1) n = true) : a < n := Nat.lt_of_le_of_lt h (Nat.le_of_ble_eq_true e)
theorem om_ll {a m n : Nat} (h : a < m) (e : Nat.ble m n = true) : a < n := Nat.lt_of_lt_of_le h (Nat.le_of_ble_eq_true e)
theorem om_lg {a m n : Nat} (h : n ≤ a) (e : Nat.ble m n = true) : m ≤ a := Nat.le_trans (Nat.le_of_ble_eq_true e) h
theorem om_gl {a m n : Nat} (h : n ≤ a) (e : Nat.ble (m + 1) n = true) : m < a := Nat.lt_of_lt_of_le (Nat.le_of_ble_eq_true e) h
theorem om_r1 {d a b r : Nat} (h : d + b < r) (e : Nat.ble a b = true) : d + a < r := Nat.lt_of_le_of_lt (Nat.add_le_add_left (Nat.le_of_ble_eq_true e) d) h
theorem om_r2 {d c a b r : Nat} (h : d + b < r) (e : Nat.ble (c + a) b = true) : d + c + a < r := by rw [Nat.add_assoc]; exact om_r1 h e
theorem om_r3 {d c f a b r : Nat} (h : d + b < r) (e : Nat.ble (c + (f + a)) b = true) : d + c + f + a < r := by rw [Nat.add_assoc, Nat.add_assoc]; exact om_r1 h e
theorem om_r0 {d b r : Nat} (h : d + b < r) : d < r := Nat.lt_of_le_of_lt (Nat.le_add_right d b) h
theorem om_i0 {a n m : Int} (h : m ≤ a) (e : (n ≤ m) = True) : n ≤ a := Int.le_trans (of_eq_true e) h
theorem om_il {a n m : Int} (h : a ≤ m) (e : decide (m ≤ n) = true) : a ≤ n := Int.le_trans h (of_decide_eq_true e)
theorem om_ig {a n m : Int} (h : m ≤ a) (e : decide (n ≤ m) = true) : n ≤ a := Int.le_trans (of_decide_eq_true e) h
theorem om_ill {a n m : Int} (h : a ≤ m) (e : decide (m < n) = true) : a < n := Int.lt_of_le_of_lt h (of_decide_eq_true e)
theorem om_igg {a n m : Int} (h : m ≤ a) (e : decide (n < m) = true) : n < a := Int.lt_of_lt_of_le (of_decide_eq_true e) h
theorem om_tn {a m : Int} {n : Nat} (h : a ≤ m) (e : decide (m ≤ (n : Int)) = true) : a.toNat ≤ n := Int.toNat_le.mpr (Int.le_trans h (of_decide_eq_true e))
theorem om_tl {a m : Int} {n : Nat} (h : a ≤ m) (e : (decide (m < (n : Int)) && decide (0 < n)) = true) : a.toNat < n := by
  have e := Bool.and_eq_true_iff.mp e
  exact (Int.toNat_lt' (of_decide_eq_true e.2)).mpr (Int.lt_of_le_of_lt h (of_decide_eq_true e.1))
theorem om_nc {a m : Nat} (h : a ≤ m) {n : Int} (e : decide ((m : Int) ≤ n) = true) : (a : Int) ≤ n := Int.le_trans (Int.ofNat_le.mpr h) (of_decide_eq_true e)
section
variable {M : Model} {A : Around} {E : Value → Shared → Prop} {s : Shared} {env : Env}
theorem sp1 {e : PySem.Expr} {pos : Pos} {Q : List Value → Shared → Prop} (h : wpAny M A (eval e env) (fun v s₁ => Q [v] s₁) E s)
    (he : starEach [e] env = [(false, eval e env)] := by rfl) : wpAny M A (spliced (backTo pos (starEach [e] env))) Q E s :=
  args_cons (wpAny_mono h (fun _ _ h => args_nil h) fun _ _ x => x) he
theorem sp_hd {e : PySem.Expr} {rest : List PySem.Expr} {x : Sem Value} {l : List (Bool × Sem Value)} (he : starEach (e :: rest) env = (false, x) :: l) : starEach (e :: rest) env = (false, eval e env) :: starEach rest env ∧ starEach rest env = l := by
  have h : starEach (e :: rest) env = (false, eval e env) :: starEach rest env := by
    cases e <;> first | rfl | (injection he with a b; injection a; contradiction)
  exact ⟨h, by rw [h] at he; injection he⟩
theorem sp2 {e1 e2 : PySem.Expr} {pos : Pos} {Q : List Value → Shared → Prop} (h : wpAny M A (eval e1 env) (fun v s₁ => wpAny M A (eval e2 env) (fun v2 s₂ => Q [v, v2] s₂) E s₁) E s)
    (he : starEach [e1, e2] env = [(false, eval e1 env), (false, eval e2 env)] := by rfl) : wpAny M A (spliced (backTo pos (starEach [e1, e2] env))) Q E s :=
  args_cons (wpAny_mono h (fun _ _ h => sp1 h (sp_hd he).2) fun _ _ x => x) (sp_hd he).1
theorem sp3 {e1 e2 e3 : PySem.Expr} {pos : Pos} {Q : List Value → Shared → Prop} (h : wpAny M A (eval e1 env) (fun v s₁ => wpAny M A (eval e2 env) (fun v2 s₂ => wpAny M A (eval e3 env) (fun v3 s₃ => Q [v, v2, v3] s₃) E s₂) E s₁) E s)
    (he : starEach [e1, e2, e3] env = [(false, eval e1 env), (false, eval e2 env), (false, eval e3 env)] := by rfl) : wpAny M A (spliced (backTo pos (starEach [e1, e2, e3] env))) Q E s :=
  args_cons (wpAny_mono h (fun _ _ h => sp2 h (sp_hd he).2) fun _ _ x => x) (sp_hd he).1
end
theorem pick_all {α : Type} {old new : List α} (ix : List Nat) (h : new = ix.filterMap fun i => old[i]?) : ∀ q ∈ new, q ∈ old := by
  subst h
  intro q hq
  obtain ⟨i, _, h⟩ := List.mem_filterMap.mp hq
  exact List.mem_of_getElem? h
theorem s_cons {α : Type} {x : α} {a b : List α} (h : x ∈ b) (k : ∀ q ∈ a, q ∈ b) : ∀ q ∈ x :: a, q ∈ b := List.forall_mem_cons.mpr ⟨h, k⟩
theorem s_app {α : Type} {a b c : List α} (h : ∀ q ∈ a, q ∈ c) (k : ∀ q ∈ b, q ∈ c) : ∀ q ∈ a ++ b, q ∈ c := fun q hq => (List.mem_append.mp hq).elim (h q) (k q)
theorem s_keep {α : Type} {x : α} {a b : List α} (k : ∀ q ∈ a, q ∈ b) : ∀ q ∈ x :: a, q ∈ x :: b := s_cons (.head _) fun q h => .tail _ (k q h)
theorem s_keepA {α : Type} {l a b : List α} (k : ∀ q ∈ a, q ∈ b) : ∀ q ∈ l ++ a, q ∈ l ++ b := s_app (fun _ h => List.mem_append_left _ h) fun q h => List.mem_append_right _ (k q h)
theorem s_inA {α : Type} {l a b : List α} (k : ∀ q ∈ a, q ∈ b) : ∀ q ∈ a, q ∈ l ++ b := fun q h => List.mem_append_right _ (k q h)
theorem mi {α : Type} {l : List α} {a : α} (i : Nat) (h : l[i]? = some a) : a ∈ l := List.mem_of_getElem? h
end Mine
end

open PySem PySem.W PyProof.Rows Mine
local macro_rules | `(tactic| walk_at $s:str) => `(tactic| k_extra $s)
local macro_rules | `(tactic| omega) => `(tactic| k_extra "om")
local macro_rules | `(tactic| bits_by_make) => `(tactic| k_extra "bits")
local macro_rules | `(tactic| k_all) => `(tactic| k_extra "kall")
theorem Mine.om_word : True := by
  k_with_none
  w_top off
  k_with "om" => (first | decide | (with_reducible first | (refine neN ?_; first | (refine Nat.ne_of_lt ?_; first | ((repeat (first | assumption | exact om_k1 | refine Nat.lt_succ_of_lt ?_)); done) | (apply And.left; (iterate 18 (first | done | assumption | apply And.right)); done)) | (refine Nat.ne_of_gt ?_; first | ((repeat (first | assumption | exact om_k1 | refine Nat.lt_succ_of_lt ?_)); done) | (apply And.left; (iterate 18 (first | done | assumption | apply And.right)); done)) | (refine Ne.symm ?_; assumption) | (refine om_s ?_; omega)) | exact om_le (by assumption) rfl | exact om_ll (by assumption) rfl | exact om_lt (by assumption) rfl | exact om_lg (by assumption) rfl | exact om_r1 (by assumption) rfl | exact om_r2 (by assumption) rfl | exact om_r3 (by assumption) rfl | exact om_il (by assumption) rfl | exact om_ig (by assumption) rfl | exact om_tn (by assumption) rfl | exact om_tl (by assumption) rfl | exact om_nc (by assumption) rfl | exact Int.natCast_nonneg _ | exact Int.le_of_lt (by assumption)) | (law_clear; lia))
  k_with "execs cons" => ((first | (k_here; k_gentoks) | (refine wpAny_execs_cons ?_; k_fold; (try k_extra "mlet"))))
  k_with "stp" => (repeat' (first | (k_unfold; (try dsimp only)) | (k_end; wrow_close) | (walk1; (all_goals (try dsimp only))) | (dsimp only; walk1) | (leave1; walk_say "STEP leave1"; try dsimp only) | fail "no step"))
  trivial

section
open PySem PySem.W PyProof.Rows
namespace Mine
theorem nat_and_zero (a k b : Nat) (h : b < 2 ^ k) : a * 2 ^ k &&& b = 0 := by
  apply Nat.eq_of_testBit_eq
  intro i
  rw [Nat.testBit_and, Nat.zero_testBit, Nat.mul_comm, Nat.testBit_two_pow_mul]
  by_cases hi : k ≤ i
  · rw [Nat.testBit_lt_two_pow (Nat.lt_of_lt_of_le h (Nat.pow_le_pow_right (by decide) hi)), Bool.and_false]
  · simp [hi]
theorem pow_toNat (k : Nat) : ((2 : Int) ^ k).toNat = 2 ^ k := by have h := kbt_cast k; have hp := kbt_pos k; omega

theorem and_disj {x y : Int} {k : Nat} (hx : 0 ≤ x) (h0 : 0 ≤ y) (h1 : y < 2 ^ k) : Builtin.bitAnd (x * 2 ^ k) y = 0 := by
  have hp := kbt_pos k
  have hm : 0 ≤ x * 2 ^ k := Int.mul_nonneg hx (Int.le_of_lt hp)
  rw [bitAnd_pp hm h0, Int.toNat_mul hx (Int.le_of_lt hp), pow_toNat, nat_and_zero]
  · rfl
  · have h := kbt_cast k; omega
theorem or_disj {x y : Int} {k : Nat} (hx : 0 ≤ x) (h0 : 0 ≤ y) (h1 : y < 2 ^ k) : Builtin.bitOr (x * 2 ^ k) y = x * 2 ^ k + y := by
  rw [bitOr_and, and_disj hx h0 h1, Int.sub_zero]
theorem nat_and_self (m k r : Nat) (h : r < 2 ^ k) : (m * 2 ^ k + r) &&& (m * 2 ^ k) = m * 2 ^ k := by
  have e : m * 2 ^ k + r = m * 2 ^ k ||| r := by rw [Nat.mul_comm]; exact Nat.two_pow_add_eq_or_of_lt h m
  rw [e, Nat.and_or_distrib_right, Nat.and_self, Nat.and_comm r, nat_and_zero _ _ _ h, Nat.or_zero]
theorem xor_low {x : Int} (k : Nat) (hx : 0 ≤ x) : Builtin.bitXor x (x / 2 ^ k * 2 ^ k) = x % 2 ^ k := by
  have hp := kbt_pos k
  have hq : 0 ≤ x / 2 ^ k := Int.ediv_nonneg hx (Int.le_of_lt hp)
  have hr := Int.emod_nonneg x (Int.ne_of_gt hp)
  have hl := Int.emod_lt_of_pos x hp
  have he := Int.mul_ediv_add_emod x (2 ^ k)
  have hm : 0 ≤ x / 2 ^ k * 2 ^ k := Int.mul_nonneg hq (Int.le_of_lt hp)
  have key : Builtin.bitAnd x (x / 2 ^ k * 2 ^ k) = x / 2 ^ k * 2 ^ k := by
    rw [bitAnd_pp hx hm, Int.toNat_mul hq (Int.le_of_lt hp), pow_toNat]
    have e : x.toNat = (x / 2 ^ k).toNat * 2 ^ k + (x % 2 ^ k).toNat := by
      have h := kbt_cast k
      apply Int.ofNat.inj
      show (x.toNat : Int) = (((x / 2 ^ k).toNat * 2 ^ k + (x % 2 ^ k).toNat : Nat) : Int)
      rw [Int.natCast_add, Int.natCast_mul, h]
      rw [Int.toNat_of_nonneg hx, Int.toNat_of_nonneg hq, Int.toNat_of_nonneg hr, Int.mul_comm]
      exact he.symm
    have hlt : (x % 2 ^ k).toNat < 2 ^ k := by have h := kbt_cast k; omega
    rw [e, nat_and_self _ _ _ hlt, Int.natCast_mul, kbt_cast, Int.toNat_of_nonneg hq]
  rw [bitXor_and, key]
  have : 2 ^ k * (x / 2 ^ k) = x / 2 ^ k * 2 ^ k := Int.mul_comm _ _
  omega
theorem fdiv_ed {a b : Int} (hb : 0 < b) : a.fdiv b = a / b := Int.fdiv_eq_ediv_of_nonneg a (Int.le_of_lt hb)

theorem fmod_em {a b : Int} (hb : 0 < b) : a.fmod b = a % b := Int.fmod_eq_emod_of_nonneg a (Int.le_of_lt hb)

/-- 3 by 2, the far case -/
theorem d3_top {a12 a3 b b1 b2 H : Int} (hb : b = b1 * H + b2) (h3 : a3 < H) (ha : a12 < b) (hH : 0 < H) :
    (H - 1) * b + ((a12 - b1 * H + b1) * H + a3 - (H - 1) * b2) = a12 * H + a3 ∧ (a12 - b1 * H + b1) * H + a3 - (H - 1) * b2 < b := by
  have e : (H - 1) * b + ((a12 - b1 * H + b1) * H + a3 - (H - 1) * b2) = a12 * H + a3 := by subst hb; grind
  refine ⟨e, ?_⟩
  have h1 : a12 * H ≤ (b - 1) * H := Int.mul_le_mul_of_nonneg_right (by omega) (Int.le_of_lt hH)
  have h2 : (b - 1) * H = b * H - H := by grind
  have h4 : (H - 1) * b = b * H - b := by grind
  omega
theorem d3_low {a12 a3 b b1 b2 H : Int} (hb : b = b1 * H + b2) (h3 : a3 < H) (h0 : 0 ≤ a12) (hb1 : 0 < b1) (hb2 : 0 ≤ b2) (hH : 0 < H) :
    a12 / b1 * b + (a12 % b1 * H + a3 - a12 / b1 * b2) = a12 * H + a3 ∧ a12 % b1 * H + a3 - a12 / b1 * b2 < b := by
  have he := Int.mul_ediv_add_emod a12 b1
  have hl := Int.emod_lt_of_pos a12 hb1
  have hq : 0 ≤ a12 / b1 := Int.ediv_nonneg h0 (Int.le_of_lt hb1)
  generalize a12 / b1 = q at *
  generalize a12 % b1 = r at *
  have e : q * b + (r * H + a3 - q * b2) = a12 * H + a3 := by subst hb he; grind
  refine ⟨e, ?_⟩
  have h1 : r * H ≤ (b1 - 1) * H := Int.mul_le_mul_of_nonneg_right (by omega) (Int.le_of_lt hH)
  have h2 : (b1 - 1) * H = b1 * H - H := by grind
  have h4 : 0 ≤ q * b2 := Int.mul_nonneg hq hb2
  omega
theorem qr_unique {q r b A : Int} (e : q * b + r = A) (h0 : 0 ≤ r) (h1 : r < b) : q = A / b ∧ r = A % b := by
  have hb : 0 < b := by omega
  have := kbt_unique (a := A) (b := b) (q := q) (r := r) hb (by rw [Int.mul_comm]; omega) h0 h1
  exact ⟨this.1.symm, this.2.symm⟩
theorem bits_small {x : Int} {k : Nat} (h0 : 0 ≤ x) (h : x < 2 ^ k) : Builtin.Int.intBits x ≤ k := by
  rw [intBits_le_iff]
  have := kbt_cast k
  omega
theorem log2_small {x : Int} {k j : Nat} (h0 : 0 ≤ x) (h : x < 2 ^ k) (hk : k ≤ j) (hj : 0 < j): x.natAbs.log2 < j := by
  by_cases hx : x.natAbs = 0
  · rw [hx]; simpa using hj
  · rw [Nat.log2_lt hx]
    have := kbt_cast k
    exact Nat.lt_of_lt_of_le (by omega) (Nat.pow_le_pow_right (by decide) hk)
theorem d3_b1 {a12 b b1 b2 H : Int} (hb : b = b1 * H + b2) (hb2 : b2 < H) (hab : a12 < b) (hH : 0 < H) (e : a12.fdiv H ≠ b1) : a12.fdiv H < b1 := by
  rw [fdiv_ed hH] at e ⊢
  have h1 : a12 / H < b1 + 1 := Int.ediv_lt_of_lt_mul hH (by have : (b1 + 1) * H = b1 * H + H := by grind
                                                             omega)
  omega
theorem st_top {a12 a3 b b1 b2 : Int} {k : Nat} (hb : b = b1 * 2 ^ k + b2) (h3 : 0 ≤ a3) (h3' : a3 < 2 ^ k) (hab : a12 < b) (hb1 : 0 ≤ b1) (e : a12.fdiv (2 ^ k) = b1) :
    (1 * 2 ^ k - 1) * b + (Builtin.bitOr ((a12 - b1 * 2 ^ k + b1) * 2 ^ k) a3 - (1 * 2 ^ k - 1) * b2) = a12 * 2 ^ k + a3 ∧ Builtin.bitOr ((a12 - b1 * 2 ^ k + b1) * 2 ^ k) a3 - (1 * 2 ^ k - 1) * b2 < b := by
  have hH := kbt_pos k
  rw [fdiv_ed hH] at e
  have h1 : b1 * 2 ^ k ≤ a12 := by rw [← e]; exact Int.ediv_mul_le a12 (Int.ne_of_gt hH)
  rw [or_disj (by omega) h3 h3', Int.one_mul]
  exact d3_top hb h3' hab hH
theorem st_low {a12 a3 b b1 b2 : Int} {k : Nat} (hb : b = b1 * 2 ^ k + b2) (h0 : 0 ≤ a12) (h3 : 0 ≤ a3) (h3' : a3 < 2 ^ k) (hab : a12 < b) (hb2 : 0 ≤ b2) (hb2' : b2 < 2 ^ k) (e : a12.fdiv (2 ^ k) ≠ b1) :
    a12.fdiv b1 * b + (Builtin.bitOr (a12.fmod b1 * 2 ^ k) a3 - a12.fdiv b1 * b2) = a12 * 2 ^ k + a3 ∧ Builtin.bitOr (a12.fmod b1 * 2 ^ k) a3 - a12.fdiv b1 * b2 < b := by
  have hH := kbt_pos k
  have h1 := d3_b1 hb hb2' hab hH e
  have h2 : 0 ≤ a12.fdiv (2 ^ k) := by rw [fdiv_ed hH]; exact Int.ediv_nonneg h0 (Int.le_of_lt hH)
  have hb1 : 0 < b1 := by omega
  rw [fdiv_ed hb1, fmod_em hb1, or_disj (Int.emod_nonneg _ (Int.ne_of_gt hb1)) h3 h3']
  exact d3_low hb h3' h0 hb1 hb2 hH
theorem st_turn {q r b A : Int} (h : q * b + r = A) (h1 : r < b) (h0 : r < 0) : (q - 1) * b + (r + b) = A ∧ r + b < b := by
  have e : (q - 1) * b = q * b - b := by grind
  omega
structure P3 (a12 a3 b b1 b2 n : Int) : Prop where
  h0 : 0 ≤ n
  hn : n ≤ 4000
  ha : 0 ≤ a12
  h3 : 0 ≤ a3
  h3' : a3 < 2 ^ n.toNat
  hb : b = b1 * 2 ^ n.toNat + b2
  hb1 : 0 ≤ b1
  hb1' : b1 < 2 ^ n.toNat
  hb2 : 0 ≤ b2
  hb2' : b2 < 2 ^ n.toNat
  hab : a12 < b
structure Ev (a b n : Int) : Prop where
  ha : 0 ≤ a
  hab : a < b * 2 ^ n.toNat
  hb : 0 < b
  hb' : b < 2 ^ n.toNat
  h0 : 0 ≤ n
  hn : n ≤ 8000
  he : n % 2 = 0
noncomputable abbrev hf (n : Int) : Int := n.fdiv (2 ^ (1 : Int).toNat)
theorem hf_eq (n : Int) : hf n = n / 2 := by
  show n.fdiv (2 ^ 1) = n / 2
  rw [fdiv_ed (by decide)]; rfl
theorem ev_pow {n : Int} (h0 : 0 ≤ n) (he : n % 2 = 0) : (2 : Int) ^ n.toNat = 2 ^ (hf n).toNat * 2 ^ (hf n).toNat := by
  rw [← Int.pow_add, hf_eq]
  congr 1
  omega
theorem mask_em (x : Int) (k : Nat) : Builtin.bitAnd x (1 * 2 ^ k - 1) = x % 2 ^ k := by rw [Int.one_mul, kbt_mask]

theorem mid_eq {a : Int} {n : Int} (h0 : 0 ≤ n) (he : n % 2 = 0) :
    a.fdiv (2 ^ n.toNat) * 2 ^ (hf n).toNat + Builtin.bitAnd (a.fdiv (2 ^ (hf n).toNat)) (1 * 2 ^ (hf n).toNat - 1) = a / 2 ^ (hf n).toNat := by
  have hH := kbt_pos (hf n).toNat
  rw [mask_em, ev_pow h0 he, fdiv_ed (Int.mul_pos hH hH), fdiv_ed hH, ← Int.ediv_ediv_of_nonneg (Int.le_of_lt hH), Int.mul_comm]
  exact Int.mul_ediv_add_emod _ _
theorem ev_call1 {a b n : Int} (e : Ev a b n) : P3 (a.fdiv (2 ^ n.toNat)) (Builtin.bitAnd (a.fdiv (2 ^ (hf n).toNat)) (1 * 2 ^ (hf n).toNat - 1)) b (b.fdiv (2 ^ (hf n).toNat)) (Builtin.bitAnd b (1 * 2 ^ (hf n).toNat - 1)) (hf n) := by
  obtain ⟨ha, hab, hb, hb', h0, hn, he⟩ := e
  have hH := kbt_pos (hf n).toNat
  have hp := ev_pow h0 he
  have hN : (0 : Int) < 2 ^ n.toNat := kbt_pos _
  have h9 := hf_eq n
  refine ⟨by omega, by omega, ?_, ?_, ?_, ?_, ?_, ?_, ?_, ?_, ?_⟩
  · rw [fdiv_ed hN]; exact Int.ediv_nonneg ha (Int.le_of_lt hN)
  · rw [mask_em]; exact Int.emod_nonneg _ (Int.ne_of_gt hH)
  · rw [mask_em]; exact Int.emod_lt_of_pos _ hH
  · rw [mask_em, fdiv_ed hH, Int.mul_comm]; exact (Int.mul_ediv_add_emod _ _).symm
  · rw [fdiv_ed hH]; exact Int.ediv_nonneg (Int.le_of_lt hb) (Int.le_of_lt hH)
  · rw [fdiv_ed hH]; rw [hp] at hb'; exact Int.ediv_lt_of_lt_mul hH hb'
  · rw [mask_em]; exact Int.emod_nonneg _ (Int.ne_of_gt hH)
  · rw [mask_em]; exact Int.emod_lt_of_pos _ hH
  · rw [fdiv_ed hN]; exact Int.ediv_lt_of_lt_mul hN hab
theorem ev_call2 {a b n x r : Int} (e : Ev a b n) (hr : r = x % b) : P3 r (Builtin.bitAnd a (1 * 2 ^ (hf n).toNat - 1)) b (b.fdiv (2 ^ (hf n).toNat)) (Builtin.bitAnd b (1 * 2 ^ (hf n).toNat - 1)) (hf n) := by
  subst hr
  have hH := kbt_pos (hf n).toNat
  have c := ev_call1 e
  refine ⟨c.h0, c.hn, Int.emod_nonneg _ (Int.ne_of_gt e.hb), ?_, ?_, c.hb, c.hb1, c.hb1', c.hb2, c.hb2', Int.emod_lt_of_pos _ e.hb⟩
  · rw [mask_em]; exact Int.emod_nonneg _ (Int.ne_of_gt hH)
  · rw [mask_em]; exact Int.emod_lt_of_pos _ hH
noncomputable abbrev A1 (a n : Int) : Int := a.fdiv (2 ^ n.toNat) * 2 ^ (hf n).toNat + Builtin.bitAnd (a.fdiv (2 ^ (hf n).toNat)) (1 * 2 ^ (hf n).toNat - 1)
noncomputable abbrev A2 (a b n : Int) : Int := A1 a n % b * 2 ^ (hf n).toNat + Builtin.bitAnd a (1 * 2 ^ (hf n).toNat - 1)
theorem ev_end {a b n : Int} (e : Ev a b n) : Builtin.bitOr (A1 a n / b * 2 ^ (hf n).toNat) (A2 a b n / b) = a / b ∧ A2 a b n % b = a % b := by
  obtain ⟨ha, hab, hb, hb', h0, hn, he⟩ := e
  have hH := kbt_pos (hf n).toNat
  have m := mid_eq (a := a) h0 he
  have key : A2 a b n = (a / 2 ^ (hf n).toNat) % b * 2 ^ (hf n).toNat + a % 2 ^ (hf n).toNat := by
    unfold A2 A1; rw [m, mask_em]
  have k1 : A1 a n = a / 2 ^ (hf n).toNat := m
  rw [k1, key]
  have e1 := Int.mul_ediv_add_emod a (2 ^ (hf n).toNat)
  have l0 := Int.emod_nonneg a (Int.ne_of_gt hH)
  have l1 := Int.emod_lt_of_pos a hH
  have q0 : 0 ≤ a / 2 ^ (hf n).toNat := Int.ediv_nonneg ha (Int.le_of_lt hH)
  generalize a / 2 ^ (hf n).toNat = x at *
  generalize a % 2 ^ (hf n).toNat = l at *
  generalize (hf n).toNat = k at *
  have e2 := Int.mul_ediv_add_emod x b
  have r0 := Int.emod_nonneg x (Int.ne_of_gt hb)
  have r1 := Int.emod_lt_of_pos x hb
  have y0 : 0 ≤ x / b := Int.ediv_nonneg q0 (Int.le_of_lt hb)
  generalize x / b = y at *
  generalize x % b = r at *
  have z0 : 0 ≤ r * 2 ^ k := Int.mul_nonneg r0 (Int.le_of_lt hH)
  have z1 : r * 2 ^ k ≤ (b - 1) * 2 ^ k := Int.mul_le_mul_of_nonneg_right (by omega) (Int.le_of_lt hH)
  have z2 : (b - 1) * 2 ^ k = 2 ^ k * b - 2 ^ k := by grind
  have z3 : (r * 2 ^ k + l) / b < 2 ^ k := Int.ediv_lt_of_lt_mul hb (by omega)
  have z4 : 0 ≤ (r * 2 ^ k + l) / b := Int.ediv_nonneg (by omega) (Int.le_of_lt hb)
  have e3 : a = (r * 2 ^ k + l) + b * (y * 2 ^ k) := by rw [← e1, ← e2]; grind
  rw [or_disj y0 z4 z3, e3, Int.add_mul_ediv_left _ _ (Int.ne_of_gt hb), Int.add_mul_emod_self_left]
  exact ⟨by omega, rfl⟩
theorem ev_even {a b n : Int} (ha : 0 ≤ a) (hab : a < b * 2 ^ n.toNat) (hb : 0 < b) (hb' : b < 2 ^ n.toNat) (h0 : 0 ≤ n) (hn : n ≤ 7999) (e : Builtin.bitAnd n 1 = 0) : Ev a b n := by
  rw [bitAnd_m1] at e
  exact ⟨ha, hab, hb, hb', h0, by omega, by omega⟩
theorem ev_odd {a b n : Int} (ha : 0 ≤ a) (hab : a < b * 2 ^ n.toNat) (hb : 0 < b) (hb' : b < 2 ^ n.toNat) (h0 : 0 ≤ n) (hn : n ≤ 7999) (e : Builtin.bitAnd n 1 ≠ 0) : Ev (a * 2 ^ (1 : Int).toNat) (b * 2 ^ (1 : Int).toNat) (n + 1) := by
  rw [bitAnd_m1] at e
  have e1 : (2 : Int) ^ (1 : Int).toNat = 2 := by decide
  have e2 : (2 : Int) ^ (n + 1).toNat = 2 ^ n.toNat * 2 := by
    have : (n + 1).toNat = n.toNat + 1 := by omega
    rw [this, Int.pow_succ]
  rw [e1]
  have hN : (0 : Int) < 2 ^ n.toNat := kbt_pos _
  refine ⟨by omega, ?_, by omega, by omega, by omega, by omega, by omega⟩
  rw [e2]
  have : b * 2 * (2 ^ n.toNat * 2) = 4 * (b * 2 ^ n.toNat) := by grind
  rw [this]
  have : 0 ≤ b * 2 ^ n.toNat := by omega
  omega
theorem odd_end {a b : Int} (hb : 0 < b) : a * 2 ^ (1 : Int).toNat / (b * 2 ^ (1 : Int).toNat) = a / b ∧ (a * 2 ^ (1 : Int).toNat % (b * 2 ^ (1 : Int).toNat)).fdiv (2 ^ (1 : Int).toNat) = a % b := by
  have e1 : (2 : Int) ^ (1 : Int).toNat = 2 := by decide
  rw [e1, fdiv_ed (by decide), Int.mul_comm a, Int.mul_comm b, Int.mul_ediv_mul_of_pos _ _ (by decide), Int.mul_emod_mul_of_pos _ _ (by decide), Int.mul_ediv_cancel_left _ (by decide)]
  exact ⟨rfl, rfl⟩
theorem P3.q {a12 a3 b b1 b2 n : Int} (P : P3 a12 a3 b b1 b2 n) : 0 ≤ (a12 * 2 ^ n.toNat + a3) / b ∧ (a12 * 2 ^ n.toNat + a3) / b < 2 ^ n.toNat := by
  obtain ⟨h0, hn, ha, h3, h3', hb, hb1, hb1', hb2, hb2', hab⟩ := P
  have hH := kbt_pos n.toNat
  have hb0 : 0 < b := by omega
  have z0 : 0 ≤ a12 * 2 ^ n.toNat := Int.mul_nonneg ha (Int.le_of_lt hH)
  have z1 : a12 * 2 ^ n.toNat ≤ (b - 1) * 2 ^ n.toNat := Int.mul_le_mul_of_nonneg_right (by omega) (Int.le_of_lt hH)
  have z2 : (b - 1) * 2 ^ n.toNat = 2 ^ n.toNat * b - 2 ^ n.toNat := by grind
  exact ⟨Int.ediv_nonneg (by omega) (by omega), Int.ediv_lt_of_lt_mul hb0 (by omega)⟩
theorem P3.qb {a12 a3 b b1 b2 n : Int} (P : P3 a12 a3 b b1 b2 n) : Builtin.Int.intBits ((a12 * 2 ^ n.toNat + a3) / b) ≤ 4000 := by
  have hn := P.hn
  exact Nat.le_trans (bits_small P.q.1 P.q.2) (by omega)
theorem ev_end' {a b n q1 r1 q2 r2 : Int} (e : Ev a b n) (h1 : q1 = A1 a n / b) (h2 : r1 = A1 a n % b) (h3 : q2 = (r1 * 2 ^ (hf n).toNat + Builtin.bitAnd a (1 * 2 ^ (hf n).toNat - 1)) / b) (h4 : r2 = (r1 * 2 ^ (hf n).toNat + Builtin.bitAnd a (1 * 2 ^ (hf n).toNat - 1)) % b) :
    Builtin.bitOr (q1 * 2 ^ (hf n).toNat) q2 = a / b ∧ r2 = a % b := by
  subst h1 h2 h3 h4
  exact ev_end e
theorem ev_end1 {a b n q1 r1 q2 r2 : Int} (hb : 0 < b) (e : Ev (a * 2 ^ (1 : Int).toNat) (b * 2 ^ (1 : Int).toNat) (n + 1)) (h1 : q1 = A1 (a * 2 ^ (1 : Int).toNat) (n + 1) / (b * 2 ^ (1 : Int).toNat)) (h2 : r1 = A1 (a * 2 ^ (1 : Int).toNat) (n + 1) % (b * 2 ^ (1 : Int).toNat)) (h3 : q2 = (r1 * 2 ^ (hf (n + 1)).toNat + Builtin.bitAnd (a * 2 ^ (1 : Int).toNat) (1 * 2 ^ (hf (n + 1)).toNat - 1)) / (b * 2 ^ (1 : Int).toNat)) (h4 : r2 = (r1 * 2 ^ (hf (n + 1)).toNat + Builtin.bitAnd (a * 2 ^ (1 : Int).toNat) (1 * 2 ^ (hf (n + 1)).toNat - 1)) % (b * 2 ^ (1 : Int).toNat)) :
    Builtin.bitOr (q1 * 2 ^ (hf (n + 1)).toNat) q2 = a / b ∧ r2.fdiv (2 ^ (1 : Int).toNat) = a % b := by
  have x := ev_end' e h1 h2 h3 h4
  have y := odd_end (a := a) hb
  exact ⟨x.1.trans y.1, by rw [x.2]; exact y.2⟩
end Mine
end

section
open PySem PySem.W PyProof.Rows
namespace Mine
noncomputable def digs (B : Int) : Nat → Int → List Int
  | 0, _ => []
  | k + 1, x => x % B :: digs B k (x / B)
theorem digs_len (B : Int) : ∀ (k : Nat) (x : Int), (digs B k x).length = k
  | 0, _ => rfl
  | k + 1, x => by simp [digs, digs_len B k]
theorem emod_mul_parts {x B c : Int} (hB : 0 < B) (hc : 0 < c) : x % (B * c) = B * (x / B % c) + x % B := by
  have e1 := Int.mul_ediv_add_emod x B
  have e2 := Int.mul_ediv_add_emod (x / B) c
  have r0 := Int.emod_nonneg x (Int.ne_of_gt hB)
  have r1 := Int.emod_lt_of_pos x hB
  have s0 := Int.emod_nonneg (x / B) (Int.ne_of_gt hc)
  have s1 := Int.emod_lt_of_pos (x / B) hc
  have h : B * (x / B % c) ≤ B * (c - 1) := Int.mul_le_mul_of_nonneg_left (by omega) (Int.le_of_lt hB)
  have h2 : B * (c - 1) = B * c - B := by grind
  have h3 : 0 ≤ B * (x / B % c) := Int.mul_nonneg (Int.le_of_lt hB) s0
  refine (kbt_unique (q := x / B / c) (Int.mul_pos hB hc) ?_ (by omega) (by omega)).2
  generalize x / B / c = q at *
  generalize x / B % c = r at *
  generalize x / B = y at *
  generalize x % B = z at *
  rw [← e1, ← e2]; grind
theorem digs_split {B : Int} (hB : 0 < B) : ∀ (a b : Nat) (x : Int), digs B (a + b) x = digs B a (x % B ^ a) ++ digs B b (x / B ^ a)
  | 0, b, x => by simp [digs]
  | a + 1, b, x => by
    have hp : (0 : Int) < B ^ a := Int.pow_pos hB
    have e : a + 1 + b = (a + b) + 1 := by omega
    rw [e]
    show x % B :: digs B (a + b) (x / B) = (x % B ^ (a + 1) % B :: digs B a (x % B ^ (a + 1) / B)) ++ digs B b (x / B ^ (a + 1))
    have hm : x % B ^ (a + 1) = B * (x / B % B ^ a) + x % B := by rw [Int.pow_succ, Int.mul_comm (B ^ a)]; exact emod_mul_parts hB hp
    have r0 := Int.emod_nonneg x (Int.ne_of_gt hB)
    have r1 := Int.emod_lt_of_pos x hB
    have h1 : x % B ^ (a + 1) % B = x % B := by rw [hm, Int.mul_add_emod_self_left]; exact Int.emod_eq_of_lt r0 r1
    have h2 : x % B ^ (a + 1) / B = x / B % B ^ a := by
      rw [hm, Int.add_comm, Int.add_mul_ediv_left _ _ (Int.ne_of_gt hB), Int.ediv_eq_zero_of_lt r0 r1, Int.zero_add]
    have h3 : x / B ^ (a + 1) = x / B / B ^ a := by rw [Int.pow_succ, Int.mul_comm (B ^ a), Int.ediv_ediv_of_nonneg (Int.le_of_lt hB)]
    rw [h1, h2, h3, digs_split hB a b (x / B)]
    rfl
/-- a stretch of a list put anew -/
noncomputable def put (ns : List Int) (i : Nat) (ds : List Int) : List Int := ns.take i ++ ds ++ ns.drop (i + ds.length)
theorem put_len {ns : List Int} {i : Nat} {ds : List Int} (h : i + ds.length ≤ ns.length) : (put ns i ds).length = ns.length := by
  simp [put]; omega
theorem put_one {ns : List Int} {i : Nat} {x : Int} (h : i < ns.length) : ns.set i x = put ns i [x] := by
  rw [List.set_eq_take_append_cons_drop, if_pos h]; simp [put]
theorem put_put {ns : List Int} {i : Nat} {d1 d2 : List Int} (h : i + d1.length + d2.length ≤ ns.length) : put (put ns i d1) (i + d1.length) d2 = put ns i (d1 ++ d2) := by
  have h1 : (ns.take i).length = i := by simp; omega
  have e1 : (ns.take i ++ d1 ++ ns.drop (i + d1.length)).take (i + d1.length) = ns.take i ++ d1 := by
    rw [List.take_append_of_le_length (by simp; omega), List.take_of_length_le (by simp; omega)]
  have e2 : (ns.take i ++ d1 ++ ns.drop (i + d1.length)).drop (i + d1.length + d2.length) = ns.drop (i + d1.length + d2.length) := by
    rw [List.drop_append, List.drop_of_length_le (by simp; omega)]
    simp [h1]
  unfold put
  rw [e1, e2]
  simp [Nat.add_assoc]
theorem put_all {ns ds : List Int} (h : ds.length = ns.length) : put ns 0 ds = ds := by
  simp [put, h]
theorem digs_one {B x : Int} (h0 : 0 ≤ x) (h1 : x < B) : digs B 1 x = [x] := by
  simp [digs, Int.emod_eq_of_lt h0 h1]
noncomputable abbrev mid (L R : Int) : Int := (L + R).fdiv (2 ^ (1 : Int).toNat)
theorem mid_eq' (L R : Int) : mid L R = (L + R) / 2 := hf_eq (L + R)

theorem add_subL (a b : Int) : a + b - a = b := Int.sub_eq_iff_eq_add'.mpr rfl

structure MF0 (L R n N : Int) : Prop where
  nn : 0 ≤ n
  len : N ≤ 1000000
  am : 0 ≤ mid L R - L
  hmn : (mid L R - L) * n ≤ 1000000
  hm0 : 0 ≤ (mid L R - L) * n
  hmb : Builtin.Int.intBits (mid L R - L) ≤ 64
  hnb : Builtin.Int.intBits n ≤ 64
  lo : -(2 ^ 64 : Int) < mid L R - L
  hi : mid L R - L < 2 ^ 64
  lt : L < 2 ^ 63
theorem MF0.mk' {L R n N : Int} {j : Nat} (hn0 : 0 < n) (hn1 : n ≤ 100000) (h0 : 0 ≤ L) (h1 : R = L + (j + 1 : Nat)) (h2 : R ≤ N) (hv : N * n ≤ 1000000) : MF0 L R n N := by
  have hmd := mid_eq' L R
  have nn := Int.le_of_lt hn0
  have hN : N ≤ 1000000 := by
    have : N * 1 ≤ N * n := Int.mul_le_mul_of_nonneg_left hn0 (by omega)
    omega
  have am : 0 ≤ mid L R - L := by omega
  have bm : mid L R - L ≤ N := by omega
  have lo : -(2 ^ 64 : Int) < mid L R - L := Int.lt_of_lt_of_le (by decide) am
  have hi : mid L R - L < 2 ^ 64 := Int.lt_of_le_of_lt (Int.le_trans bm hN) (by decide)
  exact ⟨nn, hN, am, Int.le_trans (Int.mul_le_mul_of_nonneg_right bm nn) hv, Int.mul_nonneg am nn, intBits_le_64 lo hi, intBits_le_64 (by omega) (by omega), lo, hi, by omega⟩
structure MF (L R N : Int) (j : Nat) : Prop where
  e1 : (mid L R - L).toNat - 1 + 1 = (mid L R - L).toNat
  l1 : (mid L R - L).toNat - 1 < j + 1
  k1 : (mid L R - L).toNat - 1 < j
  m1 : mid L R = L + (((mid L R - L).toNat - 1 + 1 : Nat) : Int)
  b1 : mid L R ≤ N
  n1 : (mid L R - L).toNat - 1 + 1 ≤ j
  e2 : (R - mid L R).toNat - 1 + 1 = (R - mid L R).toNat
  k2 : (R - mid L R).toNat - 1 < j
  m2 : R = mid L R + (((R - mid L R).toNat - 1 + 1 : Nat) : Int)
  z2 : 0 ≤ mid L R
  n2 : (R - mid L R).toNat - 1 + 1 ≤ j
  su : (R - mid L R).toNat + (mid L R - L).toNat = j + 1
  us : j + 1 = (mid L R - L).toNat + (R - mid L R).toNat
  tn : (mid L R).toNat = L.toNat + (mid L R - L).toNat
  lt : L < mid L R
  tr : mid L R < R
theorem MF.mk' {L R N : Int} {j : Nat} (h0 : 0 ≤ L) (h1 : R = L + (j + 1 : Nat)) (h2 : R ≤ N) (hne : L + 1 ≠ R) : MF L R N j := by
  obtain ⟨l, rfl⟩ := Int.eq_ofNat_of_zero_le h0
  have hm : mid (l : Int) R = l + ((j + 1) / 2 : Nat) := by rw [mid_eq', h1]; omega
  obtain ⟨a, b, hab, ha⟩ : ∃ a b : Nat, j = a + b + 1 ∧ (j + 1) / 2 = a + 1 := ⟨(j + 1) / 2 - 1, j - (j + 1) / 2, by omega, by omega⟩
  rw [ha] at hm
  have hR : R = mid (l : Int) R + (b + 1 : Nat) := by rw [hm, h1, hab]; omega
  have x1 : (mid (l : Int) R - l).toNat = a + 1 := by rw [hm, add_subL, Int.toNat_natCast]
  have x2 : (R - mid (l : Int) R).toNat = b + 1 := by
    have h : R - mid (l : Int) R = (b + 1 : Nat) := by conv => lhs; lhs; rw [hR]
                                                       exact add_subL _ _
    rw [h, Int.toNat_natCast]
  have x3 : (mid (l : Int) R).toNat = l + (a + 1) := by rw [hm, ← Int.natCast_add, Int.toNat_natCast]
  subst hab
  have la : a ≤ a + b := Nat.le_add_right a b
  have lb : b ≤ a + b := Nat.le_add_left b a
  have pa : (0 : Int) < (a + 1 : Nat) := Int.natCast_pos.mpr (Nat.succ_pos a)
  have pb : (0 : Int) < (b + 1 : Nat) := Int.natCast_pos.mpr (Nat.succ_pos b)
  have tr : mid (l : Int) R < R := by
    have h := Int.lt_add_of_pos_right (mid (l : Int) R) pb
    rwa [← hR] at h
  refine ⟨by rw [x1]; rfl, by rw [x1]; exact Nat.lt_succ_of_lt (Nat.lt_succ_of_le la), by rw [x1]; exact Nat.lt_succ_of_le la, by rw [x1]; exact hm, Int.le_trans (Int.le_of_lt tr) h2, by rw [x1]; exact Nat.succ_le_succ la,
    by rw [x2]; rfl, by rw [x2]; exact Nat.lt_succ_of_le lb, by rw [x2]; exact hR, by rw [hm]; exact Int.add_nonneg h0 (Int.le_of_lt pa), by rw [x2]; exact Nat.succ_le_succ lb, by rw [x1, x2, Nat.add_comm b 1, Nat.add_comm a b, Nat.add_assoc]; omega, by rw [x1, x2]; omega, by rw [x1, x3]; rfl, ?_, tr⟩
  have h := Int.lt_add_of_pos_right (l : Int) pa
  rwa [← hm] at h
theorem pow_mul_toNat {m n : Int} (hm : 0 ≤ m) (hn : 0 ≤ n) : (2 : Int) ^ (m * n).toNat = (2 ^ n.toNat) ^ m.toNat := by
  rw [← Int.pow_mul, Int.toNat_mul hm hn, Nat.mul_comm]
end Mine
end

section
open PySem PySem.W PyProof.Rows
set_option maxRecDepth 100000
set_option maxHeartbeats 8000000
namespace Mine
noncomputable def Spec (w : World) (f : Addr) (vs : List Value) (need : Nat) (news : List (Addr × Obj)) (Post : Value → List (Addr × Obj) → Prop) : Prop :=
  ∀ (dp un : Nat) (gd : Option (List Code)) (cn : Str) (cs : Scope) (a : Addr) (ccd : Value) (cl : List (Str × Addr)) (outer : List Env) (A₀ : Around) (base h₀ : Heap) (L : Addr) (m : Str → Option Value) (s : Shared)
    (p : Program) (loose : List Str) (mean : ExcName → Option Value) (mg mb : Str → Option Value) (Q E : Value → Shared → Prop),
    Below A₀ base outer h₀ → Fr h₀ L s.heap m → (mk.heap_1 w.params).In h₀ → News h₀ L s.heap news → Top p loose mean mg mb h₀ → cs.kind = .function → dp + need < recursionLimit → un + 8 * need < cLine →
    (∀ r news' h' tk', Fr h₀ L h' m → News h₀ L h' news' → Post r news' → Q r { s with heap := h', toks := tk' }) →
    wpAny (model PySem.Challenge.rw_in0279_01.row.toRowW.prog w) (ktrTop dp un gd cn cs L a ccd cl outer) (call (.ref f) vs) Q E s
theorem Spec.use {w : World} {f : Addr} {vs : List Value} {need : Nat} {news : List (Addr × Obj)} {Post : Value → List (Addr × Obj) → Prop} (S : Spec w f vs need news Post)
    {dp un : Nat} {gd : Option (List Code)} {cn : Str} {cs : Scope} {a : Addr} {ccd : Value} {cl : List (Str × Addr)} {outer : List Env} {A₀ : Around} {base h₀ : Heap} {L : Addr} {m : Str → Option Value} {s : Shared}
    {p : Program} {loose : List Str} {mean : ExcName → Option Value} {mg mb : Str → Option Value} {Q E : Value → Shared → Prop}
    (B : Below A₀ base outer h₀) (F : Fr h₀ L s.heap m) (X : (mk.heap_1 w.params).In h₀) (N : News h₀ L s.heap news) (T : Top p loose mean mg mb h₀) (hk : cs.kind = .function) (hd : dp + need < recursionLimit) (hu : un + 8 * need < cLine)
    (ret : ∀ r news' h' tk', Fr h₀ L h' m → News h₀ L h' news' → Post r news' → Q r { s with heap := h', toks := tk' }) :
    wpAny (model PySem.Challenge.rw_in0279_01.row.toRowW.prog w) (ktrTop dp un gd cn cs L a ccd cl outer) (call (.ref f) vs) Q E s :=
  S _ _ _ _ _ _ _ _ _ _ _ _ _ _ _ _ _ _ _ _ _ _ B F X N T hk hd hu ret
theorem Spec.mono {w : World} {f : Addr} {vs : List Value} {need : Nat} {news : List (Addr × Obj)} {Post Post' : Value → List (Addr × Obj) → Prop} (S : Spec w f vs need news Post) (h : ∀ r n, Post r n → Post' r n) : Spec w f vs need news Post' :=
  fun _ _ _ _ _ _ _ _ _ _ _ _ _ _ _ _ _ _ _ _ _ _ B F X N T hk hd hu ret => S.use B F X N T hk hd hu fun r n h' t' F' N' p => ret r n h' t' F' N' (h r n p)
theorem Spec.need {w : World} {f : Addr} {vs : List Value} {n n' : Nat} {news : List (Addr × Obj)} {Post : Value → List (Addr × Obj) → Prop} (S : Spec w f vs n news Post) (h : n ≤ n') : Spec w f vs n' news Post :=
  fun _ _ _ _ _ _ _ _ _ _ _ _ _ _ _ _ _ _ _ _ _ _ B F X N T hk hd hu ret => S.use B F X N T hk (by omega) (by omega) ret
noncomputable abbrev tup (vs : List Value) : Obj := { cls := .type "tuple", data := .seq vs.toArray }
inductive PoStr (x : Str) (news : List (Addr × Obj)) : Value → List (Addr × Obj) → Prop
  | mk (t : Tok) : PoStr x news (.str x t) news
inductive PoInt (x : Int) (news : List (Addr × Obj)) : Value → List (Addr × Obj) → Prop
  | mk (t : Tok) : PoInt x news (.int x t) news
inductive PoL (P : List Value → Prop) (news : List (Addr × Obj)) : Value → List (Addr × Obj) → Prop
  | mk (D : Addr) (vs : List Value) (k : Nat) (zz0 : P vs) (zz1 : ∀ p ∈ news, p.1 ≠ D) : PoL P news (.ref D) ((D, listOf vs.toArray k) :: news)
end Mine
end

section
open PySem PySem.W PyProof.Rows
set_option maxRecDepth 100000
set_option maxHeartbeats 8000000
namespace Mine
section
inductive PoS (a b : Int) (news : List (Addr × Obj)) : Value → List (Addr × Obj) → Prop
  | mk (x : Addr) (t1 t2 : Tok) : PoS a b news (.ref x) ((x, tup [.int (a.fdiv b) t1, .int (a.fmod b) t2]) :: news)
inductive PoD (u v : Int) (news : List (Addr × Obj)) : Value → List (Addr × Obj) → Prop
  | mk (x : Addr) (t1 t2 : Tok) (q rr : Int) (zz0 : q = u) (zz1 : rr = v) : PoD u v news (.ref x) ((x, tup [.int q t1, .int rr t2]) :: news)
inductive PoE (u v : Int) (news : List (Addr × Obj)) : Value → List (Addr × Obj) → Prop
  | mk (x : Addr) (t1 t2 : Tok) (q rr : Int) (zz0 : q = u) (zz1 : rr = v) (zz2 : Builtin.Int.intBits q ≤ 4000) : PoE u v news (.ref x) ((x, tup [.int q t1, .int rr t2]) :: news)
theorem PoD.of {u v q rr : Int} {news : List (Addr × Obj)} {x : Addr} {t1 t2 : Tok} (h : q = u ∧ rr = v) : PoD u v news (.ref x) ((x, tup [.int q t1, .int rr t2]) :: news) := .mk _ _ _ _ _ h.1 h.2

theorem div2n1n_small (w : World) (a b n : Int) (ta tb tn : Tok) (news) (hb : 0 < b) (hn : Builtin.Int.intBits a - n ≤ 4000) (hbs : b.natAbs.log2 < 9000) :
    Spec w 45 [.int a ta, .int b tb, .int n tn] 1 news (PoS a b news) := by
  k_with_none
  w_top off
  k_with "om" => (first | decide | (with_reducible first | (refine neN ?_; first | (refine Nat.ne_of_lt ?_; first | ((repeat (first | assumption | exact om_k1 | refine Nat.lt_succ_of_lt ?_)); done) | (apply And.left; (iterate 18 (first | done | assumption | apply And.right)); done)) | (refine Nat.ne_of_gt ?_; first | ((repeat (first | assumption | exact om_k1 | refine Nat.lt_succ_of_lt ?_)); done) | (apply And.left; (iterate 18 (first | done | assumption | apply And.right)); done)) | (refine Ne.symm ?_; assumption) | (refine om_s ?_; omega)) | exact om_le (by assumption) rfl | exact om_ll (by assumption) rfl | exact om_lt (by assumption) rfl | exact om_lg (by assumption) rfl | exact om_r1 (by assumption) rfl | exact om_r2 (by assumption) rfl | exact om_r3 (by assumption) rfl | exact om_il (by assumption) rfl | exact om_ig (by assumption) rfl | exact om_tn (by assumption) rfl | exact om_tl (by assumption) rfl | exact om_nc (by assumption) rfl | exact Int.natCast_nonneg _ | exact Int.le_of_lt (by assumption)) | (law_clear; lia))
  k_with "execs cons" => ((first | (k_here; k_gentoks) | (refine wpAny_execs_cons ?_; k_fold; (try k_extra "mlet"))))
  k_with "stp" => (repeat' (first | (k_unfold; (try dsimp only)) | (k_end; wrow_close) | (walk1; (all_goals (try dsimp only))) | (dsimp only; walk1) | (leave1; walk_say "STEP leave1"; try dsimp only) | fail "no step"))
  k_with "spliced" => (k_dflt (first | ((with_reducible show wpAny _ _ (spliced (backTo _ (starEach [_] _))) _ _ _); refine sp1 ?_) | ((with_reducible show wpAny _ _ (spliced (backTo _ (starEach [_, _] _))) _ _ _); refine sp2 ?_) | ((with_reducible show wpAny _ _ (spliced (backTo _ (starEach [_, _, _] _))) _ _ _); refine sp3 ?_)))
  k_with "call builtin:divmod" => (((with_reducible show wpAny _ _ (call (Value.builtin _) [Value.int _ _, Value.int _ _]) _ _ _); k_dflt (refine' divmod_N ?w9F ?w9N ?w9b ?_ (Or.inl (PyProof.noPylong_of_log2 ?w9p)); (case w9F => k_asm); (case w9N => k_asm); (case w9b => omega); (case w9p => assumption)); intro hW9' FW9' NW9'))
  unfold Spec
  k_fill
  intro dp un gd cn cs ac ccd cl outer A₀ base h₀ L m s p loose mean mg mb Q E B F X N T hk hd hu hret
  refine wpAny_call ?_
  k_dflt ktr_enter
  k_extra "stp"
  exact hret _ _ _ _ (by k_asm) (by k_asm) ⟨_, _, _⟩
end
end Mine
end

section
open PySem PySem.W PyProof.Rows
set_option maxRecDepth 100000
set_option maxHeartbeats 8000000
namespace Mine
section
theorem div3n2n_small (w : World) (a12 a3 b b1 b2 n : Int) (t1 t2 t3 t4 t5 t6 : Tok) (news) (h0 : 0 ≤ n) (hn : n ≤ 4000) (ha : 0 ≤ a12) (h3 : 0 ≤ a3) (h3' : a3 < 2 ^ n.toNat) (hb : b = b1 * 2 ^ n.toNat + b2) (hb1 : 0 ≤ b1) (hb1' : b1 < 2 ^ n.toNat)
    (hb2 : 0 ≤ b2) (hb2' : b2 < 2 ^ n.toNat) (hab : a12 < b) :
    Spec w 52 [.int a12 t1, .int a3 t2, .int b t3, .int b1 t4, .int b2 t5, .int n t6] 2 news (PoD ((a12 * 2 ^ n.toNat + a3) / b) ((a12 * 2 ^ n.toNat + a3) % b) news) := by
  k_with_none
  w_top off
  k_with "om" => (first | decide | (with_reducible first | (refine neN ?_; first | (refine Nat.ne_of_lt ?_; first | ((repeat (first | assumption | exact om_k1 | refine Nat.lt_succ_of_lt ?_)); done) | (apply And.left; (iterate 18 (first | done | assumption | apply And.right)); done)) | (refine Nat.ne_of_gt ?_; first | ((repeat (first | assumption | exact om_k1 | refine Nat.lt_succ_of_lt ?_)); done) | (apply And.left; (iterate 18 (first | done | assumption | apply And.right)); done)) | (refine Ne.symm ?_; assumption) | (refine om_s ?_; omega)) | exact om_le (by assumption) rfl | exact om_ll (by assumption) rfl | exact om_lt (by assumption) rfl | exact om_lg (by assumption) rfl | exact om_r1 (by assumption) rfl | exact om_r2 (by assumption) rfl | exact om_r3 (by assumption) rfl | exact om_il (by assumption) rfl | exact om_ig (by assumption) rfl | exact om_tn (by assumption) rfl | exact om_tl (by assumption) rfl | exact om_nc (by assumption) rfl | exact Int.natCast_nonneg _ | exact Int.le_of_lt (by assumption)) | (law_clear; lia))
  k_with "execs cons" => ((first | (k_here; k_gentoks) | (refine wpAny_execs_cons ?_; k_fold; (try k_extra "mlet"))))
  k_with "stp" => (repeat' (first | (k_unfold; (try dsimp only)) | (k_end; wrow_close) | (walk1; (all_goals (try dsimp only))) | (dsimp only; walk1) | (leave1; walk_say "STEP leave1"; try dsimp only) | fail "no step"))
  k_with "spliced" => (k_dflt (first | ((with_reducible show wpAny _ _ (spliced (backTo _ (starEach [_] _))) _ _ _); refine sp1 ?_) | ((with_reducible show wpAny _ _ (spliced (backTo _ (starEach [_, _] _))) _ _ _); refine sp2 ?_) | ((with_reducible show wpAny _ _ (spliced (backTo _ (starEach [_, _, _] _))) _ _ _); refine sp3 ?_)))
  k_with "bits" => ((with_reducible assumption))
  k_with "bits" => ((refine kbm_pow _ ?_; omega))
  k_with "call ref" => (((with_reducible show wpAny _ _ (call (Value.ref 45) _) _ _ _); k_dflt (refine' Spec.use (div2n1n_small _ _ _ _ _ _ _ _ ?w9kb ?w9kn ?w9ks) ?w9B ?w9F ?w9X ?w9N ?w9T ?w9k ?w9d ?w9u ?_; (case w9B => k_asm); (case w9F => k_asm); (case w9X => k_asm); (case w9N => k_asm); (case w9T => k_asm); (case w9k => first | exact rfl | assumption); (case w9d => ktr_room); (case w9u => ktr_units)); rotate_right; intro rW9' nwW9' hW9' tkW9' FW9' NW9' hPW9'; obtain ⟨xW9', t1W9', t2W9'⟩ := hPW9'; (try dsimp only)))
  have hH : (0 : Int) < 2 ^ n.toNat := kbt_pos _
  have b1b : Builtin.Int.intBits b1 ≤ 4000 := Nat.le_trans (bits_small hb1 hb1') (by omega)
  have b2b : Builtin.Int.intBits b2 ≤ 4000 := Nat.le_trans (bits_small hb2 hb2') (by omega)
  have hbH : b < 2 ^ (n.toNat + n.toNat) := by
    have h1 : b1 * 2 ^ n.toNat ≤ (2 ^ n.toNat - 1) * 2 ^ n.toNat := Int.mul_le_mul_of_nonneg_right (by omega) (Int.le_of_lt hH)
    rw [Int.pow_add]
    have h2 : ((2 : Int) ^ n.toNat - 1) * 2 ^ n.toNat = 2 ^ n.toNat * 2 ^ n.toNat - 2 ^ n.toNat := by grind
    omega
  have a12b : Builtin.Int.intBits a12 ≤ 8000 := Nat.le_trans (bits_small ha (Int.lt_trans hab hbH)) (by omega)
  have a12n : (Builtin.Int.intBits a12 : Int) - n ≤ 4000 := by
    have := bits_small ha (Int.lt_trans hab hbH)
    omega
  have b1l : b1.natAbs.log2 < 9000 := log2_small hb1 hb1' (by omega) (by omega)
  unfold Spec
  k_fill
  k_with "state" => ((try dsimp only); first | exact st_top hb h3 h3' hab hb1 (by assumption) | exact st_low hb ha h3 h3' hab hb2 hb2' (by assumption) | exact st_turn (by assumption) (by assumption) (by assumption))
  k_with "exec While Compare cons nil" => k_while (fun _ q r => q * b + r = a12 * 2 ^ n.toNat + a3 ∧ r < b) (fun _ q r => (-r).toNat) "q" "r"
  intro dp un gd cn cs ac ccd cl outer A₀ base h₀ L m s p loose mean mg mb Q E B F X N T hk hd hu hret
  refine wpAny_call ?_
  k_dflt ktr_enter
  k_extra "stp"
  · exact hret _ _ _ _ (by k_asm) (cb_drop (by k_asm) (by kcj_all)) (PoD.of (qr_unique (by assumption) (by omega) (by assumption)))
  · exact hret _ _ _ _ (by k_asm) (cb_drop (by k_asm) (by kcj_all)) (PoD.of (qr_unique (by assumption) (by omega) (by assumption)))
  · exact Int.lt_of_le_of_lt (by rw [fdiv_ed hH]; exact Int.ediv_nonneg ha (Int.le_of_lt hH)) (d3_b1 hb hb2' hab hH (by assumption))
end
end Mine
end

section
open PySem PySem.W PyProof.Rows
set_option maxRecDepth 100000
set_option maxHeartbeats 8000000
namespace Mine
section
theorem div3n2n (w : World) {a12 a3 b b1 b2 n : Int} (P : P3 a12 a3 b b1 b2 n) (t1 t2 t3 t4 t5 t6 : Tok) (news) :
    Spec w 52 [.int a12 t1, .int a3 t2, .int b t3, .int b1 t4, .int b2 t5, .int n t6] 2 news (PoE ((a12 * 2 ^ n.toNat + a3) / b) ((a12 * 2 ^ n.toNat + a3) % b) news) := by
  refine (div3n2n_small w _ _ _ _ _ _ t1 t2 t3 t4 t5 t6 news P.h0 P.hn P.ha P.h3 P.h3' P.hb P.hb1 P.hb1' P.hb2 P.hb2' P.hab).mono ?_
  rintro r news' ⟨x, t1, t2, q, rr, h3, h4⟩
  exact ⟨x, t1, t2, q, rr, h3, h4, h3 ▸ P.qb⟩
theorem div2n1n (w : World) (a b n : Int) (ta tb tn : Tok) (news) (ha : 0 ≤ a) (hab : a < b * 2 ^ n.toNat) (hb : 0 < b) (hb' : b < 2 ^ n.toNat) (h0 : 0 ≤ n) (hn : n ≤ 7999) :
    Spec w 45 [.int a ta, .int b tb, .int n tn] 3 news (PoD (a / b) (a % b) news) := by
  have bb : Builtin.Int.intBits b ≤ 8000 := Nat.le_trans (bits_small (Int.le_of_lt hb) hb') (by omega)
  have ab : Builtin.Int.intBits a ≤ 16000 := by
    have h2 : a < 2 ^ (n.toNat + n.toNat) := by
      rw [Int.pow_add]
      exact Int.lt_of_lt_of_le hab (Int.mul_le_mul_of_nonneg_right (Int.le_of_lt hb') (Int.le_of_lt (kbt_pos _)))
    exact Nat.le_trans (bits_small ha h2) (by omega)
  have bl : b.natAbs.log2 < 9000 := log2_small (Int.le_of_lt hb) hb' (by omega) (by omega)
  have e9 : ∀ n : Int, n.fdiv (2 ^ (1 : Int).toNat) = n / 2 := hf_eq
  have f0 : 0 ≤ n.fdiv (2 ^ (1 : Int).toNat) := by rw [e9]; omega
  have f1 : 0 ≤ (n + 1).fdiv (2 ^ (1 : Int).toNat) := by rw [e9]; omega
  have f2 : n.fdiv (2 ^ (1 : Int).toNat) ≤ 1000000 := by rw [e9]; omega
  have f3 : (n + 1).fdiv (2 ^ (1 : Int).toNat) ≤ 1000000 := by rw [e9]; omega
  clear e9
  have hE1 := ev_odd ha hab hb hb' h0 hn
  have hE0 := ev_even ha hab hb hb' h0 hn
  unfold Spec
  k_with_none
  w_top off
  k_with "om" => (first | decide | (with_reducible first | (refine neN ?_; first | (refine Nat.ne_of_lt ?_; first | ((repeat (first | assumption | exact om_k1 | refine Nat.lt_succ_of_lt ?_)); done) | (apply And.left; (iterate 18 (first | done | assumption | apply And.right)); done)) | (refine Nat.ne_of_gt ?_; first | ((repeat (first | assumption | exact om_k1 | refine Nat.lt_succ_of_lt ?_)); done) | (apply And.left; (iterate 18 (first | done | assumption | apply And.right)); done)) | (refine Ne.symm ?_; assumption) | (refine om_s ?_; omega)) | exact om_le (by assumption) rfl | exact om_ll (by assumption) rfl | exact om_lt (by assumption) rfl | exact om_lg (by assumption) rfl | exact om_r1 (by assumption) rfl | exact om_r2 (by assumption) rfl | exact om_r3 (by assumption) rfl | exact om_il (by assumption) rfl | exact om_ig (by assumption) rfl | exact om_tn (by assumption) rfl | exact om_tl (by assumption) rfl | exact om_nc (by assumption) rfl | exact Int.natCast_nonneg _ | exact Int.le_of_lt (by assumption)) | (law_clear; lia))
  k_with "execs cons" => ((first | (k_here; k_gentoks) | (refine wpAny_execs_cons ?_; k_fold; (try k_extra "mlet"))))
  k_with "stp" => (repeat' (first | (k_unfold; (try dsimp only)) | (k_end; wrow_close) | (walk1; (all_goals (try dsimp only))) | (dsimp only; walk1) | (leave1; walk_say "STEP leave1"; try dsimp only) | fail "no step"))
  k_with "spliced" => (k_dflt (first | ((with_reducible show wpAny _ _ (spliced (backTo _ (starEach [_] _))) _ _ _); refine sp1 ?_) | ((with_reducible show wpAny _ _ (spliced (backTo _ (starEach [_, _] _))) _ _ _); refine sp2 ?_) | ((with_reducible show wpAny _ _ (spliced (backTo _ (starEach [_, _, _] _))) _ _ _); refine sp3 ?_)))
  k_with "bits" => ((with_reducible assumption))
  k_with "bits" => ((refine kbm_pow _ ?_; omega))
  k_with "binaryOp LShift int int" => (((with_reducible refine lshift_int ?w9kbn ?w9kbs ?_); (case w9kbn => first | with_reducible assumption | omega); (case w9kbs => (refine' kbm_shl ?w9kba ?w9kbc ?w9kbd; (case w9kba => bits_by_make); (case w9kbc => first | with_reducible assumption | omega); (case w9kbd => decide)))))
  k_with "inplaceOp LShift int int" => (((with_reducible refine ilshift_int ?w9kbn ?w9kbs ?_); (case w9kbn => first | with_reducible assumption | omega); (case w9kbs => (refine' kbm_shl ?w9kba ?w9kbc ?w9kbd; (case w9kba => bits_by_make); (case w9kbc => first | with_reducible assumption | omega); (case w9kbd => decide)))))
  k_with "call builtin:divmod" => (((with_reducible show wpAny _ _ (call (Value.builtin _) [Value.int _ _, Value.int _ _]) _ _ _); k_dflt (refine' divmod_N ?w9F ?w9N ?w9b ?_ (Or.inl (PyProof.noPylong_of_log2 ?w9p)); (case w9F => k_asm); (case w9N => k_asm); (case w9b => omega); (case w9p => assumption)); intro hW9' FW9' NW9'))
  k_with "mlet" => ((have fW9 := ‹Fr _ _ _ _›); (refine (let mW9 : PySem.Str → Option PySem.Value := _; ((fun (_ : Fr _ _ _ mW9) => ?_) fW9))))
  k_fill
  k_with "call ref" => (k_dflt (refine' Spec.use (div3n2n _ (n := hf _) (by first | exact ev_call1 (hE0 (by assumption)) | exact ev_call1 (hE1 (by assumption)) | exact ev_call2 (hE0 (by assumption)) (by assumption) | exact ev_call2 (hE1 (by assumption)) (by assumption)) _ _ _ _ _ _ _) ?B ?F ?X ?N ?T ?k ?d ?u ?_; (case B => k_asm); (case F => k_asm); (case X => k_asm); (case N => k_asm); (case T => k_asm); (case k => first | exact rfl | assumption); (case d => ktr_room); (case u => ktr_units)); intro r' nw' h' tk' F' N' hP'; obtain ⟨x', t1', t2', q', rr', hq', hrr', hqb'⟩ := hP'; (try dsimp only))
  intro dp un gd cn cs ac ccd cl outer A₀ base h₀ L m s p loose mean mg mb Q E B F X N T hk hd hu hret
  refine wpAny_call ?_
  k_dflt ktr_enter
  k_extra "stp"
  all_goals (try (exact absurd (by assumption) (show ¬ Builtin.bitAnd n 1 = 0 by assumption)))
  · exact hret _ _ _ _ (by k_asm) (by k_asm) ⟨_, _, _, _, _, fdiv_ed hb, fmod_em hb⟩
  · exact hret _ _ _ _ (by k_asm) (cb_drop (by k_asm) (by kcj_all)) (PoD.of (ev_end1 hb (hE1 (by assumption)) (by assumption) (by assumption) (by assumption) (by assumption)))
  · exact hret _ _ _ _ (by k_asm) (cb_drop (by k_asm) (by kcj_all)) (PoD.of (ev_end' (hE0 (by assumption)) (by assumption) (by assumption) (by assumption) (by assumption)))
end
end Mine
end

section
open PySem PySem.W PyProof.Rows
set_option maxRecDepth 100000
set_option maxHeartbeats 8000000
namespace Mine
noncomputable def subStmt (i j : Nat) : Stmt := match PySem.Challenge.pw_in0279_01.main.body[i]? with
  | some (.FunctionDef _ _ b ..) => b.getD j (.Pass ⟨0, 0, 0, 0⟩)
  | _ => .Pass ⟨0, 0, 0, 0⟩
noncomputable def fdParams : Stmt → Arguments
  | .FunctionDef _ a .. => a
  | _ => ⟨[], [], none, [], [], none, []⟩
noncomputable def fdBody : Stmt → List Stmt
  | .FunctionDef _ _ b .. => b
  | _ => []
noncomputable def fdScope (s : Stmt) : Scope := match s with
  | .FunctionDef _ _ _ _ _ _ sc .. => sc
  | _ => { kind := .function, names := [], isGenerator := false, isCoroutine := false }
noncomputable def fdPos : Stmt → Pos
  | .FunctionDef _ _ _ _ _ _ _ _ _ p => p
  | _ => ⟨0, 0, 0, 0⟩
theorem allLt_ne {d : Addr} : ∀ {l : List (Addr × Obj)}, AllLt d l → ∀ p ∈ l, p.1 ≠ d
  | [], _, _, hp => nomatch hp
  | q :: r, h, p, hp => by
    rcases List.mem_cons.mp hp with rfl | hp
    · exact Nat.ne_of_lt h.1
    · exact allLt_ne h.2 p hp
noncomputable abbrev i2dQ : Str := "_int2digits.<locals>.inner"
/-- what stands on the ledger while 'inner' of _int2digits runs: the def itself, its code, its three cells -/
structure I2d (f D : Addr) (n : Int) (cA cI cN : Addr) (iP : Arguments) (iB : List Stmt) (iS : Scope) (rest : List (Addr × Obj)) : Prop where
  hP : iP = fdParams (subStmt 7 1)
  hB : iB = fdBody (subStmt 7 1)
  hS : iS = fdScope (subStmt 7 1)
  hf : ∃ doc pm c' ct oc cvs t, (f, fnMade "inner" i2dQ iP iB iS [("n", cN), ("inner", cI), ("a_digits", cA)] doc pm c' ct) ∈ rest ∧ (c', oc) ∈ rest ∧ oc.data = .fields cvs ∧ cvs[1]? = some (.str i2dQ t)
  hA : ∃ o, (cA, o) ∈ rest ∧ o.data = .cell (some (.ref D))
  hI : ∃ o, (cI, o) ∈ rest ∧ o.data = .cell (some (.ref f))
  hN : ∃ o t, (cN, o) ∈ rest ∧ o.data = .cell (some (.int n t))
  hD : ∀ p ∈ rest, p.1 ≠ D
section
theorem i2d_inner (w : World) (f cA cI cN D : Addr) (n : Int) (iP : Arguments) (iB : List Stmt) (iS : Scope) (k : Nat) (rest : List (Addr × Obj)) (I : I2d f D n cA cI cN iP iB iS rest) (hn0 : 0 < n) (hn1 : n ≤ 100000) :
    ∀ (j : Nat) (x L R : Int) (tx tL tR : Tok) (vs : List Value) (ns : List Int), IntsAre vs ns → 0 ≤ x → x < (2 ^ n.toNat) ^ (j + 1) → 0 ≤ L → R = L + (j + 1 : Nat) → R ≤ ns.length → ns.length * n ≤ 1000000 →
    Spec w f [.int x tx, .int L tL, .int R tR] (j + 1) ((D, listOf vs.toArray k) :: rest) (fun r nw => r = .none ∧ ∃ vs', nw = (D, listOf vs'.toArray k) :: rest ∧ IntsAre vs' (put ns L.toNat (digs (2 ^ n.toNat) (j + 1) x))) := by
  intro j
  induction j using Nat.strongRecOn with
  | ind j ih =>
  intro x L R tx tL tR vs ns hi hx0 hx1 h0 h1 h2 hv
  have hB := kbt_pos n.toNat
  have M0 : MF0 L R n ns.length := MF0.mk' hn0 hn1 h0 h1 h2 hv
  have M1 : L + 1 ≠ R → MF L R ns.length j := MF.mk' h0 h1 h2
  have hlen := M0.len
  have hmn := M0.hmn
  have hm0 := M0.hm0
  have hmb := M0.hmb
  have hnb := M0.hnb
  have hlo := M0.lo
  have hhi := M0.hi
  have hxb : Builtin.Int.intBits x ≤ 1000000 := by
    have e : ((2 : Int) ^ n.toNat) ^ (j + 1) = 2 ^ (n.toNat * (j + 1)) := (Int.pow_mul ..).symm
    rw [e] at hx1
    refine Nat.le_trans (bits_small hx0 hx1) ?_
    have h9 : ((j + 1 : Nat) : Int) * n ≤ ns.length * n := Int.mul_le_mul_of_nonneg_right (by omega) M0.nn
    have h8 : ((n.toNat * (j + 1) : Nat) : Int) = ((j + 1 : Nat) : Int) * n := by rw [Int.natCast_mul, Int.toNat_of_nonneg M0.nn, Int.mul_comm]
    omega
  have hub : Builtin.Int.intBits (x.fdiv (2 ^ ((mid L R - L) * n).toNat)) ≤ 1000000 := intBits_fdiv_le hxb
  have c1 : L + 1 ≠ R → ∀ (tl tL tm : Tok), Spec w f [.int (Builtin.bitXor x (x.fdiv (2 ^ ((mid L R - L) * n).toNat) * 2 ^ ((mid L R - L) * n).toNat)) tl, .int L tL, .int (mid L R) tm] j ((D, listOf vs.toArray k) :: rest)
      (fun r nw => r = .none ∧ ∃ vs', nw = (D, listOf vs'.toArray k) :: rest ∧ IntsAre vs' (put ns L.toNat (digs (2 ^ n.toNat) (mid L R - L).toNat (x % (2 ^ n.toNat) ^ (mid L R - L).toNat)))) := by
    intro hne tl tL tm
    have hp := kbt_pos ((mid L R - L) * n).toNat
    have M := M1 hne
    have e1 := M.e1
    have a := ih ((mid L R - L).toNat - 1) M.k1 (x % 2 ^ ((mid L R - L) * n).toNat) L (mid L R) tl tL tm vs ns hi (Int.emod_nonneg _ (Int.ne_of_gt hp)) (by rw [e1, ← pow_mul_toNat M0.am M0.nn]; exact Int.emod_lt_of_pos _ hp) h0 M.m1 M.b1 hv
    rw [fdiv_ed hp, xor_low _ hx0]
    rw [e1] at a
    rw [← pow_mul_toNat M0.am M0.nn]
    exact a.need (e1 ▸ M.n1)
  have c2 : L + 1 ≠ R → ∀ (tl tL tm : Tok) (vs : List Value) (ns' : List Int), IntsAre vs ns' → ns'.length = ns.length → Spec w f [.int (x.fdiv (2 ^ ((mid L R - L) * n).toNat)) tl, .int (mid L R) tL, .int R tm] j ((D, listOf vs.toArray k) :: rest)
      (fun r nw => r = .none ∧ ∃ vs', nw = (D, listOf vs'.toArray k) :: rest ∧ IntsAre vs' (put ns' (mid L R).toNat (digs (2 ^ n.toNat) (R - mid L R).toNat (x / (2 ^ n.toNat) ^ (mid L R - L).toNat)))) := by
    intro hne tl tL tm vs ns' hi' hl'
    have hp := kbt_pos ((mid L R - L) * n).toNat
    have M := M1 hne
    have e1 := M.e2
    have a := ih ((R - mid L R).toNat - 1) M.k2 (x / 2 ^ ((mid L R - L) * n).toNat) (mid L R) R tl tL tm vs ns' hi' (Int.ediv_nonneg hx0 (Int.le_of_lt hp)) (by
      rw [e1, pow_mul_toNat M0.am M0.nn]
      refine Int.ediv_lt_of_lt_mul (Int.pow_pos hB) ?_
      rw [← Int.pow_add]
      rw [M.su]; exact hx1) M.z2 M.m2 (by rw [hl']; exact h2) (by rw [hl']; exact hv)
    rw [fdiv_ed hp]
    rw [e1] at a
    rw [← pow_mul_toNat M0.am M0.nn]
    exact a.need (e1 ▸ M.n2)
  obtain ⟨hP, hB', hS, ⟨doc, pm, c', ct, oc, cvs, t, hf, hc, hc1, hc2⟩, ⟨oA, hA, hA1⟩, ⟨oI, hI, hI1⟩, ⟨oN, tn, hN, hN1⟩, hD⟩ := I
  conv at hP => rhs; whnf
  conv at hB' => rhs; whnf
  conv at hS => rhs; whnf
  subst hP hB' hS
  unfold Spec
  k_with_none
  w_top off
  k_with "om" => (first | decide | (with_reducible first | (refine neN ?_; first | (refine Nat.ne_of_lt ?_; first | ((repeat (first | assumption | exact om_k1 | refine Nat.lt_succ_of_lt ?_)); done) | (apply And.left; (iterate 18 (first | done | assumption | apply And.right)); done)) | (refine Nat.ne_of_gt ?_; first | ((repeat (first | assumption | exact om_k1 | refine Nat.lt_succ_of_lt ?_)); done) | (apply And.left; (iterate 18 (first | done | assumption | apply And.right)); done)) | (refine Ne.symm ?_; assumption) | (refine om_s ?_; omega)) | exact om_le (by assumption) rfl | exact om_ll (by assumption) rfl | exact om_lt (by assumption) rfl | exact om_lg (by assumption) rfl | exact om_r1 (by assumption) rfl | exact om_r2 (by assumption) rfl | exact om_r3 (by assumption) rfl | exact om_il (by assumption) rfl | exact om_ig (by assumption) rfl | exact om_tn (by assumption) rfl | exact om_tl (by assumption) rfl | exact om_nc (by assumption) rfl | exact Int.natCast_nonneg _ | exact Int.le_of_lt (by assumption)) | (law_clear; lia))
  k_with "execs cons" => ((first | (k_here; k_gentoks) | (refine wpAny_execs_cons ?_; k_fold; (try k_extra "mlet"))))
  k_with "stp" => (repeat' (first | (k_unfold; (try dsimp only)) | (k_end; wrow_close) | (walk1; (all_goals (try dsimp only))) | (dsimp only; walk1) | (leave1; walk_say "STEP leave1"; try dsimp only) | fail "no step"))
  k_with "spliced" => (k_dflt (first | ((with_reducible show wpAny _ _ (spliced (backTo _ (starEach [_] _))) _ _ _); refine sp1 ?_) | ((with_reducible show wpAny _ _ (spliced (backTo _ (starEach [_, _] _))) _ _ _); refine sp2 ?_) | ((with_reducible show wpAny _ _ (spliced (backTo _ (starEach [_, _, _] _))) _ _ _); refine sp3 ?_)))
  k_with "eval Name" => ((k_dflt (refine' nameX_F ?w9N ?w9c ?w9m ?w9d ?_ ?w9a ?w9b; (case w9a => rfl); (case w9b => rfl); (case w9N => k_asm); (case w9c => rfl); (case w9m => first | with_reducible assumption | exact List.mem_cons_of_mem _ (by with_reducible assumption)); (case w9d => k_asm); k_whole)))
  k_with "bits" => ((with_reducible assumption))
  k_with "binaryOp LShift int int" => (((with_reducible refine lshift_int ?w9kbn ?w9kbs ?_); (case w9kbn => first | with_reducible assumption | omega); (case w9kbs => (refine' kbm_shl ?w9kba ?w9kbc ?w9kbd; (case w9kba => bits_by_make); (case w9kbc => first | with_reducible assumption | omega); (case w9kbd => decide)))))
  k_with "binaryOp RShift int int" => (((with_reducible refine rshift_int ?w9kbn ?_); (case w9kbn => first | with_reducible assumption | omega)))
  k_with "FnAt" => ((k_dflt (exact FnAt.of (by k_asm) (List.mem_cons_of_mem _ (by with_reducible assumption)))))
  k_with "callWith ref" => ((k_dflt (refine' callWith_F ?w9k1 ?_; (case w9k1 => exact FnAt.of (by k_asm) (List.mem_cons_of_mem _ (by with_reducible assumption))); k_whole)))
  k_fill
  k_with "setItem ref int int" => (k_dflt (refine' ksa_set ?k1 ?k2 (Upd.head hD) hi h0 (by omega) (by omega) ?_; (case k1 => k_asm); (case k2 => k_asm)); intro h' F' N' hi' hl' hs')
  k_with "call ref" => (k_dflt (first
    | (refine' Spec.use (c1 (by assumption) _ _ _) ?B ?F ?X ?N ?T ?k ?d ?u ?_; (case B => k_asm); (case F => k_asm); (case X => k_asm); (case N => k_asm); (case T => k_asm); (case k => first | exact rfl | assumption); (case d => ktr_room); (case u => ktr_units))
    | (refine' Spec.use (c2 (by assumption) _ _ _ _ _ (by assumption) (by rw [put_len (by rw [digs_len, ← (M1 (by assumption)).tn]; exact Int.toNat_le.mpr (M1 (by assumption)).b1)])) ?B ?F ?X ?N ?T ?k ?d ?u ?_; (case B => k_asm); (case F => k_asm); (case X => k_asm); (case N => k_asm); (case T => k_asm); (case k => first | exact rfl | assumption); (case d => ktr_room); (case u => ktr_units))); intro r' nw' h' tk' F' N' hP'; obtain ⟨hr', vs', hn', hi'⟩ := hP'; subst hr' hn'; (try dsimp only))
  intro dp un gd cn cs ac ccd cl outer A₀ base h₀ LL m s p loose mean mg mb Q E B F X N T hk hd hu hret
  refine wpAny_call ?_
  k_dflt (refine' code_nest ?k1 ?k2 ?k3 ?k4 ?k5 ?kA ?kF ?kK ?k6 ?k7 ?k8 ?k9 ?kB ?_ ?c2 ?c3 ?c4 ?c5; (case kA => exact rfl); (case kF => exact rfl); (case kK => assumption); (case k1 => k_asm); (case k2 => k_asm); (case k3 => k_asm); (case k4 => k_asm); (case k5 => k_asm); (case k6 => exact List.Mem.tail _ hf); (case k7 => exact codeRec_news (by k_asm) (List.Mem.tail _ hc) (by assumption) (by assumption)); (case k8 => ktr_room); (case k9 => exact BindsTo.of_eq rfl); (case c5 => decide); (case kB => exact locs rfl); (case c2 => exact rfl); (case c3 => exact rfl); (case c4 => exact rfl); k_whole; intro g' L' h' FG' F' N' B' X' T'; (try dsimp only); (try k_lift B'); (try k_fold))
  k_extra "stp"
  · refine hret _ _ _ _ (by k_asm) (by k_asm) ⟨rfl, _, rfl, ?_⟩
    have hj : j = 0 := by omega
    subst hj
    rw [Nat.zero_add] at hx1
    rw [digs_one hx0 (by rw [Int.pow_succ, Int.pow_zero, Int.one_mul] at hx1; exact hx1), ← put_one (by omega)]
    assumption
  · refine hret _ _ _ _ (by k_asm) (by k_asm) ⟨rfl, _, rfl, ?_⟩
    have e1 : (mid L R).toNat = L.toNat + (digs (2 ^ n.toNat) (mid L R - L).toNat (x % (2 ^ n.toNat) ^ (mid L R - L).toNat)).length := by rw [digs_len]; exact (M1 (by assumption)).tn
    have e2 := (M1 (by assumption)).us
    have e0 : R.toNat = L.toNat + (j + 1) := by rw [h1, Int.toNat_add h0 (Int.natCast_nonneg _)]; rfl
    have e3 := @put_put ns L.toNat (digs (2 ^ n.toNat) (mid L R - L).toNat (x % (2 ^ n.toNat) ^ (mid L R - L).toNat)) (digs (2 ^ n.toNat) (R - mid L R).toNat (x / (2 ^ n.toNat) ^ (mid L R - L).toNat)) (by rw [digs_len, digs_len, Nat.add_assoc, ← e2, ← e0]; exact Int.toNat_le.mpr h2)
    rw [e2, digs_split hB, ← e3, ← e1]
    assumption
end
end Mine
end

section
open PySem PySem.W PySem.Calls PyProof.Rows
set_option maxRecDepth 100000
set_option maxHeartbeats 8000000
namespace Mine
/-- a code table of a def that makes one def, before and behind its first making -/
inductive TS (P : Addr) (pos : Pos) (qual : Str) : List (Addr × Obj) → Prop
  | fresh : TS P pos qual [(P, tabObj #[])]
  | made {c' : Addr} {oc : Obj} {vs : Array Value} {t : Tok} : oc.data = .fields vs → vs[1]? = some (.str qual t) → (148 : Nat) ≤ c' → TS P pos qual [(P, tabObj #[rawInt pos.line, rawInt pos.col, .ref c']), (c', oc)]
theorem TS.off {P R : Addr} {pos : Pos} {qual : Str} {tl : List (Addr × Obj)} (h : TS P pos qual tl) (h1 : P ≠ R) (h2 : (R : Nat) < 148) : ∀ q ∈ tl, q.1 ≠ R := by
  intro q hq
  cases h with
  | fresh => simp only [List.mem_cons, List.not_mem_nil, or_false] at hq; subst hq; exact h1
  | made _ _ h3 =>
    simp only [List.mem_cons, List.not_mem_nil, or_false] at hq
    rcases hq with rfl | rfl
    · exact h1
    · exact Nat.ne_of_gt (Nat.lt_of_lt_of_le h2 h3)
theorem big_of {K : Frag} {h : Heap} (X : K.In h) (e : (K.lookup 147).isSome = true) : 148 ≤ h.objs.size := by
  obtain ⟨o, ho⟩ := Option.isSome_iff_exists.mp e
  exact Heap.lt_size (X _ _ ho)
theorem updF_app {d : Addr} {o : Obj} {r : List (Addr × Obj)} {g : Obj → List (Addr × Obj)} (U : UpdF d o r g) : ∀ {pre : List (Addr × Obj)}, (∀ p ∈ pre, p.1 ≠ d) → UpdF d o (pre ++ r) (fun o' => pre ++ g o')
  | [], _ => U
  | q :: _, h => .tail (h q (.head _)) (updF_app U fun p hp => h p (.tail _ hp))
section
variable {M : Model} {A : Around} {E : Value → Shared → Prop} {s : Shared} {h₀ : Heap} {L a c P : Addr} {m mg mb : Str → Option Value} {cn : Str} {cs : Scope} {cl : List (Str × Addr)} {pre tl news : List (Addr × Obj)}
  {p : Program} {loose : List Str} {mean : ExcName → Option Value} {name qual : Str} {params : Arguments} {body : List Stmt} {scope : Scope} {pos : Pos} {firstLine : Nat} {clos : List (Str × Addr)}
theorem make_TS {Q : Value → Shared → Prop} (F : Fr h₀ L s.heap m) (N : News h₀ L s.heap (pre ++ (tl ++ news))) (T : Top p loose mean mg mb h₀) (C : CodeHd h₀ c P) (ts : TS P pos qual tl)
    (hdis : ∀ p ∈ pre, ∀ q ∈ tl ++ news, q.1 ≠ p.1) (hP : ∀ q ∈ news, q.1 ≠ P) (hbig : ∃ p ∈ pre, (148 : Nat) ≤ p.1) (hcl : closureFor scope (envX cn cs L a (.ref c) cl) = pure clos)
    (h : ∀ f c' ctv doc pm oc vs t tl' h' tk, Fr h₀ L h' m → News h₀ L h' ((f, fnMade name qual params body scope clos doc pm c' ctv) :: (pre ++ (tl' ++ news))) → TS P pos qual tl' → (c', oc) ∈ tl' → oc.data = .fields vs →
      vs[1]? = some (.str qual t) → (∀ p ∈ pre ++ (tl' ++ news), p.1 < f) → (∀ p ∈ pre, ∀ q ∈ tl' ++ news, q.1 ≠ p.1) → Q (.ref f) { s with heap := h', toks := tk }) :
    wpAny M A (makeFunction name qual params (.stmts body) scope (envX cn cs L a (.ref c) cl) [] [] [] pos firstLine) Q E s := by
  cases ts with
  | fresh =>
    have hpre : ∀ p ∈ pre, p.1 ≠ P := fun p hp e => hdis p hp (P, tabObj #[]) (.head _) e.symm
    refine nest_K F N T C rfl (updF_app (.head hP) hpre) trivial rfl hcl fun f c' oc vs t ctv doc h' tk F' N' hd hv l1 l2 => ?_
    have l3 : ∀ p ∈ pre ++ ([(P, tabObj #[rawInt pos.line, rawInt pos.col, .ref c']), (c', oc)] ++ news), p.1 < f := by
      intro q hq
      rcases List.mem_append.mp hq with hq | hq
      · exact Nat.lt_trans (l1 q (List.mem_append_left _ hq)) l2
      · rcases List.mem_cons.mp hq with rfl | hq
        · exact Nat.lt_trans (l1 (P, tabObj #[]) (List.mem_append_right _ (.head _))) l2
        · rcases List.mem_cons.mp hq with rfl | hq
          · exact l2
          · exact Nat.lt_trans (l1 q (List.mem_append_right _ (.tail _ hq))) l2
    refine h f c' ctv doc ((mg "__name__").getD .none) oc vs t _ h' tk F' (cb_drop N' ?_) (.made hd hv (by
      obtain ⟨b, hb, hb2⟩ := hbig
      exact Nat.le_of_lt (Nat.lt_of_le_of_lt hb2 (l1 b (List.mem_append_left _ hb))))) (.tail _ (.head _)) hd hv l3 ?_
    · intro q hq
      rcases List.mem_cons.mp hq with rfl | hq
      · exact .head _
      · rcases List.mem_append.mp hq with hq | hq
        · exact .tail _ (.tail _ (List.mem_append_left _ hq))
        · rcases List.mem_cons.mp hq with rfl | hq
          · exact .tail _ (.tail _ (List.mem_append_right _ (.head _)))
          · rcases List.mem_cons.mp hq with rfl | hq
            · exact .tail _ (.head _)
            · exact .tail _ (.tail _ (List.mem_append_right _ (.tail _ hq)))
    · intro q hq r hr
      rcases List.mem_cons.mp hr with rfl | hr
      · exact hdis q hq (P, tabObj #[]) (.head _)
      · rcases List.mem_cons.mp hr with rfl | hr
        · exact Nat.ne_of_gt (l1 q (List.mem_append_left _ hq))
        · exact hdis q hq r (.tail _ hr)
  | @made c' oc vs t hd hv hbg =>
    refine nestHit_K (c' := c') F N T C rfl (List.mem_append_right _ (.head _)) trivial (by simp [codeAmong, rawInt]) hcl fun f ctv doc h' tk F' N' l1 => ?_
    exact h f c' ctv doc _ oc vs t _ h' tk F' N' (.made hd hv hbg) (.tail _ (.head _)) hd hv l1 hdis
end
end Mine
end

section
open PySem PySem.W PyProof.Rows
set_option maxRecDepth 100000
set_option maxHeartbeats 8000000
namespace Mine
theorem off_lt {l : List (Addr × Obj)} {b d : Nat} (h : ∀ p ∈ l, p.1 < b) (hb : b ≤ d) : ∀ p ∈ l, p.1 ≠ d := fun p hp => Nat.ne_of_lt (Nat.lt_of_lt_of_le (h p hp) hb)

theorem newsSwap {h h' : Heap} {L : Addr} {a b : Addr × Obj} {r : List (Addr × Obj)} (N : News h L h' (a :: b :: r)) : News h L h' (b :: a :: r) := cb_drop N (by
  intro q hq
  rcases List.mem_cons.mp hq with rfl | hq
  · exact .tail _ (.head _)
  · rcases List.mem_cons.mp hq with rfl | hq
    · exact .head _
    · exact .tail _ (.tail _ hq))
theorem rep_ints (t : Tok) : ∀ k : Nat, IntsAre (List.replicate k [Value.int 0 t]).flatten (List.replicate k 0)
  | 0 => .nil
  | k + 1 => by simp only [List.replicate_succ, List.flatten_cons, List.cons_append, List.nil_append]; exact .cons _ _ (rep_ints t k)
theorem newsGen {h h' : Heap} {L D : Addr} {k c : Nat} {t : Tok} {r : List (Addr × Obj)} (N : News h L h' ((D, listOf (List.replicate k [Value.int 0 t]).flatten.toArray c) :: r)) : ∃ vs, IntsAre vs (List.replicate k 0) ∧ News h L h' ((D, listOf vs.toArray c) :: r) := ⟨_, rep_ints t k, N⟩

theorem ints_size {vs : List Value} {ns : List Int} (h : IntsAre vs ns) : vs.toArray.size = ns.length := by have := h.length; simpa using this

theorem pow_mono {a b : Nat} (h : a ≤ b) : (2 : Int) ^ a ≤ 2 ^ b := by exact_mod_cast Nat.pow_le_pow_right (by decide) h

/-- how many digits -/
noncomputable abbrev dcntI (a n : Int) : Int := ((Builtin.Int.intBits a : Nat) + n - 1).fdiv n
noncomputable abbrev dcnt (a n : Int) : Nat := (dcntI a n).toNat
theorem dcnt_nonneg {a n : Int} (hn : 0 < n) : 0 ≤ dcntI a n := by rw [dcntI, fdiv_ed hn]; exact Int.ediv_nonneg (by omega) (by omega)

theorem dcnt_bits {a n : Int} (hn : 0 < n) : (Builtin.Int.intBits a : Int) ≤ n * dcntI a n := by
  rw [dcntI, fdiv_ed hn]
  have := Int.mul_ediv_add_emod ((Builtin.Int.intBits a : Nat) + n - 1 : Int) n
  have := Int.emod_lt_of_pos ((Builtin.Int.intBits a : Nat) + n - 1 : Int) hn
  omega
theorem dcnt_le {a n : Int} (hn : 0 < n) : dcntI a n * n ≤ (Builtin.Int.intBits a : Int) + n - 1 := by
  rw [dcntI, fdiv_ed hn, Int.mul_comm]
  have := Int.mul_ediv_add_emod ((Builtin.Int.intBits a : Nat) + n - 1 : Int) n
  have := Int.emod_nonneg ((Builtin.Int.intBits a : Nat) + n - 1 : Int) (Int.ne_of_gt hn)
  omega
theorem lt_two_bits {a : Int} (ha : 0 ≤ a) : a < 2 ^ Builtin.Int.intBits a := by
  have h := intBits_le_iff.mp (Nat.le_refl (Builtin.Int.intBits a))
  have h2 : ((a.natAbs : Nat) : Int) < ((2 ^ Builtin.Int.intBits a : Nat) : Int) := by exact_mod_cast h
  rw [Int.natAbs_of_nonneg ha, Int.natCast_pow] at h2
  exact h2
theorem lt_digits {a n : Int} (ha : 0 ≤ a) (hn : 0 < n) : a < (2 ^ n.toNat) ^ dcnt a n := by
  refine Int.lt_of_lt_of_le (lt_two_bits ha) ?_
  rw [← Int.pow_mul]
  refine pow_mono ?_
  have h1 := dcnt_bits (a := a) hn
  have h2 := dcnt_nonneg (a := a) hn
  have : ((n.toNat * dcnt a n : Nat) : Int) = n * dcntI a n := by rw [Int.natCast_mul, Int.toNat_of_nonneg (by omega), Int.toNat_of_nonneg h2]
  omega
theorem dcnt_pos {a n : Int} (hn : 0 < n) (ha : 0 ≤ a) (h : a ≠ 0) : 0 < dcnt a n := by
  have h1 := lt_digits ha hn
  rcases Nat.eq_zero_or_pos (dcnt a n) with e | e
  · rw [e] at h1; simp at h1; omega
  · exact e
section
inductive PoI (ds : List Int) (news : List (Addr × Obj)) : Value → List (Addr × Obj) → Prop
  | mk (x : Addr) (vs : List Value) (tl' : List (Addr × Obj)) (zz0 : TS 54 (fdPos (subStmt 7 1)) i2dQ tl') (zz1 : IntsAre vs ds) (zz2 : ∀ q ∈ tl' ++ news, q.1 ≠ x) : PoI ds news (.ref x) ((x, listOf vs.toArray 0) :: (tl' ++ news))
theorem int2digits (w : World) (a n : Int) (ta tn : Tok) (tl news) (hts : TS 54 (fdPos (subStmt 7 1)) i2dQ tl) (hoff : ∀ q ∈ news, q.1 ≠ 54) (hn0 : 0 < n) (hn : n ≤ 100000) (ha : 0 ≤ a) (hab : (Builtin.Int.intBits a + n - 1).fdiv n ≤ 256) (hbn : (Builtin.Int.intBits a : Int) + n ≤ 1000000) :
    Spec w 59 [.int a ta, .int n tn] 300 (tl ++ news)
      (PoI (digs (2 ^ n.toNat) ((Builtin.Int.intBits a + n - 1).fdiv n).toNat a) news) := by
  have hN0 : 0 ≤ (Builtin.Int.intBits a + n - 1).fdiv n := by rw [fdiv_ed hn0]; exact Int.ediv_nonneg (by omega) (by omega)
  unfold Spec
  k_with_none
  w_top off
  k_with "om" => (first | decide | (with_reducible first | (refine neN ?_; first | (refine Nat.ne_of_lt ?_; first | ((repeat (first | assumption | exact om_k1 | refine Nat.lt_succ_of_lt ?_)); done) | (apply And.left; (iterate 18 (first | done | assumption | apply And.right)); done)) | (refine Nat.ne_of_gt ?_; first | ((repeat (first | assumption | exact om_k1 | refine Nat.lt_succ_of_lt ?_)); done) | (apply And.left; (iterate 18 (first | done | assumption | apply And.right)); done)) | (refine Ne.symm ?_; assumption) | (refine om_s ?_; omega)) | exact om_le (by assumption) rfl | exact om_ll (by assumption) rfl | exact om_lt (by assumption) rfl | exact om_lg (by assumption) rfl | exact om_r1 (by assumption) rfl | exact om_r2 (by assumption) rfl | exact om_r3 (by assumption) rfl | exact om_il (by assumption) rfl | exact om_ig (by assumption) rfl | exact om_tn (by assumption) rfl | exact om_tl (by assumption) rfl | exact om_nc (by assumption) rfl | exact Int.natCast_nonneg _ | exact Int.le_of_lt (by assumption)) | (law_clear; lia))
  k_with "execs cons" => ((first | (k_here; k_gentoks) | (refine wpAny_execs_cons ?_; k_fold; (try k_extra "mlet"))))
  k_with "stp" => (repeat' (first | (k_unfold; (try dsimp only)) | (k_end; wrow_close) | (walk1; (all_goals (try dsimp only))) | (dsimp only; walk1) | (leave1; walk_say "STEP leave1"; try dsimp only) | fail "no step"))
  k_with "spliced" => (k_dflt (first | ((with_reducible show wpAny _ _ (spliced (backTo _ (starEach [_] _))) _ _ _); refine sp1 ?_) | ((with_reducible show wpAny _ _ (spliced (backTo _ (starEach [_, _] _))) _ _ _); refine sp2 ?_) | ((with_reducible show wpAny _ _ (spliced (backTo _ (starEach [_, _, _] _))) _ _ _); refine sp3 ?_)))
  k_with "call builtin:len" => ((k_dflt (refine' KM.len_K ?w9N ?w9m ?w9s ?w9f ?_; (case w9N => k_asm); (case w9m => exact List.Mem.head _); (case w9s => exact ints_size (by assumption)); (case w9f => (simp only [List.length_replicate]; omega)))))
  k_with "kall" => (first | assumption | exact off_lt (by assumption) (by omega))
  k_with "binaryOp Mult ref int" => ((k_dflt (refine' KMa.mul ?w9F ?w9N ?w9l ?w9lo ?w9hi ?w9z rfl ?_; (case w9F => k_asm); (case w9N => k_asm); (case w9l => is_list); (case w9lo => omega); (case w9hi => omega); (case w9z => (simp only [List.length_cons, List.length_nil]; omega)); k_whole); intro DW9' hW9' FW9' NW9' l1W9; (try k_lt l1W9)))
  k_fill
  intro dp un gd cn cs ac ccd cl outer A₀ base h₀ L m s p loose mean mg mb Q E B F X N T hk hd hu hret
  have C54 : CodeHd h₀ 58 54 := codeHd_of_K X (by kernel_rfl)
  refine wpAny_call ?_
  k_dflt (refine' code_defC ?k1 ?k2 ?k3 ?k4 ?k5 ?kA ?kF ?kK ?k6 ?k7 ?k8 ?k9 ?kB ?kD ?_ ?c2 ?c3 ?c4; (case kA => exact rfl); (case kF => exact rfl); (case kK => assumption); (case k1 => k_asm); (case k2 => k_asm); (case k3 => k_asm); (case k4 => k_asm); (case k5 => k_asm); (case k6 => k_is); (case k7 => k_is); (case k8 => ktr_room); (case k9 => exact BindsTo.of_eq rfl); (case kB => exact rfl); (case kD => decide +kernel); (case c2 => exact rfl); (case c3 => exact rfl); (case c4 => exact rfl); k_whole; intro g' L' h' tk' cells' FG' F' N' Y' B' X' T' l1; (try k_lt l1); k_cells Y'; (try simp only [List.cons_append, List.nil_append] at N'); (try dsimp only); (try k_lift B'); (try k_fold))
  have hL' := F'.above
  have C54' : CodeHd g' 58 54 := codeHd_of_K X' (by kernel_rfl)
  k_extra "stp"
  k_dflt (refine' nestDef_K ?d0 ?k0 ?a0 ?_; (case d0 => exact rfl); (case k0 => exact rfl); (case a0 => exact rfl))
  k_dflt (refine' make_TS (pre := [_, _, _, _, _]) ?F ?N ?T C54' hts ?dis hoff ?big ?cl ?_; (case F => k_asm); (case N => k_asm); (case T => k_asm); (case big => exact ⟨_, .tail _ (.tail _ (.head _)), by have := big_of X' (by kernel_rfl); show (148 : Nat) ≤ L' + 1 + 1 + 1; omega⟩); (case cl => exact rfl))
  · intro p hp q hq
    have h9 := ltN (l1 q hq)
    simp only [List.mem_cons, List.not_mem_nil, or_false] at hp
    refine neN ?_
    rcases hp with rfl | rfl | rfl | rfl | rfl <;> (dsimp only; omega)
  intro f c' ctv doc pm oc cvs tq tl' h' tk F' N' hts' hc hc1 hc2 l2 hdis
  simp only [List.cons_append, List.nil_append] at N' l2
  simp only [List.forall_mem_cons] at hdis
  obtain ⟨y1, y2, y3, y4, y5, _⟩ := hdis
  have l3 : ∀ p ∈ tl' ++ news, p.1 < f := fun p hp => l2 p (by simp only [List.mem_cons]; exact .inr (.inr (.inr (.inr (.inr hp)))))
  k_lt l2
  obtain ⟨vz, hz, N'⟩ := newsGen (newsSwap N')
  (try dsimp only)
  (try k_fold)
  k_extra "stp"
  · have hNp : 0 < dcnt a n := dcnt_pos hn0 ha (by assumption)
    have hj : dcnt a n - 1 + 1 = dcnt a n := by omega
    have hxd := lt_digits ha hn0
    have h256 : dcnt a n ≤ 256 := by show ((_ : Int).fdiv n).toNat ≤ 256; omega
    have hcl := dcnt_le (a := a) hn0
    k_dflt (refine' Spec.use ((i2d_inner w f (L' + 1 + 1) (L' + 1 + 1 + 1) (L' + 1) _ n _ _ _ 0 _ (I2d.mk ?hP ?hB ?hS ⟨doc, pm, c', ctv, oc, cvs, tq, .head _, ?hcm, hc1, hc2⟩ ⟨_, ?hA, ?hA2⟩ ⟨_, ?hI, ?hI2⟩ ⟨_, _, ?hN, ?hN2⟩ ?hD) hn0 hn (dcnt a n - 1) a 0 _ ta _ _ vz _ hz ha ?hx (by omega) ?hR ?hR2 ?hb).need (n' := 256) ?hne) ?B ?F ?X ?N ?T ?k ?d ?u ?_; (case B => k_asm); (case F => k_asm); (case X => k_asm); (case N => k_asm); (case T => k_asm); (case k => first | exact rfl | assumption); (case d => ktr_room); (case u => ktr_units))
    case hP => exact rfl
    case hB => exact rfl
    case hS => exact rfl
    case hcm => (repeat apply List.Mem.tail); exact List.mem_append_left _ hc
    case hA2 => assumption
    case hA => repeat (first | exact List.Mem.head _ | apply List.Mem.tail)
    case hI2 => assumption
    case hI => repeat (first | exact List.Mem.head _ | apply List.Mem.tail)
    case hN2 => first | assumption | exact d1' | skip
    case hN => repeat (first | exact List.Mem.head _ | apply List.Mem.tail)
    case hx => rw [hj]; exact hxd
    case hR => rw [List.length_replicate, hj, Int.zero_add]
    case hR2 => exact Int.le_refl _
    case hb => rw [List.length_replicate, Int.toNat_of_nonneg hN0]; exact Int.le_trans hcl (by omega)
    case hne => rw [hj]; exact h256
    case hD =>
      intro p hp
      simp only [List.mem_cons] at hp
      rcases hp with rfl | rfl | rfl | rfl | rfl | hp
      · exact neN (by dsimp only; omega)
      · exact neN (by dsimp only; omega)
      · exact neN (by dsimp only; omega)
      · exact neN (by dsimp only; omega)
      · exact neN (by dsimp only; omega)
      · exact y1 _ hp
    intro r9 nw9 h9 tk9 F9 N9 P9
    obtain ⟨hr9, vs9, hn9, hi9⟩ := P9
    subst hr9 hn9
    (try dsimp only)
    k_extra "stp"
    refine hret _ _ _ _ (by k_asm) (cb_drop (by k_asm) (by kcj_all)) ⟨_, _, _, hts', ?_, y1⟩
    have e9 : put (List.replicate (dcnt a n) 0) (0 : Int).toNat (digs (2 ^ n.toNat) (dcnt a n) a) = digs (2 ^ n.toNat) (dcnt a n) a := put_all (by rw [digs_len, List.length_replicate])
    rw [hj] at hi9
    exact e9 ▸ hi9
  · refine hret _ _ _ _ (by k_asm) (cb_drop (by k_asm) (by kcj_all)) ⟨_, _, _, hts', ?_, y1⟩
    have e0 : dcnt a n = 0 := by
      have ha0 : a = 0 := by assumption
      subst ha0
      have : dcntI 0 n = 0 := by
        rw [dcntI, fdiv_ed hn0]
        exact Int.ediv_eq_zero_of_lt (by omega) (by have : Builtin.Int.intBits 0 = 0 := by decide +kernel
                                                    omega)
      show (dcntI 0 n).toNat = 0
      rw [this]; rfl
    show IntsAre vz (digs (2 ^ n.toNat) (dcnt a n) a)
    have hz' : IntsAre vz (List.replicate (dcnt a n) 0) := hz
    rw [e0] at hz' ⊢
    exact hz'
end
end Mine
end

section
open PySem PySem.W PyProof.Rows
set_option maxRecDepth 100000
set_option maxHeartbeats 8000000
namespace Mine
noncomputable def und (B : Int) : List Int → Int
  | [] => 0
  | d :: r => d + B * und B r
theorem und_app (B : Int) (ys : List Int) : ∀ xs, und B (xs ++ ys) = und B xs + B ^ xs.length * und B ys
  | [] => by simp [und]
  | d :: r => by
    rw [List.cons_append]
    simp only [und, List.length_cons, und_app B ys r, Int.pow_succ]
    grind
theorem und_bound {B : Int} (hB : 0 < B) : ∀ {xs : List Int}, (∀ d ∈ xs, 0 ≤ d ∧ d < B) → 0 ≤ und B xs ∧ und B xs < B ^ xs.length
  | [], _ => by simp [und]
  | d :: r, h => by
    have ⟨a, b⟩ := und_bound hB (xs := r) fun e he => h e (.tail _ he)
    have ⟨c, e⟩ := h d (.head _)
    simp only [und, List.length_cons, Int.pow_succ]
    have h1 : 0 ≤ B * und B r := Int.mul_nonneg (Int.le_of_lt hB) a
    have h2 : B * und B r ≤ B * (B ^ r.length - 1) := Int.mul_le_mul_of_nonneg_left (by omega) (Int.le_of_lt hB)
    have h3 : B * (B ^ r.length - 1) = B ^ r.length * B - B := by grind
    omega
noncomputable def seg (ns : List Int) (L k : Nat) : List Int := (ns.drop L).take k
theorem seg_split (ns : List Int) (L a b : Nat) : seg ns L (a + b) = seg ns L a ++ seg ns (L + a) b := by
  rw [seg, seg, seg, List.take_add, List.drop_drop]
theorem seg_len {ns : List Int} {L k : Nat} (h : L + k ≤ ns.length) : (seg ns L k).length = k := by rw [seg, List.length_take, List.length_drop]; omega

theorem seg_mem {ns : List Int} {L k : Nat} {d : Int} (h : d ∈ seg ns L k) : d ∈ ns := List.mem_of_mem_drop (List.mem_of_mem_take h)

theorem seg_one {B : Int} {ns : List Int} {i : Nat} (h : i < ns.length) : und B (seg ns i 1) = ns.getD i 0 := by
  have : seg ns i 1 = [ns[i]] := by rw [seg, List.drop_eq_getElem_cons h]; rfl
  rw [this]
  simp [und, List.getD_eq_getElem?_getD, h]
theorem toNat_seg {a b : Int} (h0 : 0 ≤ a) (h : a ≤ b) : b.toNat = a.toNat + (b - a).toNat := by
  rw [← Int.toNat_add h0 (Int.sub_nonneg.mpr h), show a + (b - a) = b from (Int.sub_eq_iff_eq_add'.mp rfl).symm]
theorem und_seg_split {n : Int} (hn : 0 ≤ n) {ns : List Int} {L R m : Int} (h0 : 0 ≤ L) (hLm : L ≤ m) (hmR : m ≤ R) (hR : R ≤ ns.length) :
    und (2 ^ n.toNat) (seg ns m.toNat (R - m).toNat) * 2 ^ ((m - L) * n).toNat + und (2 ^ n.toNat) (seg ns L.toNat (m - L).toNat) = und (2 ^ n.toNat) (seg ns L.toNat (R - L).toNat) := by
  have e0 := toNat_seg (Int.le_trans h0 hLm) hmR
  have e1 := toNat_seg h0 hLm
  have e3 := toNat_seg h0 (Int.le_trans hLm hmR)
  have hm0 := Int.sub_nonneg.mpr hLm
  have e2 : (R - L).toNat = (m - L).toNat + (R - m).toNat := Nat.add_left_cancel (e3.symm.trans (by rw [e0, e1, Nat.add_assoc]))
  have e4 : L.toNat + (m - L).toNat ≤ ns.length := by rw [← e1]; exact Int.toNat_le.mpr (Int.le_trans hmR hR)
  rw [e2, seg_split, und_app, seg_len e4, pow_mul_toNat hm0 hn, ← e1]
  grind
/-- what stands on the ledger while 'inner' of _digits2int runs -/
structure D2i (f D : Addr) (n : Int) (cA cI cN : Addr) (iP : Arguments) (iB : List Stmt) (iS : Scope) (rest : List (Addr × Obj)) : Prop where
  hP : iP = fdParams (subStmt 8 0)
  hB : iB = fdBody (subStmt 8 0)
  hS : iS = fdScope (subStmt 8 0)
  hf : ∃ doc pm c' ct oc cvs t, (f, fnMade "inner" "_digits2int.<locals>.inner" iP iB iS [("n", cN), ("inner", cI), ("digits", cA)] doc pm c' ct) ∈ rest ∧ (c', oc) ∈ rest ∧ oc.data = .fields cvs ∧ cvs[1]? = some (.str "_digits2int.<locals>.inner" t)
  hA : ∃ o, (cA, o) ∈ rest ∧ o.data = .cell (some (.ref D))
  hI : ∃ o, (cI, o) ∈ rest ∧ o.data = .cell (some (.ref f))
  hN : ∃ o t, (cN, o) ∈ rest ∧ o.data = .cell (some (.int n t))
theorem newsRot4 {h h' : Heap} {L : Addr} {a b c d e : Addr × Obj} {r : List (Addr × Obj)} (N : News h L h' (a :: b :: c :: d :: e :: r)) : News h L h' (e :: a :: b :: c :: d :: r) := cb_drop N (s_cons (mi 4 rfl) (s_cons (mi 0 rfl) (s_cons (mi 1 rfl) (s_cons (mi 2 rfl) (s_cons (mi 3 rfl) fun _ h => .tail _ (.tail _ (.tail _ (.tail _ (.tail _ h)))))))))

section
theorem d2i_inner (w : World) (f cA cI cN D : Addr) (n : Int) (iP : Arguments) (iB : List Stmt) (iS : Scope) (vs : List Value) (ns : List Int) (k : Nat) (rest : List (Addr × Obj)) (I : D2i f D n cA cI cN iP iB iS rest) (hn0 : 0 < n) (hn1 : n ≤ 100000)
    (hi : IntsAre vs ns) (hd : ∀ d ∈ ns, 0 ≤ d ∧ d < 2 ^ n.toNat) (hv : ns.length * n ≤ 1000000) :
    ∀ (j : Nat) (L R : Int) (tL tR : Tok), 0 ≤ L → R = L + (j + 1 : Nat) → R ≤ ns.length →
    Spec w f [.int L tL, .int R tR] (j + 1) ((D, listOf vs.toArray k) :: rest) (fun r nw => nw = (D, listOf vs.toArray k) :: rest ∧ ∃ x t, r = .int x t ∧ x = und (2 ^ n.toNat) (seg ns L.toNat (R - L).toNat) ∧ Builtin.Int.intBits x ≤ 1000000) := by
  intro j
  induction j using Nat.strongRecOn with
  | ind j ih =>
  intro L R tL tR h0 h1 h2
  have hB := kbt_pos n.toNat
  have M0 : MF0 L R n ns.length := MF0.mk' hn0 hn1 h0 h1 h2 hv
  have M1 : L + 1 ≠ R → MF L R ns.length j := MF.mk' h0 h1 h2
  have hlen := M0.len
  have hmn := M0.hmn
  have hm0 := M0.hm0
  have hmb := M0.hmb
  have hnb := M0.hnb
  have hlo := M0.lo
  have hhi := M0.hi
  have hub : Builtin.Int.intBits (und (2 ^ n.toNat) (seg ns L.toNat (R - L).toNat)) ≤ 1000000 := by
    have ⟨a, b⟩ := und_bound hB (xs := seg ns L.toNat (R - L).toNat) fun d h => hd d (seg_mem h)
    rw [seg_len (by omega), ← Int.pow_mul] at b
    refine Nat.le_trans (bits_small a b) ?_
    have h9 : (((R - L).toNat : Nat) : Int) * n ≤ ns.length * n := Int.mul_le_mul_of_nonneg_right (by omega) (by omega)
    have h8 : ((n.toNat * (R - L).toNat : Nat) : Int) = ((R - L).toNat : Int) * n := by rw [Int.natCast_mul, Int.toNat_of_nonneg (by omega), Int.mul_comm]
    omega
  have c1 : L + 1 ≠ R → ∀ (tL tm : Tok), Spec w f [.int (mid L R) tL, .int R tm] j ((D, listOf vs.toArray k) :: rest)
      (fun r nw => nw = (D, listOf vs.toArray k) :: rest ∧ ∃ x t, r = .int x t ∧ x = und (2 ^ n.toNat) (seg ns (mid L R).toNat (R - mid L R).toNat) ∧ Builtin.Int.intBits x ≤ 1000000) := by
    intro hne tL tm
    have M := M1 hne
    exact (ih ((R - mid L R).toNat - 1) M.k2 (mid L R) R tL tm M.z2 M.m2 h2).need M.n2
  have c2 : L + 1 ≠ R → ∀ (tL tm : Tok), Spec w f [.int L tL, .int (mid L R) tm] j ((D, listOf vs.toArray k) :: rest)
      (fun r nw => nw = (D, listOf vs.toArray k) :: rest ∧ ∃ x t, r = .int x t ∧ x = und (2 ^ n.toNat) (seg ns L.toNat (mid L R - L).toNat) ∧ Builtin.Int.intBits x ≤ 1000000) := by
    intro hne tL tm
    have M := M1 hne
    exact (ih ((mid L R - L).toNat - 1) M.k1 L (mid L R) tL tm h0 M.m1 M.b1).need M.n1
  obtain ⟨hP, hB', hS, ⟨doc, pm, c', ct, oc, cvs, t, hf, hc, hc1, hc2⟩, ⟨oA, hA, hA1⟩, ⟨oI, hI, hI1⟩, ⟨oN, tn, hN, hN1⟩⟩ := I
  conv at hP => rhs; whnf
  conv at hB' => rhs; whnf
  conv at hS => rhs; whnf
  subst hP hB' hS
  unfold Spec
  k_with_none
  w_top off
  k_with "om" => (first | decide | (with_reducible first | (refine neN ?_; first | (refine Nat.ne_of_lt ?_; first | ((repeat (first | assumption | exact om_k1 | refine Nat.lt_succ_of_lt ?_)); done) | (apply And.left; (iterate 18 (first | done | assumption | apply And.right)); done)) | (refine Nat.ne_of_gt ?_; first | ((repeat (first | assumption | exact om_k1 | refine Nat.lt_succ_of_lt ?_)); done) | (apply And.left; (iterate 18 (first | done | assumption | apply And.right)); done)) | (refine Ne.symm ?_; assumption) | (refine om_s ?_; omega)) | exact om_le (by assumption) rfl | exact om_ll (by assumption) rfl | exact om_lt (by assumption) rfl | exact om_lg (by assumption) rfl | exact om_r1 (by assumption) rfl | exact om_r2 (by assumption) rfl | exact om_r3 (by assumption) rfl | exact om_il (by assumption) rfl | exact om_ig (by assumption) rfl | exact om_tn (by assumption) rfl | exact om_tl (by assumption) rfl | exact om_nc (by assumption) rfl | exact Int.natCast_nonneg _ | exact Int.le_of_lt (by assumption)) | (law_clear; lia))
  k_with "execs cons" => ((first | (k_here; k_gentoks) | (refine wpAny_execs_cons ?_; k_fold; (try k_extra "mlet"))))
  k_with "stp" => (repeat' (first | (k_unfold; (try dsimp only)) | (k_end; wrow_close) | (walk1; (all_goals (try dsimp only))) | (dsimp only; walk1) | (leave1; walk_say "STEP leave1"; try dsimp only) | fail "no step"))
  k_with "spliced" => (k_dflt (first | ((with_reducible show wpAny _ _ (spliced (backTo _ (starEach [_] _))) _ _ _); refine sp1 ?_) | ((with_reducible show wpAny _ _ (spliced (backTo _ (starEach [_, _] _))) _ _ _); refine sp2 ?_) | ((with_reducible show wpAny _ _ (spliced (backTo _ (starEach [_, _, _] _))) _ _ _); refine sp3 ?_)))
  k_with "eval Name" => ((k_dflt (refine' nameX_F ?w9N ?w9c ?w9m ?w9d ?_ ?w9a ?w9b; (case w9a => rfl); (case w9b => rfl); (case w9N => k_asm); (case w9c => rfl); (case w9m => first | with_reducible assumption | exact List.mem_cons_of_mem _ (by with_reducible assumption)); (case w9d => k_asm); k_whole)))
  k_with "bits" => ((with_reducible assumption))
  k_with "binaryOp LShift int int" => (((with_reducible refine lshift_int ?w9kbn ?w9kbs ?_); (case w9kbn => first | with_reducible assumption | omega); (case w9kbs => (refine' kbm_shl ?w9kba ?w9kbc ?w9kbd; (case w9kba => bits_by_make); (case w9kbc => first | with_reducible assumption | omega); (case w9kbd => decide)))))
  k_with "binaryOp RShift int int" => (((with_reducible refine rshift_int ?w9kbn ?_); (case w9kbn => first | with_reducible assumption | omega)))
  k_with "FnAt" => ((k_dflt (exact FnAt.of (by k_asm) (List.mem_cons_of_mem _ (by with_reducible assumption)))))
  k_with "callWith ref" => ((k_dflt (refine' callWith_F ?w9k1 ?_; (case w9k1 => exact FnAt.of (by k_asm) (List.mem_cons_of_mem _ (by with_reducible assumption))); k_whole)))
  k_fill
  k_with "call ref" => (k_dflt (first
    | (refine' Spec.use (c1 (by assumption) _ _) ?B ?F ?X ?N ?T ?k ?d ?u ?_; (case B => k_asm); (case F => k_asm); (case X => k_asm); (case N => k_asm); (case T => k_asm); (case k => first | exact rfl | assumption); (case d => ktr_room); (case u => ktr_units))
    | (refine' Spec.use (c2 (by assumption) _ _) ?B ?F ?X ?N ?T ?k ?d ?u ?_; (case B => k_asm); (case F => k_asm); (case X => k_asm); (case N => k_asm); (case T => k_asm); (case k => first | exact rfl | assumption); (case d => ktr_room); (case u => ktr_units))); intro r' nw' h' tk' F' N' hP'; obtain ⟨hn', x', t', hr', hx', hb'⟩ := hP'; subst hr' hn'; (try dsimp only))
  intro dp un gd cn cs ac ccd cl outer A₀ base h₀ LL m s p loose mean mg mb Q E B F X N T hk hd hu hret
  refine wpAny_call ?_
  k_dflt (refine' code_nest ?k1 ?k2 ?k3 ?k4 ?k5 ?kA ?kF ?kK ?k6 ?k7 ?k8 ?k9 ?kB ?_ ?c2 ?c3 ?c4 ?c5; (case kA => exact rfl); (case kF => exact rfl); (case kK => assumption); (case k1 => k_asm); (case k2 => k_asm); (case k3 => k_asm); (case k4 => k_asm); (case k5 => k_asm); (case k6 => exact List.Mem.tail _ hf); (case k7 => exact codeRec_news (by k_asm) (List.Mem.tail _ hc) (by assumption) (by assumption)); (case k8 => ktr_room); (case k9 => exact BindsTo.of_eq rfl); (case c5 => decide); (case kB => exact locs rfl); (case c2 => exact rfl); (case c3 => exact rfl); (case c4 => exact rfl); k_whole; intro g' L' h' FG' F' N' B' X' T'; (try dsimp only); (try k_lift B'); (try k_fold))
  k_extra "stp"
  · have e1 : ns.getD L.toNat 0 = und (2 ^ n.toNat) (seg ns L.toNat (R - L).toNat) := by
      have : (R - L).toNat = 1 := by omega
      rw [this, seg_one (by omega)]
    exact hret _ _ _ _ (by k_asm) (by k_asm) ⟨rfl, _, _, rfl, e1, e1 ▸ hub⟩
  · have hx1 := und_seg_split (n := n) M0.nn (ns := ns) (L := L) (R := R) h0 (Int.le_of_lt (M1 (by assumption)).lt) (Int.le_of_lt (M1 (by assumption)).tr) h2
    subst_vars
    exact hret _ _ _ _ (by k_asm) (by k_asm) ⟨rfl, _, _, rfl, hx1, hx1 ▸ hub⟩
end
end Mine
end

section
open PySem PySem.W PyProof.Rows
set_option maxRecDepth 100000
set_option maxHeartbeats 8000000
namespace Mine

section
inductive PoU (u : Int) (d : Addr × Obj) (news : List (Addr × Obj)) : Value → List (Addr × Obj) → Prop
  | mk (x : Int) (t : Tok) (tl' : List (Addr × Obj)) (zz1 : x = u) (zz0 : TS 61 (fdPos (subStmt 8 0)) "_digits2int.<locals>.inner" tl') : PoU u d news (.int x t) (d :: (tl' ++ news))
theorem digits2int (w : World) (D : Addr) (n : Int) (tn : Tok) (vs : List Value) (ns : List Int) (k : Nat) (tl news) (hts : TS 61 (fdPos (subStmt 8 0)) "_digits2int.<locals>.inner" tl) (hoff : ∀ q ∈ news, q.1 ≠ 61) (hi : IntsAre vs ns) (hn0 : 0 < n) (hn : n ≤ 100000)
    (hl : ns.length ≤ 256) (hb : ns.length * n ≤ 1000000) (hD2 : ∀ q ∈ tl ++ news, q.1 ≠ D) (hds : ∀ d ∈ ns, 0 ≤ d ∧ d < 2 ^ n.toNat) :
    Spec w 66 [.ref D, .int n tn] 300 ((D, listOf vs.toArray k) :: (tl ++ news))
      (PoU (und (2 ^ n.toNat) ns) (D, listOf vs.toArray k) news) := by
  unfold Spec
  k_with_none
  w_top off
  k_with "om" => (first | decide | (with_reducible first | (refine neN ?_; first | (refine Nat.ne_of_lt ?_; first | ((repeat (first | assumption | exact om_k1 | refine Nat.lt_succ_of_lt ?_)); done) | (apply And.left; (iterate 18 (first | done | assumption | apply And.right)); done)) | (refine Nat.ne_of_gt ?_; first | ((repeat (first | assumption | exact om_k1 | refine Nat.lt_succ_of_lt ?_)); done) | (apply And.left; (iterate 18 (first | done | assumption | apply And.right)); done)) | (refine Ne.symm ?_; assumption) | (refine om_s ?_; omega)) | exact om_le (by assumption) rfl | exact om_ll (by assumption) rfl | exact om_lt (by assumption) rfl | exact om_lg (by assumption) rfl | exact om_r1 (by assumption) rfl | exact om_r2 (by assumption) rfl | exact om_r3 (by assumption) rfl | exact om_il (by assumption) rfl | exact om_ig (by assumption) rfl | exact om_tn (by assumption) rfl | exact om_tl (by assumption) rfl | exact om_nc (by assumption) rfl | exact Int.natCast_nonneg _ | exact Int.le_of_lt (by assumption)) | (law_clear; lia))
  k_with "execs cons" => ((first | (k_here; k_gentoks) | (refine wpAny_execs_cons ?_; k_fold; (try k_extra "mlet"))))
  k_with "stp" => (repeat' (first | (k_unfold; (try dsimp only)) | (k_end; wrow_close) | (walk1; (all_goals (try dsimp only))) | (dsimp only; walk1) | (leave1; walk_say "STEP leave1"; try dsimp only) | fail "no step"))
  k_with "spliced" => (k_dflt (first | ((with_reducible show wpAny _ _ (spliced (backTo _ (starEach [_] _))) _ _ _); refine sp1 ?_) | ((with_reducible show wpAny _ _ (spliced (backTo _ (starEach [_, _] _))) _ _ _); refine sp2 ?_) | ((with_reducible show wpAny _ _ (spliced (backTo _ (starEach [_, _, _] _))) _ _ _); refine sp3 ?_)))
  k_with "kall" => (first | assumption | exact off_lt (by assumption) (by omega))
  k_with "call builtin:len" => ((k_dflt (refine' KM.len_K ?w9N ?w9m ?w9s ?w9f ?_; (case w9N => k_asm); (case w9m => exact List.Mem.head _); (case w9s => exact ints_size (by assumption)); (case w9f => omega))))
  k_fill
  intro dp un gd cn cs ac ccd cl outer A₀ base h₀ L m s p loose mean mg mb Q E B F X N T hk hd hu hret
  have C54 : CodeHd h₀ 65 61 := codeHd_of_K X (by kernel_rfl)
  refine wpAny_call ?_
  k_dflt (refine' code_defC ?k1 ?k2 ?k3 ?k4 ?k5 ?kA ?kF ?kK ?k6 ?k7 ?k8 ?k9 ?kB ?kD ?_ ?c2 ?c3 ?c4; (case kA => exact rfl); (case kF => exact rfl); (case kK => assumption); (case k1 => k_asm); (case k2 => k_asm); (case k3 => k_asm); (case k4 => k_asm); (case k5 => k_asm); (case k6 => k_is); (case k7 => k_is); (case k8 => ktr_room); (case k9 => exact BindsTo.of_eq rfl); (case kB => exact rfl); (case kD => decide +kernel); (case c2 => exact rfl); (case c3 => exact rfl); (case c4 => exact rfl); k_whole; intro g' L' h' tk' cells' FG' F' N' Y' B' X' T' l1; (try k_lt l1); k_cells Y'; (try simp only [List.cons_append, List.nil_append] at N'); (try dsimp only); (try k_lift B'); (try k_fold))
  have hL' := F'.above
  have C54' : CodeHd g' 65 61 := codeHd_of_K X' (by kernel_rfl)
  k_extra "stp"
  k_dflt (refine' nestDef_K ?d0 ?k0 ?a0 ?_; (case d0 => exact rfl); (case k0 => exact rfl); (case a0 => exact rfl))
  k_dflt (refine' make_TS (pre := [_, _, _, _]) ?F ?N ?T C54' hts ?dis hoff ?big ?cl ?_; (case F => k_asm); (case N => k_asm); (case T => k_asm); (case big => exact ⟨_, .head _, by have := big_of X' (by kernel_rfl); show (148 : Nat) ≤ L' + 1 + 1 + 1; omega⟩); (case cl => exact rfl))
  · have h8 := kst_ltOf l1.2
    intro p hp q hq
    have h9 := ltN (h8 q hq)
    simp only [List.mem_cons, List.not_mem_nil, or_false] at hp
    rcases hp with rfl | rfl | rfl | rfl
    · exact neN (by dsimp only; omega)
    · exact neN (by dsimp only; omega)
    · exact neN (by dsimp only; omega)
    · exact hD2 q hq
  intro f c' ctv doc pm oc cvs tq tl' h' tk F' N' hts' hc hc1 hc2 l2 hdis
  simp only [List.cons_append, List.nil_append] at N' l2
  simp only [List.forall_mem_cons] at hdis
  obtain ⟨y1, y2, y3, y4, _⟩ := hdis
  k_lt l2
  replace N' := newsRot4 N'
  (try dsimp only)
  (try k_fold)
  k_extra "stp"
  · k_dflt (refine' Spec.use ((d2i_inner w f (L' + 1) (L' + 1 + 1 + 1) (L' + 1 + 1) D n _ _ _ vs ns k _ (D2i.mk ?hP ?hB ?hS ⟨doc, pm, c', ctv, oc, cvs, tq, .head _, ?hcm, hc1, hc2⟩ ⟨_, ?hA, ?hA2⟩ ⟨_, ?hI, ?hI2⟩ ⟨_, _, ?hN, ?hN2⟩) hn0 hn hi hds hb (ns.length - 1) 0 ns.length _ _ (by omega) (by omega) (by omega)).need (n' := 256) (by omega)) ?B ?F ?X ?N ?T ?k ?d ?u ?_; (case B => k_asm); (case F => k_asm); (case X => k_asm); (case N => k_asm); (case T => k_asm); (case k => first | exact rfl | assumption); (case d => ktr_room); (case u => ktr_units))
    case hP => exact rfl
    case hB => exact rfl
    case hS => exact rfl
    case hcm => (repeat apply List.Mem.tail); exact List.mem_append_left _ hc
    case hA2 => assumption
    case hA => repeat (first | exact List.Mem.head _ | apply List.Mem.tail)
    case hI2 => assumption
    case hI => repeat (first | exact List.Mem.head _ | apply List.Mem.tail)
    case hN2 => assumption
    case hN => repeat (first | exact List.Mem.head _ | apply List.Mem.tail)
    intro r9 nw9 h9 tk9 F9 N9 P9
    obtain ⟨hn9, x9, t9, hr9, hx9, hb9⟩ := P9
    subst hr9 hn9
    (try dsimp only)
    k_extra "stp"
    have e9 : seg ns (0 : Int).toNat ((ns.length : Int) - 0).toNat = ns := by rw [seg]; simp
    exact hret _ _ _ _ (by k_asm) (cb_drop (by k_asm) (by kcj_all)) ⟨_, t9, _, by rw [hx9, e9], hts'⟩
  · have e0 : ns = [] := List.eq_nil_of_length_eq_zero (by omega)
    exact hret _ _ _ _ (by k_asm) (cb_drop (by k_asm) (by kcj_all)) ⟨_, _, _, by rw [e0]; rfl, hts'⟩
end
end Mine
end

section
open PySem PySem.W PyProof.Rows
set_option maxRecDepth 100000
set_option maxHeartbeats 8000000
namespace Mine
theorem und_digs {B : Int} (hB : 0 < B) : ∀ {N : Nat} {a : Int}, 0 ≤ a → a < B ^ N → und B (digs B N a) = a
  | 0, a, h0, h1 => by simp at h1; simp [digs, und]; omega
  | N + 1, a, h0, h1 => by
    have := und_digs hB (N := N) (a := a / B) (Int.ediv_nonneg h0 (Int.le_of_lt hB)) (Int.ediv_lt_of_lt_mul hB (by rw [← Int.pow_succ]; exact h1))
    simp only [digs, und, this]
    have := Int.mul_ediv_add_emod a B
    omega
theorem digs_mem {B : Int} (hB : 0 < B) : ∀ {N : Nat} {a d : Int}, d ∈ digs B N a → 0 ≤ d ∧ d < B
  | 0, _, _, h => nomatch h
  | N + 1, a, d, h => by
    rcases List.mem_cons.mp h with rfl | h
    · exact ⟨Int.emod_nonneg _ (Int.ne_of_gt hB), Int.emod_lt_of_pos _ hB⟩
    · exact digs_mem hB h
section
variable {prog : Program} {w : World} {A : Around} {E : Value → Shared → Prop} {h₀ : Heap} {env : Env} {x : Str} {body : List Stmt} {Q : Flow → Shared → Prop} {s : Shared} {I : Addr} {lp : Addr × Obj}
theorem unr_mono {L : Addr} {s₁ : Shared} {it : Obj} {P P' : (Str → Option Value) → List (Addr × Obj) → Prop} {f : Flow} {s₂ : Shared} (h : ∀ m n, P m n → P' m n) (u : UnrPost h₀ L s₁ I it P Q f s₂) : UnrPost h₀ L s₁ I it P' Q f s₂ := by
  cases f <;> first
    | exact u
    | (obtain ⟨a, b, c, d, e, f, g, i, j⟩ := u; exact ⟨a, b, c, d, e, f, g, i, h _ _ j⟩)
theorem rev_inv (J : List Value → (Str → Option Value) → List (Addr × Obj) → Prop) (hlp : ∀ r m n, J r m n → lp ∈ n)
    (step : ∀ v r m n (it : Obj) h tk, J (v :: r) m n → it.cls = .type "list_reverseiterator" → Fr h₀ env.locals h (fun y => if y = x then some v else m y) → News h₀ env.locals h ((I, it) :: n) → (∀ p ∈ n, p.1 ≠ I) →
      wpAny (model prog w) A (execs body env) (UnrPost h₀ env.locals { s with heap := h, toks := tk } I it (J r) Q) E { s with heap := h, toks := tk })
    (done : ∀ m n h tk, J [] m n → Fr h₀ env.locals h m → News h₀ env.locals h n → Q .next { s with heap := h, toks := tk }) :
    ∀ r m n, J r m n → (∀ p ∈ n, p.1 ≠ I) → RevRest prog w A E h₀ env x body Q s I lp r m n
  | [], m, n, j, _ => RevRest.zero fun h tk F N => done m n h tk j F N
  | v :: r, m, n, j, o => RevRest.succ fun it h tk hc F N => by
    refine wpAny_mono (step v r m n it h tk j hc F N o) (fun f s₂ u => ?_) fun _ _ e => e
    cases f <;> first
      | exact u
      | (obtain ⟨a, b, c, d, e, f, g, i, j'⟩ := u; exact ⟨a, b, c, d, e, f, g, i, hlp _ _ _ j', rev_inv J hlp step done r _ _ j' i⟩)
end
section
inductive dvJ (a b B : Int) (N : Nat) (Dq : Addr) (rest0 : List (Addr × Obj)) (m₀ : Str → Option Value) (r : List Value) (m : Str → Option Value) (n : List (Addr × Obj)) : Prop
  | mk (rs qs : List Int) (hi : Int) (vq : List Value) (c : Nat) (tr : Tok) (Aq Ad : Option Value) (h0 : m = (fun y : Str => if y = Str.ofString "q_digit" then Aq else if y = Str.ofString "r" then some (.int (hi % b) tr) else if y = Str.ofString "a_digit" then Ad else m₀ y)) (h1 : n = (Dq, listOf vq.toArray c) :: rest0) (h2 : IntsAre r rs) (h3 : IntsAre vq qs) (h4 : 0 ≤ hi) (h5 : und B rs.reverse + B ^ rs.length * hi = a) (h6 : (∀ d ∈ rs, 0 ≤ d ∧ d < B)) (h7 : (∀ d ∈ qs, 0 ≤ d ∧ d < B)) (h8 : und B qs.reverse = hi / b) (h9 : qs.length + rs.length = N) : dvJ a b B N Dq rest0 m₀ r m n
theorem offI_of {I : Addr} {it : Obj} : ∀ {l : List (Addr × Obj)}, (∀ p ∈ l, p.1 ≠ I) → OffI I it l
  | [], _ => trivial
  | p :: r, h => ⟨.inl (h p (.head _)), offI_of fun q hq => h q (.tail _ hq)⟩
theorem off_of {h h' : Heap} {L I : Addr} {o : Obj} {n : List (Addr × Obj)} (_ : News h L h' ((I, o) :: n)) (l : AllLt I n) : ∀ p ∈ n, p.1 ≠ I := allLt_ne l

theorem dv_loop {prog : Program} {w : World} {A : Around} {E : Value → Shared → Prop} {h₀ : Heap} {env : Env} {x : Str} {body : List Stmt} {Q : Flow → Shared → Prop} {s : Shared} {I : Addr} {lp : Addr × Obj} (a b B : Int) (N : Nat) {Dq : Addr} {o : Obj} {rest0 : List (Addr × Obj)} {m₀ : Str → Option Value} {r : List Value}
    (J0 : dvJ a b B N Dq rest0 m₀ r m₀ ((Dq, o) :: rest0)) (ho : ∀ p ∈ (Dq, o) :: rest0, p.1 ≠ I) (hlp : lp ∈ rest0)
    (step : ∀ v r m n (it : Obj) h tk, dvJ a b B N Dq rest0 m₀ (v :: r) m n → it.cls = .type "list_reverseiterator" → Fr h₀ env.locals h (fun y => if y = x then some v else m y) → News h₀ env.locals h ((I, it) :: n) → (∀ p ∈ n, p.1 ≠ I) →
      wpAny (model prog w) A (execs body env) (UnrPost h₀ env.locals { s with heap := h, toks := tk } I it (dvJ a b B N Dq rest0 m₀ r) Q) E { s with heap := h, toks := tk })
    (done : ∀ m n h tk, dvJ a b B N Dq rest0 m₀ [] m n → Fr h₀ env.locals h m → News h₀ env.locals h n → Q .next { s with heap := h, toks := tk }) :
    RevRest prog w A E h₀ env x body Q s I lp r m₀ ((Dq, o) :: rest0) :=
  rev_inv (dvJ a b B N Dq rest0 m₀) (fun r m n h => by obtain ⟨_, _, _, _, _, _, _, _, _, hn, _⟩ := h; rw [hn]; exact .tail _ hlp) step done _ _ _ J0 ho
theorem ne_of_cls {h h' : Heap} {L : Addr} {n : List (Addr × Obj)} (N : News h L h' n) {p q : Addr × Obj} (hp : p ∈ n) (hq : q ∈ n) (hc : p.2.cls ≠ q.2.cls) : p.1 ≠ q.1 := fun e => by
  have a := (N p hp).1
  have b := (N q hq).1
  rw [e, b] at a
  exact hc (congrArg Obj.cls (Option.some.inj a)).symm
theorem app_L {prog : Program} {w : World} {A : Around} {E : Value → Shared → Prop} {h₀ : Heap} {s : Shared} {L D a1 a2 : Addr} {m : Str → Option Value} {o1 o2 : Obj} {vs : List Value} {c : Nat} {r : List (Addr × Obj)} {x : Value} {Q : Value → Shared → Prop}
    (F : Fr h₀ L s.heap m) (N : News h₀ L s.heap ((a1, o1) :: (a2, o2) :: (D, listOf vs.toArray c) :: r)) (hr : ∀ p ∈ r, p.1 ≠ D) (h1 : o1.cls ≠ .type "list") (h2 : o2.cls ≠ .type "list") (hz : vs.length ≤ sizeLine)
    (h : ∀ h', Fr h₀ L h' m → News h₀ L h' ((a1, o1) :: (a2, o2) :: (D, listOf (vs ++ [x]).toArray (c + 1)) :: r) → Q .none { s with heap := h' }) : wpAny (model prog w) A (call (.builtin "list.append") [.ref D, x]) Q E s := by
  refine append_K F N (.tail (ne_of_cls N (.head _) (.tail _ (.tail _ (.head _))) h1) (.tail (ne_of_cls N (.tail _ (.head _)) (.tail _ (.tail _ (.head _))) h2) (.head hr))) (fun h' F' N' => ?_) (by simpa using hz)
  have e : vs.toArray.push x = (vs ++ [x]).toArray := by simp
  rw [e] at N'
  exact h h' F' N'
theorem rev_L {prog : Program} {w : World} {A : Around} {E : Value → Shared → Prop} {h₀ : Heap} {s : Shared} {L D : Addr} {m : Str → Option Value} {vs : List Value} {c : Nat} {r : List (Addr × Obj)} {Q : Value → Shared → Prop}
    (F : Fr h₀ L s.heap m) (N : News h₀ L s.heap ((D, listOf vs.toArray c) :: r)) (hr : ∀ p ∈ r, p.1 ≠ D) (hz : vs.length ≤ sizeLine)
    (h : ∀ h', Fr h₀ L h' m → News h₀ L h' ((D, listOf vs.reverse.toArray c) :: r) → Q .none { s with heap := h' }) : wpAny (model prog w) A (call (.builtin "list.reverse") [.ref D]) Q E s :=
  kl_reverse (l := vs.reverse) F N rfl (.head hr) (by simpa using hz) h
theorem off_of2 {h h' : Heap} {L I : Addr} {o o2 : Obj} {b : Addr} {n : List (Addr × Obj)} (_ : News h L h' ((b, o2) :: (I, o) :: n)) (l : AllLt I n) : ∀ p ∈ n, p.1 ≠ I := allLt_ne l

theorem und_step {B b hi d : Int} {rs qs : List Int} (hB : 0 < B) (hb : 0 < b) (hi0 : 0 ≤ hi) (hd : 0 ≤ d ∧ d < B) {a : Int} (hun : und B (d :: rs).reverse + B ^ (d :: rs).length * hi = a) (hq : und B qs.reverse = hi / b) :
    0 ≤ hi * B + d ∧ und B rs.reverse + B ^ rs.length * (hi * B + d) = a ∧ (hi % b * B + d) % b = (hi * B + d) % b ∧ und B (qs ++ [(hi % b * B + d) / b]).reverse = (hi * B + d) / b := by
  have h1 := Int.mul_ediv_add_emod hi b
  have e : hi * B + d = (hi % b * B + d) + b * (hi / b * B) := by grind
  refine ⟨Int.add_nonneg (Int.mul_nonneg hi0 (Int.le_of_lt hB)) hd.1, ?_, ?_, ?_⟩
  · rw [List.reverse_cons, und_app, List.length_reverse, List.length_cons, Int.pow_succ] at hun
    simp only [und] at hun
    rw [← hun]; grind
  · rw [e, Int.add_mul_emod_self_left]
  · rw [List.reverse_append]
    simp only [List.reverse_cons, List.reverse_nil, List.nil_append, List.cons_append, und]
    rw [hq, e, Int.add_mul_ediv_left _ _ (Int.ne_of_gt hb), Int.mul_comm B]
theorem canon_end {m₀ : Str → Option Value} {v0 v1 v2 : Value} {Aq Ad rv : Option Value} {r q d : Str} (hqr : q ≠ r) :
    (fun y => if y = r then some v2 else if y = q then some v1 else if y = d then some v0 else (fun y => if y = q then Aq else if y = r then rv else if y = d then Ad else m₀ y) y) = (fun y => if y = q then some v1 else if y = r then some v2 else if y = d then some v0 else m₀ y) := by
  funext y
  by_cases h1 : y = q
  · rw [if_neg (h1 ▸ hqr), if_pos h1, if_pos h1]
  · by_cases h2 : y = r
    · rw [if_pos h2, if_neg h1, if_pos h2]
    · by_cases h3 : y = d
      · rw [if_neg h2, if_neg h1, if_pos h3, if_neg h1, if_neg h2, if_pos h3]
      · rw [if_neg h2, if_neg h1, if_neg h3, if_neg h1, if_neg h2, if_neg h3]
        show (if y = q then Aq else if y = r then rv else if y = d then Ad else m₀ y) = _
        rw [if_neg h1, if_neg h2, if_neg h3]
theorem mem_swap {α : Type} {q : α} {a b c : List α} (h : q ∈ a ++ (b ++ c)) : q ∈ b ++ (a ++ c) := by
  simp only [List.mem_append] at h ⊢
  rcases h with h | h | h
  · exact .inr (.inl h)
  · exact .inl h
  · exact .inr (.inr h)
theorem canon_start {m₀ : Str → Option Value} {v : Value} {r q d : Str} (h : m₀ r = some v) : m₀ = (fun y => if y = q then m₀ q else if y = r then some v else if y = d then m₀ d else m₀ y) := by
  funext y
  by_cases h1 : y = q
  · rw [if_pos h1, h1]
  · rw [if_neg h1]
    by_cases h2 : y = r
    · rw [if_pos h2, h2, h]
    · rw [if_neg h2]
      by_cases h3 : y = d
      · rw [if_pos h3, h3]
      · rw [if_neg h3]
inductive PoP (u v : Int) (news : List (Addr × Obj)) : Value → List (Addr × Obj) → Prop
  | mk (x : Addr) (t1 t2 : Tok) (q rr : Int) (tA' tB' : List (Addr × Obj)) (zz0 : q = u) (zz1 : rr = v) (zz2 : TS 54 (fdPos (subStmt 7 1)) i2dQ tA') (zz3 : TS 61 (fdPos (subStmt 8 0)) "_digits2int.<locals>.inner" tB') : PoP u v news (.ref x) ((x, tup [.int q t1, .int rr t2]) :: (tA' ++ (tB' ++ news)))
theorem divmod_pos (w : World) (a b : Int) (ta tb : Tok) (tA tB news : List (Addr × Obj)) (hA : TS 54 (fdPos (subStmt 7 1)) i2dQ tA) (hB : TS 61 (fdPos (subStmt 8 0)) "_digits2int.<locals>.inner" tB)
    (oA : ∀ q ∈ news, q.1 ≠ 54) (oB : ∀ q ∈ news, q.1 ≠ 61) (ha : 0 ≤ a) (hb : 0 < b) (hbb : Builtin.Int.intBits b ≤ 7999) (hab : (Builtin.Int.intBits a : Int) ≤ 20 * Builtin.Int.intBits b) :
    Spec w 73 [.int a ta, .int b tb] 310 (tA ++ (tB ++ news))
      (PoP (a / b) (a % b) news) := by
  have hoA : ∀ q ∈ tB ++ news, q.1 ≠ 54 := fun q hq => (List.mem_append.mp hq).elim (hB.off (by decide) (by decide) q) (oA q)
  have hn0 : (0 : Int) < Builtin.Int.intBits b := by
    have := lt_two_bits (Int.le_of_lt hb)
    rcases Nat.eq_zero_or_pos (Builtin.Int.intBits b) with e | e
    · rw [e] at this; simp at this; omega
    · omega
  have hcb := dcnt_le (a := a) hn0
  have hc0 := dcnt_nonneg (a := a) hn0
  have hc1 : dcntI a (Builtin.Int.intBits b) ≤ 256 := by
    rcases Int.lt_or_le 256 (dcntI a (Builtin.Int.intBits b)) with h | h
    · have := Int.mul_le_mul_of_nonneg_right (Int.le_of_lt h) (Int.le_of_lt hn0)
      omega
    · exact h
  have hN256 : dcnt a (Builtin.Int.intBits b) ≤ 256 := by show (dcntI a (Builtin.Int.intBits b)).toNat ≤ 256; omega
  unfold Spec
  k_with_none
  w_top off
  k_with "om" => (first | decide | (with_reducible first | (refine neN ?_; first | (refine Nat.ne_of_lt ?_; first | ((repeat (first | assumption | exact om_k1 | refine Nat.lt_succ_of_lt ?_)); done) | (apply And.left; (iterate 18 (first | done | assumption | apply And.right)); done)) | (refine Nat.ne_of_gt ?_; first | ((repeat (first | assumption | exact om_k1 | refine Nat.lt_succ_of_lt ?_)); done) | (apply And.left; (iterate 18 (first | done | assumption | apply And.right)); done)) | (refine Ne.symm ?_; assumption) | (refine om_s ?_; omega)) | exact om_le (by assumption) rfl | exact om_ll (by assumption) rfl | exact om_lt (by assumption) rfl | exact om_lg (by assumption) rfl | exact om_r1 (by assumption) rfl | exact om_r2 (by assumption) rfl | exact om_r3 (by assumption) rfl | exact om_il (by assumption) rfl | exact om_ig (by assumption) rfl | exact om_tn (by assumption) rfl | exact om_tl (by assumption) rfl | exact om_nc (by assumption) rfl | exact Int.natCast_nonneg _ | exact Int.le_of_lt (by assumption)) | (law_clear; lia))
  k_with "execs cons" => ((first | (k_here; k_gentoks) | (refine wpAny_execs_cons ?_; k_fold; (try k_extra "mlet"))))
  k_with "stp" => (repeat' (first | (k_unfold; (try dsimp only)) | (k_end; wrow_close) | (walk1; (all_goals (try dsimp only))) | (dsimp only; walk1) | (leave1; walk_say "STEP leave1"; try dsimp only) | fail "no step"))
  k_with "spliced" => (k_dflt (first | ((with_reducible show wpAny _ _ (spliced (backTo _ (starEach [_] _))) _ _ _); refine sp1 ?_) | ((with_reducible show wpAny _ _ (spliced (backTo _ (starEach [_, _] _))) _ _ _); refine sp2 ?_) | ((with_reducible show wpAny _ _ (spliced (backTo _ (starEach [_, _, _] _))) _ _ _); refine sp3 ?_)))
  k_with "bits" => ((with_reducible assumption))
  k_with "binaryOp LShift int int" => (((with_reducible refine lshift_int ?w9kbn ?w9kbs ?_); (case w9kbn => first | with_reducible assumption | omega); (case w9kbs => (refine' kbm_shl ?w9kba ?w9kbc ?w9kbd; (case w9kba => bits_by_make); (case w9kbc => first | with_reducible assumption | omega); (case w9kbd => decide)))))
  k_with "call type:reversed" => ((k_dflt (refine' krv_reversed ?w9F ?w9N ?w9l ?_; (case w9F => k_asm); (case w9N => k_asm); (case w9l => exact News.isList (by k_asm) (by k_memK))); intro DW9' hW9' FW9' NW9' l1W9; (try k_lt l1W9)))
  k_with "getMethod ref" => ((k_dflt (refine' kl_method ?w9N ?w9m PySem.F.slot_list_append PySem.F.type_list_append ?_; (case w9N => k_asm); (case w9m => k_memK))))
  k_with "getMethod ref" => (((with_reducible show wpAny _ _ (getMethod (Value.ref _) (PySem.Str.ofString "reverse") _) _ _ _); k_dflt (refine' kl_method ?w9N ?w9m PySem.F.slot_list_reverse PySem.F.type_list_reverse ?_; (case w9N => k_asm); (case w9m => k_memK))))
  k_with "call builtin:list.reverse" => ((k_dflt (refine' rev_L ?w9F ?w9N ?w9r ?w9z ?_; (case w9F => k_asm); (case w9N => k_asm); (case w9r => with_reducible assumption); (case w9z => with_reducible assumption)); intro h8W9 F8W9 N8W9; (try dsimp only)))
  k_with "mlet" => ((have fW9 := ‹Fr _ _ _ _›); (refine (let mW9 : PySem.Str → Option PySem.Value := _; ((fun (_ : Fr _ _ _ mW9) => ?_) fW9))))
  k_fill
  k_with "call ref" => (k_dflt (refine' Spec.use (int2digits _ _ _ _ _ _ _ (by assumption) hoA hn0 (by omega) ha hc1 (by omega)) ?B ?F ?X ?N ?T ?k ?d ?u ?_; (case B => k_asm); (case F => k_asm); (case X => k_asm); (case N => k_asm); (case T => k_asm); (case k => first | exact rfl | assumption); (case d => ktr_room); (case u => ktr_units)); intro r9 nw9 h9 tk9 F9 N9 P9; obtain ⟨xA, vA, tA', hA', hiA, hxA⟩ := P9; (try dsimp only))
  intro dp un gd cn cs ac ccd cl outer A₀ base h₀ L m s p loose mean mg mb Q E B F X N T hk hd hu hret
  refine wpAny_call ?_
  k_dflt ktr_enter
  k_extra "stp"
  rename Fr _ _ _ _ => lF'
  rename News _ _ _ _ => lN'
  rename _ ∧ _ ∧ AllLt _ _ => lI
  have hIn := off_of lN' lI
  rename _ ∧ AllLt _ _ => lQ
  have hQn := off_of2 lN' lQ
  k_dflt (refine' iter_revUnr (lo := listOf vA.toArray 0) (n := 0) (vs := vA) ?h lF' lN' ?off ?mem ?c ?d ?_; (case h => rfl); (case mem => k_memK); (case c => rfl); (case d => rfl); (case off => exact offI_of hIn))
  have hBp := kbt_pos (Builtin.Int.intBits b)
  refine dv_loop a b (2 ^ (Builtin.Int.intBits b)) (dcnt a (Builtin.Int.intBits b)) ?_ hIn ?_ ?_ ?_
  · refine ⟨(digs (2 ^ Builtin.Int.intBits b) (dcnt a (Builtin.Int.intBits b)) a).reverse, [], 0, [], 0, _, _, _, canon_start rfl, rfl, IntsAre.reverse hiA, .nil, Int.le_refl _, ?_, ?_, ?_, ?_, ?_⟩
    · rw [List.reverse_reverse, Int.mul_zero, Int.add_zero]
      exact und_digs hBp ha (lt_digits ha hn0)
    · intro d hd; exact digs_mem hBp (List.mem_reverse.mp hd)
    · intro d hd; cases hd
    · simp [und]
    · simp [digs_len]
  · k_memK
  · rintro v r m n it h tk ⟨rs, qs, hi, vq, c, tr, Aq, Ad, hm, hn, hr, hq, hi0, hun, hrs, hqs, huq, hlen⟩ hc F N o
    subst hm hn
    cases hr with
    | @cons d td _ rs hr =>
    have hd := hrs d (.head _)
    have hi1 := Int.emod_nonneg hi (Int.ne_of_gt hb)
    have hi2 := Int.emod_lt_of_pos hi hb
    have hmb : Builtin.Int.intBits (hi % b) ≤ 8000 := Nat.le_trans (bits_small hi1 (Int.lt_trans hi2 (lt_two_bits (Int.le_of_lt hb)))) (by omega)
    have hb2 : b < 2 ^ ((Builtin.Int.intBits b : Nat) : Int).toNat := lt_two_bits (Int.le_of_lt hb)
    have hq0 : 0 ≤ hi % b * 2 ^ ((Builtin.Int.intBits b : Nat) : Int).toNat + d := Int.add_nonneg (Int.mul_nonneg hi1 (Int.le_of_lt hBp)) hd.1
    have hq1 : hi % b * 2 ^ ((Builtin.Int.intBits b : Nat) : Int).toNat + d < b * 2 ^ ((Builtin.Int.intBits b : Nat) : Int).toNat := by
      have : (hi % b + 1) * 2 ^ Builtin.Int.intBits b ≤ b * 2 ^ Builtin.Int.intBits b := Int.mul_le_mul_of_nonneg_right (by omega) (Int.le_of_lt hBp)
      rw [Int.add_mul, Int.one_mul] at this
      have := hd.2
      show hi % b * 2 ^ Builtin.Int.intBits b + d < b * 2 ^ Builtin.Int.intBits b
      omega
    have hzq : vq.length ≤ sizeLine := by rw [hq.length]; unfold sizeLine; have := hN256; simp only [List.length_cons] at hlen; show qs.length ≤ 2 ^ 24; omega
    (try dsimp only)
    k_extra "stp"
    (k_dflt (refine' Spec.use (div2n1n _ _ _ _ _ _ _ _ hq0 hq1 hb hb2 (by omega) (by omega)) ?B ?F ?X ?N ?T ?k ?d ?u ?_; (case B => k_asm); (case F => k_asm); (case X => k_asm); (case N => k_asm); (case T => k_asm); (case k => first | exact rfl | assumption); (case d => ktr_room); (case u => ktr_units)); intro r' nw' h' tk' F' N' hP'; obtain ⟨x', t1', t2', q', rr', hq', hrr'⟩ := hP'; (try dsimp only))
    k_extra "stp"
    k_dflt (refine' app_L ?F ?N ?r ?c1 ?c2 hzq ?_; (case F => k_asm); (case N => k_asm); (case r => exact hQn); (case c1 => (show (Value.type "tuple") ≠ Value.type "list"; decide)); (case c2 => rw [hc]; decide))
    intro h8 F8 N8
    (try dsimp only)
    k_extra "stp"
    have ⟨u1, u2, u3, u4⟩ := und_step hBp hb hi0 hd hun huq
    have e1 : rr' = (hi * 2 ^ Builtin.Int.intBits b + d) % b := hrr'.trans u3
    have e2 : 0 ≤ q' ∧ q' < 2 ^ Builtin.Int.intBits b := by
      rw [hq']; exact ⟨Int.ediv_nonneg hq0 (Int.le_of_lt hb), Int.ediv_lt_of_lt_mul hb (by rw [Int.mul_comm (2 ^ Builtin.Int.intBits b) b]; exact hq1)⟩
    refine ⟨_, _, _, _, rfl, F8, cb_drop N8 (fun p hp => .tail _ hp), ?_, rs, qs ++ [q'], hi * 2 ^ Builtin.Int.intBits b + d, _, _, t2', some (.int q' t1'), some (.int d td), ?_, rfl, hr, IntsAre.append hq (.cons _ _ .nil), u1, u2, ?_, ?_, ?_, ?_⟩
    · intro p hp
      rcases List.mem_cons.mp hp with rfl | hp
      · exact o (_, listOf vq.toArray c) (.head _)
      · exact o _ (.tail _ hp)
    · rw [← e1]; exact canon_end (by decide)
    · exact fun d hd => hrs d (.tail _ hd)
    · intro d hd
      rcases List.mem_append.mp hd with hd | hd
      · exact hqs d hd
      · rw [List.mem_singleton.mp hd]; exact e2
    · rw [hq']; exact u4
    · simp only [List.length_append, List.length_cons, List.length_nil] at hlen ⊢; omega
  · rintro m n h tk ⟨rs, qs, hi, vq, c, tr, Aq, Ad, hm, hn, hr, hq, hi0, hun, hrs, hqs, huq, hlen⟩ F N
    subst hm hn
    cases hr
    have hzq : vq.length ≤ sizeLine := by rw [hq.length]; unfold sizeLine; have := hN256; simp only [List.length_nil] at hlen; show qs.length ≤ 2 ^ 24; omega
    (try dsimp only)
    k_extra "stp"
    rename News _ _ _ ((_, listOf vq.reverse.toArray c) :: _) => lN8
    have N3 := cb_drop (news := (_, listOf vq.reverse.toArray c) :: (tB ++ (tA' ++ news))) lN8 (fun q hq => by
      rcases List.mem_cons.mp hq with rfl | hq
      · exact .head _
      · exact .tail _ (.tail _ (mem_swap hq)))
    have hoB : ∀ q ∈ tA' ++ news, q.1 ≠ 61 := fun q hq => (List.mem_append.mp hq).elim (hA'.off (by decide) (by decide) q) (oB q)
    have hl0 : qs.length = dcnt a (Builtin.Int.intBits b) := hlen
    have hl1 : ((dcnt a (Builtin.Int.intBits b) : Nat) : Int) = dcntI a (Builtin.Int.intBits b) := Int.toNat_of_nonneg hc0
    have e0 : hi = a := by
      simp only [List.reverse_nil, und, List.length_nil, Int.pow_zero, Int.one_mul, Int.zero_add] at hun
      exact hun
    (k_dflt (refine' Spec.use (digits2int w _ _ _ _ qs.reverse c tB (tA' ++ news) hB hoB (IntsAre.reverse hq) hn0 (by omega) (by rw [List.length_reverse]; omega) (by rw [List.length_reverse, hl0, hl1]; omega) (fun q hq => hQn q (.tail _ (mem_swap hq))) (fun d hd => hqs d (List.mem_reverse.mp hd))) ?B ?F ?X N3 ?T ?k ?d ?u ?_; (case B => k_asm); (case F => k_asm); (case X => k_asm); (case T => k_asm); (case k => first | exact rfl | assumption); (case d => ktr_room); (case u => ktr_units)))
    intro r7 nw7 h7 tk7 F7 N7 P7
    obtain ⟨x7, t7, tB', hx7, hB'⟩ := P7
    subst hx7
    (try dsimp only)
    k_extra "stp"
    refine hret _ _ _ _ (by k_asm) (cb_drop (by k_asm) (fun q hq => ?_)) ⟨_, t7, tr, _, _, _, _, huq.trans (by rw [e0]), (show hi % b = a % b by rw [e0]), hA', hB'⟩
    rcases List.mem_cons.mp hq with rfl | hq
    · exact .head _
    · exact .tail _ (.tail _ (mem_swap hq))
end
end Mine
end

section
open PySem PySem.W PyProof.Rows
set_option maxRecDepth 100000
set_option maxHeartbeats 8000000
namespace Mine
noncomputable abbrev TA (tl : List (Addr × Obj)) : Prop := TS 54 (fdPos (subStmt 7 1)) i2dQ tl
noncomputable abbrev TB (tl : List (Addr × Obj)) : Prop := TS 61 (fdPos (subStmt 8 0)) "_digits2int.<locals>.inner" tl
theorem bnot (a : Int) : Builtin.bitNot a = -a - 1 := by first | rfl | (unfold Builtin.bitNot; omega) | (cases a <;> simp [Builtin.bitNot] <;> omega)

theorem neg_divmod {a b : Int} (hb : 0 < b) : Builtin.bitNot (Builtin.bitNot a / b) = a / b ∧ b + Builtin.bitNot (Builtin.bitNot a % b) = a % b := by
  rw [bnot, bnot, bnot]
  have ⟨u1, u2⟩ := kbt_below a hb
  exact ⟨u1.symm, by rw [u2]; omega⟩
section
theorem int_divmod0 (w : World) (a b : Int) (ta tb : Tok) (tA tB news : List (Addr × Obj)) (hA : TA tA) (hB : TB tB)
    (oA : ∀ q ∈ news, q.1 ≠ 54) (oB : ∀ q ∈ news, q.1 ≠ 61) (ha : 0 ≤ a) (hb : 0 < b) (hbb : Builtin.Int.intBits b ≤ 7999) (hab : (Builtin.Int.intBits a : Int) ≤ 20 * Builtin.Int.intBits b) :
    Spec w 80 [.int a ta, .int b tb] 311 (tA ++ (tB ++ news))
      (PoP (a / b) (a % b) news) := by
  unfold Spec
  k_with_none
  w_top off
  k_with "om" => (first | decide | (with_reducible first | (refine neN ?_; first | (refine Nat.ne_of_lt ?_; first | ((repeat (first | assumption | exact om_k1 | refine Nat.lt_succ_of_lt ?_)); done) | (apply And.left; (iterate 18 (first | done | assumption | apply And.right)); done)) | (refine Nat.ne_of_gt ?_; first | ((repeat (first | assumption | exact om_k1 | refine Nat.lt_succ_of_lt ?_)); done) | (apply And.left; (iterate 18 (first | done | assumption | apply And.right)); done)) | (refine Ne.symm ?_; assumption) | (refine om_s ?_; omega)) | exact om_le (by assumption) rfl | exact om_ll (by assumption) rfl | exact om_lt (by assumption) rfl | exact om_lg (by assumption) rfl | exact om_r1 (by assumption) rfl | exact om_r2 (by assumption) rfl | exact om_r3 (by assumption) rfl | exact om_il (by assumption) rfl | exact om_ig (by assumption) rfl | exact om_tn (by assumption) rfl | exact om_tl (by assumption) rfl | exact om_nc (by assumption) rfl | exact Int.natCast_nonneg _ | exact Int.le_of_lt (by assumption)) | (law_clear; lia))
  k_with "execs cons" => ((first | (k_here; k_gentoks) | (refine wpAny_execs_cons ?_; k_fold; (try k_extra "mlet"))))
  k_with "stp" => (repeat' (first | (k_unfold; (try dsimp only)) | (k_end; wrow_close) | (walk1; (all_goals (try dsimp only))) | (dsimp only; walk1) | (leave1; walk_say "STEP leave1"; try dsimp only) | fail "no step"))
  k_with "spliced" => (k_dflt (first | ((with_reducible show wpAny _ _ (spliced (backTo _ (starEach [_] _))) _ _ _); refine sp1 ?_) | ((with_reducible show wpAny _ _ (spliced (backTo _ (starEach [_, _] _))) _ _ _); refine sp2 ?_) | ((with_reducible show wpAny _ _ (spliced (backTo _ (starEach [_, _, _] _))) _ _ _); refine sp3 ?_)))
  k_fill
  intro dp un gd cn cs ac ccd cl outer A₀ base h₀ L m s p loose mean mg mb Q E B F X N T hk hd hu hret
  refine wpAny_call ?_
  k_dflt ktr_enter
  k_extra "stp"
  · k_dflt (refine' Spec.use (divmod_pos w a b _ _ tA tB news hA hB oA oB ha hb hbb hab) ?B ?F ?X ?N ?T ?k ?d ?u ?_; (case B => k_asm); (case F => k_asm); (case X => k_asm); (case N => k_asm); (case T => k_asm); (case k => first | exact rfl | assumption); (case d => ktr_room); (case u => ktr_units))
    intro r7 nw7 h7 tk7 F7 N7 P7
    obtain ⟨x7, t1, t2, q7, rr7, tA', tB', hq7, hrr7, hA', hB'⟩ := P7
    (try dsimp only)
    k_extra "stp"
    exact hret _ _ _ _ (by k_asm) (by k_asm) ⟨_, t1, t2, _, _, _, _, hq7, hrr7, hA', hB'⟩
theorem int_divmod (w : World) (a b : Int) (ta tb : Tok) (tA tB news : List (Addr × Obj)) (hA : TA tA) (hB : TB tB)
    (oA : ∀ q ∈ news, q.1 ≠ 54) (oB : ∀ q ∈ news, q.1 ≠ 61) (hb : 0 < b) (hbb : Builtin.Int.intBits b ≤ 7999) (hab : (Builtin.Int.intBits a : Int) ≤ 20 * Builtin.Int.intBits b) :
    Spec w 80 [.int a ta, .int b tb] 312 (tA ++ (tB ++ news))
      (PoP (a / b) (a % b) news) := by
  rcases Int.lt_or_le a 0 with ha | ha
  case inr => exact (int_divmod0 w a b ta tb tA tB news hA hB oA oB ha hb hbb hab).need (by omega)
  unfold Spec
  k_with_none
  w_top off
  k_with "om" => (first | decide | (with_reducible first | (refine neN ?_; first | (refine Nat.ne_of_lt ?_; first | ((repeat (first | assumption | exact om_k1 | refine Nat.lt_succ_of_lt ?_)); done) | (apply And.left; (iterate 18 (first | done | assumption | apply And.right)); done)) | (refine Nat.ne_of_gt ?_; first | ((repeat (first | assumption | exact om_k1 | refine Nat.lt_succ_of_lt ?_)); done) | (apply And.left; (iterate 18 (first | done | assumption | apply And.right)); done)) | (refine Ne.symm ?_; assumption) | (refine om_s ?_; omega)) | exact om_le (by assumption) rfl | exact om_ll (by assumption) rfl | exact om_lt (by assumption) rfl | exact om_lg (by assumption) rfl | exact om_r1 (by assumption) rfl | exact om_r2 (by assumption) rfl | exact om_r3 (by assumption) rfl | exact om_il (by assumption) rfl | exact om_ig (by assumption) rfl | exact om_tn (by assumption) rfl | exact om_tl (by assumption) rfl | exact om_nc (by assumption) rfl | exact Int.natCast_nonneg _ | exact Int.le_of_lt (by assumption)) | (law_clear; lia))
  k_with "execs cons" => ((first | (k_here; k_gentoks) | (refine wpAny_execs_cons ?_; k_fold; (try k_extra "mlet"))))
  k_with "stp" => (repeat' (first | (k_unfold; (try dsimp only)) | (k_end; wrow_close) | (walk1; (all_goals (try dsimp only))) | (dsimp only; walk1) | (leave1; walk_say "STEP leave1"; try dsimp only) | fail "no step"))
  k_with "spliced" => (k_dflt (first | ((with_reducible show wpAny _ _ (spliced (backTo _ (starEach [_] _))) _ _ _); refine sp1 ?_) | ((with_reducible show wpAny _ _ (spliced (backTo _ (starEach [_, _] _))) _ _ _); refine sp2 ?_) | ((with_reducible show wpAny _ _ (spliced (backTo _ (starEach [_, _, _] _))) _ _ _); refine sp3 ?_)))
  k_fill
  intro dp un gd cn cs ac ccd cl outer A₀ base h₀ L m s p loose mean mg mb Q E B F X N T hk hd hu hret
  refine wpAny_call ?_
  k_dflt ktr_enter
  k_extra "stp"
  · have h0 : 0 ≤ Builtin.bitNot a := by rw [bnot]; omega
    have h1 : (Builtin.Int.intBits (Builtin.bitNot a) : Int) ≤ 20 * Builtin.Int.intBits b := by
      have := intBits_le_of_natAbs (x := Builtin.bitNot a) (y := a) (m := Builtin.Int.intBits a) (by rw [bnot]; omega) (Nat.le_refl _)
      omega
    k_dflt (refine' Spec.use (int_divmod0 w (Builtin.bitNot a) b _ _ tA tB news hA hB oA oB h0 hb hbb h1) ?B ?F ?X ?N ?T ?k ?d ?u ?_; (case B => k_asm); (case F => k_asm); (case X => k_asm); (case N => k_asm); (case T => k_asm); (case k => first | exact rfl | assumption); (case d => ktr_room); (case u => ktr_units))
    intro r7 nw7 h7 tk7 F7 N7 P7
    obtain ⟨x7, t1, t2, q7, rr7, tA', tB', hq7, hrr7, hA', hB'⟩ := P7
    (try dsimp only)
    k_extra "stp"
    have ⟨u1, u2⟩ := neg_divmod (a := a) hb
    refine hret _ _ _ _ (by k_asm) (cb_drop (by k_asm) (by kcj_all)) ⟨_, _, _, _, _, _, _, ?_, ?_, hA', hB'⟩
    · rw [hq7]; exact u1
    · rw [hrr7]; exact u2
end
end Mine
end

section
open PySem PySem.W PySem.Spec PySem.Calls PyProof.Rows
set_option maxRecDepth 100000
set_option maxHeartbeats 8000000
namespace Mine
section
variable {prog : Program} {w : World} {A₀ : Around} {E : Value → Shared → Prop} {s' : Shared} {base g g₀ h : Heap} {outer : List Env} {L a e : Addr} {m : Str → Option Value} {name : Str} {scope : Scope} {cd : Value}
  {b₀ : Stmt} {suite : List Stmt} {pos np : Pos} {rest : List ExceptHandler} {Q : Flow → Shared → Prop} {news : List (Addr × Obj)} {KF : Frag}
  {p : Program} {loose : List Str} {mean : ExcName → Option Value} {mg mb : Str → Option Value} {x : Str} {X T' : String}
/-- a new exception that a builtin raised, caught by the try that stands in the same function -/
theorem caught_new (K : Below A₀ base outer g) (hx : Heap.NewExc h s'.heap e X) (F : Fr g L h m) (N : News g L h news) (XB : KF.In base) (TB : Top p loose mean mg mb base)
    (D : KtsDicts (outer.filterMap (·.frame)) g) (T0 : KtsTurn (outer.filterMap (·.frame)) g₀ g)
    (ex : nsIn KF mainGlobals x = some none) (hv : bootBuiltins x = some (.type T')) (hn' : x ≠ "__name__")
    (hexc : isSubtype (.type T') (.type "BaseException") = pure true) (hnt : isSubtype (.type ((Manifest.find? T').elim "type" fun y => y.metatype)) (.type "tuple") = pure false) (hsub : isSubtype (.type X) (.type T') = pure true)
    (k : ∀ h' g', KtsTurn (outer.filterMap (·.frame)) g₀ g' → Fr g' L h' m → News g' L h' news → Below A₀ base outer g' → KF.In g' → Top p loose mean mg mb g' → KtsDicts (outer.filterMap (·.frame)) g' →
      wpAny (model prog w) ((A₀.deeper (envOf name scope L a cd)).mark (some (.ref e))) (execs (b₀ :: suite) (envOf name scope L a cd)) Q E { s' with heap := h' })
    (hk : scope.kind = .function := by rfl) (hx' : (envOf name scope L a cd).kindOf x = some .globalImplicit := by rfl) (hd' : (x == ("__debug__" : Str)) = false := by decide)
    (hE : PassesOwnAt (model prog w) ((A₀.deeper (envOf name scope L a cd)).mark (some (.ref e))) (A₀.deeper (envOf name scope L a cd)) (envOf name scope L a cd) E := by passes_own) :
    wpAny (model prog w) (A₀.deeper (envOf name scope L a cd)) (noteFrame (.ref e) (envOf name scope L a cd))
      (fun _ s₂ => wpAny (model prog w) (A₀.deeper (envOf name scope L a cd)) (setFlight (.ref e) none) (fun _ s₃ =>
        wpAny (model prog w) (A₀.deeper (envOf name scope L a cd)) (handleBy (.ref e) (envOf name scope L a cd) (.ExceptHandler (some (.Name x np)) none (b₀ :: suite) pos :: rest)) Q E s₃) E s₂) E s' := by
  have K' := K.push (name := name) (a := a) (cd := cd) F hk
  have hin : ∀ env ∈ (envOf name scope L a cd :: outer), ∀ b, env.frame = some b → b ∈ (envOf name scope L a cd :: outer).filterMap (·.frame) := fun env he b hb => List.mem_filterMap.mpr ⟨env, he, hb⟩
  have sg : ∀ b o, h.get? b = some o → b ∉ (envOf name scope L a cd :: outer).filterMap (·.frame) → (hideAll h ((envOf name scope L a cd :: outer).filterMap (·.frame))).get? b = some o := fun b o q nm => hideAll_get _ q nm
  have hl : ∀ q ∈ news, (hideAll h ((envOf name scope L a cd :: outer).filterMap (·.frame))).get? q.1 = some q.2 ∧ g.get? q.1 = none ∧ q.1 ≠ L := fun q hq => by
    refine ⟨hideAll_get _ (N q hq).1 fun hm => ?_, (N q hq).2.2, (N q hq).2.1⟩
    obtain ⟨env, he, hf⟩ := List.mem_filterMap.mp hm
    rcases List.mem_cons.mp he with rfl | he
    · exact (N q hq).2.1 (Option.some.inj hf).symm
    · obtain ⟨o, ho, _⟩ := (K.frames.mem (List.mem_filterMap.mpr ⟨env, he, hf⟩)).2
      rw [(N q hq).2.2] at ho; cases ho
  obtain ⟨ob, tp, he, hcls, hd⟩ := hx.there
  have hen : (hideAll h ((envOf name scope L a cd :: outer).filterMap (·.frame))).get? e = none := by
    cases q : (hideAll h ((envOf name scope L a cd :: outer).filterMap (·.frame))).get? e with
    | none => rfl
    | some o => have := of_hideAll _ q; rw [hx.new] at this; cases this
  unfold noteFrame
  simp only [show (envOf name scope L a cd).frame = some L from rfl]
  refine wpAny_bind (wpAny_field he hd (x := .none) rfl ?_)
  rw [if_neg (by decide)]
  refine wpAny_entryW (a0 := tp) (Around.frames_deeper K.stack) ((funFrames_hide K'.frames hin).of_keeps fun b o hb _ => ⟨o, hx.keeps b o hb, rfl⟩) rfl he (fun b o hb => hx.keeps b o (of_hideAll _ hb)) hen hd (by show 1 < 6; decide) rfl fun h₄ hN => ?_
  obtain ⟨k1, k2, k3, k4⟩ := hN
  have hsm : h.UpToSlots s'.heap := Heap.UpToSlots.of_keeps hx.keeps
  rw [hcls] at k3
  refine wpAny_landsW ⟨k1, hen, k2, k3⟩ fun h₅ hheld hsm₅' => ?_
  have hsm₅ := Heap.UpToSlots.trans k4 hsm₅'
  obtain ⟨g₅, T₅, F₅, K₅⟩ := kts_ground K F sg hheld.1 (hsm.trans hsm₅)
  have X₅ : KF.In g₅ := XB.keeps K₅.stays
  have P₅ : TopRead p loose mg mb g₅ := topRead_of (TB.keeps K₅.stays)
  obtain ⟨ob', hob, hobc⟩ := hheld.there
  refine wpAny_handleBy_builtin (X := X) (T := T') (b := true) hexc hnt hsub (name_B F₅ X₅ P₅ ex hv hn' ⟨rfl, ⟨ob', hob, hobc⟩, ?_⟩ hk hx' hd')
  refine lands_againW hheld fun h₆ hfl₆ hsm₆ => ?_
  obtain ⟨g₆, T₆, F₆, K₆⟩ := kts_ground K F sg hfl₆.1 ((hsm.trans hsm₅).trans hsm₆)
  have Nl : News g₆ L h₆ news := fun q hq => ⟨hfl₆.1 _ _ (hl q hq).1, (hl q hq).2.2, T₆.none_ _ (hl q hq).2.1⟩
  exact wpAny_passesOwnAt hE (k h₆ g₆ (T0.trans T₆) F₆ Nl K₆ (XB.keeps K₆.stays) (TB.keeps K₆.stays) (D.turn T₆))
end
end Mine
end

section
open PySem PySem.W PySem.Spec PySem.Calls PyProof.Rows
set_option maxRecDepth 100000
set_option maxHeartbeats 8000000
namespace Mine
/-- unorderable_list_difference: what is missing and what is left; the names of the first list come from its end -/
noncomputable def uld : List Str → List Str → List Str → List Str × List Str
  | [], act, miss => (miss, act)
  | e :: es, act, miss => if e ∈ act then uld es (act.erase e) miss else uld es act (miss ++ [e])
theorem uld_count (x : Str) : ∀ (es act miss : List Str),
    ((uld es act miss).1.count x : Int) - (uld es act miss).2.count x = miss.count x + es.count x - act.count x ∧ ((miss.count x = 0 ∨ act.count x = 0) → (uld es act miss).1.count x = 0 ∨ (uld es act miss).2.count x = 0)
  | [], act, miss => by simp [uld]
  | e :: es, act, miss => by
    unfold uld
    split
    · rename_i h
      have ⟨a, b⟩ := uld_count x es (act.erase e) miss
      have hc : (e :: es).count x = es.count x + (if e == x then 1 else 0) := List.count_cons
      have hp : (act.erase e).count x = act.count x - (if e == x then 1 else 0) := List.count_erase ..
      have h1 : 0 < act.count e := List.count_pos_iff.mpr h
      by_cases hx : e = x
      · subst hx
        simp only [beq_self_eq_true, if_true] at hc hp
        refine ⟨by rw [a, hc, hp]; omega, fun z => b ?_⟩
        rcases z with z | z
        · exact .inl z
        · omega
      · have hb : (e == x) = false := by simpa using hx
        simp only [hb, Bool.false_eq_true, if_false] at hc hp
        refine ⟨by rw [a, hc, hp]; omega, fun z => b ?_⟩
        rcases z with z | z
        · exact .inl z
        · right; omega
    · rename_i h
      have ⟨a, b⟩ := uld_count x es act (miss ++ [e])
      have hc : (e :: es).count x = es.count x + (if e == x then 1 else 0) := List.count_cons
      have hm : (miss ++ [e]).count x = miss.count x + (if e == x then 1 else 0) := by rw [List.count_append, List.count_singleton]
      refine ⟨by rw [a, hc, hm]; omega, fun z => b ?_⟩
      by_cases hx : e = x
      · subst hx; exact .inr (List.count_eq_zero.mpr h)
      · have hb : (e == x) = false := by simpa using hx
        simp only [hb, Bool.false_eq_true, if_false] at hm
        rcases z with z | z
        · left; omega
        · exact .inr z
theorem idxOf_le {k : Str} : ∀ {xs : List Str} {i : Nat} (h : i < xs.length), xs[i] = k → xs.idxOf k ≤ i
  | x :: xs, 0, _, e => by
    have e' : x = k := e
    rw [List.idxOf_cons, e']; simp
  | x :: xs, i + 1, h, e => by
    rw [List.idxOf_cons]
    cases hx : x == k with
    | true => simp
    | false =>
      have := idxOf_le (xs := xs) (i := i) (by simpa using h) (by simpa using e)
      simp only [cond_false]; omega
theorem strs_erase {vs : List Value} {xs : List Str} (h : StrsAre vs xs) : ∀ j, StrsAre (vs.eraseIdx j) (xs.eraseIdx j) := by
  induction h with
  | nil => intro j; exact .nil
  | cons y t h ih =>
    intro j
    cases j with
    | zero => exact h
    | succ j => exact .cons y t (ih j)
theorem strs_at {vs : List Value} {xs : List Str} (h : StrsAre vs xs) : ∀ (k : Str) (i : Nat) (hi : i < vs.length), isStrOf k vs[i] = (xs[i]'(by rw [← h.length]; exact hi) == k) := by
  induction h with
  | nil => intro k i hi; cases hi
  | cons y t h ih =>
    intro k i hi
    cases i with
    | zero => rfl
    | succ i => exact ih k i (by simpa using hi)
section
variable {prog : Program} {w : World} {A : Around} {E : Value → Shared → Prop} {h₀ : Heap} {s : Shared} {L D : Addr} {m : Str → Option Value} {vs : List Value} {n : Nat} {pre post : List (Addr × Obj)} {xs : List Str} {k : Str} {t : Tok} {Q : Value → Shared → Prop}
theorem remove_S (hA : A.handled = none) (F : Fr h₀ L s.heap m) (N : News h₀ L s.heap (pre ++ (D, listOf vs.toArray n) :: post)) (a : ∀ p ∈ pre, p.1 ≠ D) (b : ∀ p ∈ post, p.1 ≠ D) (hi : StrsAre vs xs) (hz : vs.length ≤ sizeLine)
    (h1 : k ∈ xs → ∀ vs' h', StrsAre vs' (xs.erase k) → Fr h₀ L h' m → News h₀ L h' (pre ++ (D, listOf vs'.toArray (n + 1)) :: post) → Q .none { s with heap := h' })
    (h2 : k ∉ xs → ∀ h' tk e, Heap.NewExc s.heap h' e "ValueError" → E (.ref e) { s with heap := h', toks := tk }) :
    wpAny (model prog w) A (call (.builtin "list.remove") [.ref D, .str k t]) Q E s := by
  have z := N (D, listOf vs.toArray n) (List.mem_append.mpr (.inr (.head _)))
  have hl : xs.length = vs.length := hi.length.symm
  have hes : ∀ y, y ∈ vs.toArray → MeetsSeq.EqGives y (.str k t) (isStrOf k y) := fun y hy => eq_isStrOf k t hi y (by simpa using hy)
  by_cases hk : k ∈ xs
  · have hj : xs.idxOf k < xs.length := List.idxOf_lt_length_iff.mpr hk
    have hjv : xs.idxOf k < vs.length := by omega
    refine call_meets PySem.F.slot_list_remove ⟨_, z.1, rfl⟩ PySem.F.entry_list_remove (PySem.F.args_list_remove_2 _ _)
      (MeetsSeq.list_remove D vs.toArray n (.str k t) (isStrOf k) hes (xs.idxOf k) (by simpa using hjv) ?_ ?_ (by simpa using hz))
      ⟨z.1, h1 hk (vs.eraseIdx (xs.idxOf k)) _ ?_ (F.change (Heap.SameBut.update ..) z.2.1 z.2.2) (ki_turn _ N a b ?_ ?_)⟩
    · have := strs_at hi k _ hjv
      simp only [List.getElem_idxOf, beq_self_eq_true] at this
      simpa using this
    · intro i hi' hlt
      have h3 : i < vs.length := by omega
      have := strs_at hi k i h3
      have h4 : (xs[i]'(by omega) == k) = false := by
        rw [beq_eq_false_iff_ne]
        intro e
        have h5 : xs.idxOf k ≤ i := idxOf_le (by omega) e
        omega
      rw [h4] at this
      simpa using this
    · rw [List.erase_eq_eraseIdx_of_idxOf rfl]
      exact strs_erase hi _
    · apply Array.toList_inj.mp
      simp [Array.toList_eraseIdxIfInBounds]
    · have hq : (vs.eraseIdx (xs.idxOf k)).toArray.size ≠ vs.toArray.size := by
        simp only [List.size_toArray, List.length_eraseIdx, if_pos hjv]; omega
      rw [if_neg (by simpa using hq)]
  · refine call_meets PySem.F.slot_list_remove ⟨_, z.1, rfl⟩ PySem.F.entry_list_remove (PySem.F.args_list_remove_2 _ _)
      (MeetsSeq.list_remove_none D vs.toArray n (.str k t) (isStrOf k) hes ?_) ⟨z.1, hA, fun h' tk e hx => h2 hk h' tk e hx⟩
    intro i hi'
    have h3 : i < vs.length := by simpa using hi'
    have := strs_at hi k i h3
    have h4 : (xs[i]'(by omega) == k) = false := by
      rw [beq_eq_false_iff_ne]
      intro e
      exact hk (e ▸ List.getElem_mem _)
    rw [h4] at this
    simpa using this
end
section
variable {prog : Program} {w : World} {A : Around} {E : Value → Shared → Prop} {Q : Flow → Shared → Prop} {s : Shared} {env : Env}
theorem While_own {test : Expr} {body : List Stmt} {pos : Pos} (J : Nat → Shared → Prop) {n₀ : Nat} (hJ : J n₀ s)
    (turn : ∀ n s', J n s' → wpAny (model prog w) A (isTrue test env (eval test env)) (fun b s₂ =>
        if b = true then wpAny (model prog w) A (execs body env) (fun f s₃ => match f with | .next | .cont => ∃ n', n' < n ∧ J n' s₃ | .brk => Q .next s₃ | .ret v => Q (.ret v) s₃) E s₂ else Q .next s₂) E s')
    (hE : PassesOwn (model prog w) A env E := by passes_own) :
    wpAny (model prog w) A (exec (.While test body [] pos) env) Q E s := by
  refine wpAny_While (codeAny_whileLoop J ?_ n₀ hJ)
  intro n s' hs
  refine wpAny_mono (turn n s' hs) (fun b s₂ h₂ => ?_) hE
  cases b with
  | false =>
    simp only [Bool.false_eq_true, if_false] at h₂ ⊢
    exact wpAny_execs_nil h₂
  | true =>
    simp only [if_true] at h₂ ⊢
    refine wpAny_mono h₂ (fun f s₃ h₃ => ?_) hE
    cases f <;> exact h₃
end
end Mine
end

section
open PySem PySem.W PySem.Spec PySem.Calls PyProof.Rows
set_option maxRecDepth 100000
set_option maxHeartbeats 8000000
namespace Mine
section
variable {prog : Program} {w : World} {A₀ A : Around} {s : Shared} {base h₀ : Heap} {L a : Addr} {m : Str → Option Value} {cn : Str} {cs : Scope} {ccd : Value} {cl : List (Str × Addr)} {news : List (Addr × Obj)} {K : Frag} {p : Program} {loose : List Str} {mean : ExcName → Option Value} {mg mb : Str → Option Value}
  {R : Result → Shared → Prop} {name qual : Str} {params : Arguments} {body : List Stmt} {scope : Scope} {dV kV doc pm cdv ct oc : Value} {an od : Option Addr} {osl : Array (Option Value)} {f : Addr} {args : Args} {binds : List (Str × Value)}
/-- under the law's own frame, which keeps cells, the caller's new objects hidden -/
theorem below_hide (B : Below A₀ base [] h₀) (F : Fr h₀ L s.heap m) (N : News h₀ L s.heap news) (hA : A.frames = some [envX cn cs L a ccd cl]) (hck : cs.kind = .function) :
    Below A base [envX cn cs L a ccd cl] (hideAll s.heap (news.map (·.1))) ∧ h₀.StaysIn (hideAll s.heap (news.map (·.1))) := by
  have new : ∀ b o, h₀.get? b = some o → b ∉ news.map (·.1) := by
    intro b o e hb
    obtain ⟨q, hq, rfl⟩ := List.mem_map.mp hb
    have := (N q hq).2.2
    rw [this] at e
    exact nomatch e
  have stay : h₀.StaysIn (hideAll s.heap (news.map (·.1))) := fun b o e => hideAll_get _ (F.keep b o e) (new b o e)
  have nL : L ∉ news.map (·.1) := by
    intro hb
    obtain ⟨q, hq, e⟩ := List.mem_map.mp hb
    exact (N q hq).2.1 e
  have none₀ : base.get? L = none := by
    cases q : base.get? L with
    | none => rfl
    | some o =>
      have e := B.stays L o q
      rw [Heap.get?_none_of_le F.above] at e
      exact nomatch e
  obtain ⟨oL, es, ep, hL, hd, h1, h2⟩ := F.ns
  have hLg := hideAll_get (news.map (·.1)) hL nL
  refine ⟨⟨hA, fun b o e => stay b o (B.stays b o e), ?_⟩, stay⟩
  exact .cons (by show cs.kind ≠ .module; rw [hck]; decide) rfl (m := m) ⟨oL, es, ep, hLg, hd, h1, h2⟩ none₀ (B.frames.of_keeps fun b o e _ => ⟨o, stay b o e, rfl⟩)
/-- a call of a plain function from the law's own frame, where an exception may be caught below -/
theorem code_lawX (B : Below A₀ base [] h₀) (F : Fr h₀ L s.heap m) (X₀ : K.In h₀) (N : News h₀ L s.heap news) (T : Top p loose mean mg mb h₀) (hA : A.frames = some [envX cn cs L a ccd cl])
    (ho : K.lookup f = some ⟨oc, od, .func (fnOf name qual params body scope dV kV doc pm an cdv ct), osl⟩) (hcd : codeIn K cdv qual = true) (hroom : A.depth < recursionLimit)
    (hbind : BindsTo s (fnOf name qual params body scope dV kV doc pm an cdv ct) args binds) (hloc : ∀ y ∈ binds, scope.names.lookup y.1 = some .local)
    (h : ∀ g L' h₁, Fr h₀ L g m → Fr g L' h₁ (fun y => binds.reverse.lookup y) → News g L' h₁ news → Below A base [envX cn cs L a ccd cl] g → K.In g → Top p loose mean mg mb g → KtsDicts ([envX cn cs L a ccd cl].filterMap (·.frame)) g →
      wpAny (model prog w) (A.deeper (envOf qual scope L' f cdv)) (execs body (envOf qual scope L' f cdv))
        (fun fl s' => LeaveS0 ([envX cn cs L a ccd cl].filterMap (·.frame)) h₀ L m g R (match fl with | .ret v => v | _ => .none) s')
        (fun e s' => wpAny (model prog w) (A.deeper (envOf qual scope L' f cdv)) (leaving (envOf qual scope L' f cdv) e) (fun _ s'' => R (.error e) s'') (fun e' s'' => R (.error e') s'') s')
        { s with heap := h₁, toks := s.toks + binds.length })
    (hck : cs.kind = .function) (hco : scope.isCoroutine = false) (hgen : scope.isGenerator = false) (hk : scope.kind = .function)
    (hcell : ∀ x ∈ scope.names, x.2 ≠ .cell) : codeAny (model prog w) A (.call (.ref f) args) R s := by
  have X := X₀.keeps F.keep
  refine codeAny_call_def (fd := fnOf name qual params body scope dV kV doc pm an cdv ct) (body := body) (binds := binds) hroom (X _ _ ho) rfl (T.nolimit.keeps F.keep) (codeRec_of X hcd) rfl hbind hcell hloc (fun h₁ hns hk₁ => ?_) hco hgen hk
  obtain ⟨B₂, st⟩ := below_hide B F N hA hck
  have nL : L ∉ news.map (·.1) := by
    intro hb
    obtain ⟨q, hq, e⟩ := List.mem_map.mp hb
    exact (N q hq).2.1 e
  obtain ⟨oL, es, ep, hL, hd, c1, c2⟩ := F.ns
  have hLg := hideAll_get (news.map (·.1)) hL nL
  have own : ∀ b ∈ [envX cn cs L a ccd cl].filterMap (·.frame), b = L := fun b hb => by
    obtain ⟨e, he, hf⟩ := List.mem_filterMap.mp hb
    rw [List.mem_singleton.mp he] at hf
    exact (Option.some.inj hf).symm
  have FG : Fr h₀ L (hideAll s.heap (news.map (·.1))) m := ⟨⟨oL, es, ep, hLg, hd, c1, c2⟩, st, F.above⟩
  have F1 : Fr (hideAll s.heap (news.map (·.1))) s.heap.objs.size h₁ (fun y => binds.reverse.lookup y) := ⟨hns, fun b o e => hk₁ b o (of_hideAll _ e), Nat.le_of_eq (hideAll_size _ _)⟩
  have N1 : News (hideAll s.heap (news.map (·.1))) s.heap.objs.size h₁ news := fun q hq => ⟨hk₁ _ _ (N q hq).1, Nat.ne_of_lt (Heap.lt_size (N q hq).1), hideAll_none _ (List.mem_map_of_mem hq)⟩
  have D1 : KtsDicts ([envX cn cs L a ccd cl].filterMap (·.frame)) (hideAll s.heap (news.map (·.1))) := fun b hb => by rw [own b hb]; exact ⟨oL, es, ep, hLg, hd⟩
  refine wpAny_mono (h _ _ _ FG F1 N1 B₂ (X₀.keeps st) (T.keeps st) D1) (fun fl s' hl => ?_) fun _ _ y => y
  obtain ⟨g', L', m', news', T', F', N', k⟩ := hl
  have noL : ∀ o, h₀.get? L ≠ some o := fun o e => by
    rw [Heap.get?_none_of_le F.above] at e; exact nomatch e
  obtain ⟨sl, hs⟩ := T'.up hLg
  refine k ⟨⟨_, es, ep, F'.keep _ _ hs, hd, c1, c2⟩, fun b o e => F'.keep b o (T'.other b o (st b o e) fun hb => ?_), F.above⟩ fun q hq => ⟨(N' q hq).1, fun e => ?_, ?_⟩
  · rw [own b hb] at e; exact noL o e
  · have := (N' q hq).2.2
    rw [e, hs] at this; exact nomatch this
  · cases e : h₀.get? q.1 with
    | none => rfl
    | some o =>
      obtain ⟨sl', hs'⟩ := T'.up (st _ _ e)
      have := (N' q hq).2.2
      rw [hs'] at this; exact nomatch this
end
end Mine
end

section
open PySem PySem.W PyProof.Rows
set_option maxRecDepth 100000
set_option maxHeartbeats 8000000
namespace Mine
inductive uJ (w : World) (p : Program) (loose : List Str) (mean : ExcName → Option Value) (mg mb : Str → Option Value) (s : Shared) (A : Around) (base : Heap) (e0 : Env) (g' : Heap) (L' M De Da : Addr) (m₁ : Str → Option Value) (news : List (Addr × Obj)) (fin : List Str × List Str) (n : Nat) (s' : Shared) : Prop
  | mk (g2 h2 : Heap) (tk2 : Nat) (it : Option Value) (vM vE vA : List Value) (c1 c2 c3 : Nat) (es as ms : List Str) (zz0 : s' = { s with heap := h2, toks := tk2 }) (zz1 : KtsTurn ([e0].filterMap (·.frame)) g' g2) (zz2 : Fr g2 L' h2 (fun y => if y = Str.ofString "item" then it else m₁ y)) (zz3 : News g2 L' h2 ((M, listOf vM.toArray c1) :: (De, listOf vE.toArray c2) :: (Da, listOf vA.toArray c3) :: news)) (zz4 : Below A base [e0] g2) (zz5 : (mk.heap_1 w.params).In g2) (zz6 : Top p loose mean mg mb g2) (zz7 : KtsDicts ([e0].filterMap (·.frame)) g2) (zz8 : StrsAre vE es) (zz9 : StrsAre vA as) (zz10 : StrsAre vM ms) (zz11 : n = es.length) (zz12 : ms.length + es.length ≤ 1000) (zz13 : as.length ≤ 1000) (zz14 : uld es.reverse as ms = fin) : uJ w p loose mean mg mb s A base e0 g' L' M De Da m₁ news fin n s'
theorem canonF {g h : Heap} {L : Addr} {m : Str → Option Value} (x : Str) (F : Fr g L h m) : Fr g L h (fun y => if y = x then m x else m y) := by
  have e : (fun y => if y = x then m x else m y) = m := by
    funext y
    by_cases h1 : y = x
    · rw [if_pos h1, h1]
    · rw [if_neg h1]
  rw [e]; exact F
theorem uJ_start {w : World} {p : Program} {loose : List Str} {mean : ExcName → Option Value} {mg mb : Str → Option Value} {s : Shared} {A : Around} {base : Heap} {e0 : Env} {g' h2 : Heap} {L' M De Da : Addr} {m₁ : Str → Option Value} {news : List (Addr × Obj)} {tk2 : Nat} {vE vA : List Value} {c1 c2 c3 : Nat} {es as : List Str}
    (F : Fr g' L' h2 m₁) (N : News g' L' h2 ((M, listOf #[] c1) :: (De, listOf vE.toArray c2) :: (Da, listOf vA.toArray c3) :: news)) (B : Below A base [e0] g') (X : (mk.heap_1 w.params).In g') (T : Top p loose mean mg mb g') (D : KtsDicts ([e0].filterMap (·.frame)) g')
    (hE : StrsAre vE es) (hA : StrsAre vA as) (h1 : es.length ≤ 1000) (h2' : as.length ≤ 1000) : uJ w p loose mean mg mb s A base e0 g' L' M De Da m₁ news (uld es.reverse as []) es.length { s with heap := h2, toks := tk2 } :=
  ⟨g', h2, tk2, _, [], vE, vA, _, _, _, es, as, [], rfl, KtsTurn.refl, canonF (Str.ofString "item") F, N, B, X, T, D, hE, hA, .nil, rfl, by simp; omega, h2', rfl⟩
theorem snoc_of : ∀ {l : List Str}, l.isEmpty = false → ∃ xs y, l = xs ++ [y]
  | [x], _ => ⟨[], x, rfl⟩
  | x :: z :: r, _ => by
    obtain ⟨xs, y, e⟩ := snoc_of (l := z :: r) rfl
    exact ⟨x :: xs, y, by rw [e]; rfl⟩
theorem canonI {g h : Heap} {L : Addr} {m : Str → Option Value} {x : Str} {v it : Option Value} (F : Fr g L h (fun y => if y = x then v else if y = x then it else m y)) : Fr g L h (fun y => if y = x then v else m y) := by
  have e : (fun y => if y = x then v else if y = x then it else m y) = (fun y => if y = x then v else m y) := by
    funext y
    by_cases h1 : y = x
    · rw [if_pos h1, if_pos h1]
    · rw [if_neg h1, if_neg h1, if_neg h1]
  rw [← e]; exact F
theorem app_H {prog : Program} {w : World} {A : Around} {E : Value → Shared → Prop} {h₀ : Heap} {s : Shared} {L D : Addr} {m : Str → Option Value} {vs : List Value} {c : Nat} {r : List (Addr × Obj)} {x : Value} {Q : Value → Shared → Prop}
    (F : Fr h₀ L s.heap m) (N : News h₀ L s.heap ((D, listOf vs.toArray c) :: r)) (hr : ∀ p ∈ r, p.1 ≠ D) (hz : vs.length ≤ sizeLine)
    (h : ∀ h', Fr h₀ L h' m → News h₀ L h' ((D, listOf (vs ++ [x]).toArray (c + 1)) :: r) → Q .none { s with heap := h' }) : wpAny (model prog w) A (call (.builtin "list.append") [.ref D, x]) Q E s := by
  refine append_K F N (.head hr) (fun h' F' N' => ?_) (by simpa using hz)
  have e : vs.toArray.push x = (vs ++ [x]).toArray := by simp
  rw [e] at N'
  exact h h' F' N'
theorem newsPush {h h' : Heap} {L D : Addr} {vs : List Value} {x : Value} {c : Nat} {r : List (Addr × Obj)} (N : News h L h' ((D, listOf (vs.toArray.push x) c) :: r)) : News h L h' ((D, listOf (vs ++ [x]).toArray c) :: r) := by
  have e : vs.toArray.push x = (vs ++ [x]).toArray := by simp
  rw [e] at N; exact N
theorem uld_snoc1 {es3 as ms : List Str} {y : Str} (h : y ∈ as) : uld (es3 ++ [y]).reverse as ms = uld es3.reverse (as.erase y) ms := by
  rw [List.reverse_append]
  show uld (y :: es3.reverse) as ms = _
  rw [uld, if_pos h]
theorem uld_snoc0 {es3 as ms : List Str} {y : Str} (h : y ∉ as) : uld (es3 ++ [y]).reverse as ms = uld es3.reverse as (ms ++ [y]) := by
  rw [List.reverse_append]
  show uld (y :: es3.reverse) as ms = _
  rw [uld, if_neg h]
theorem strs_app {vs ws : List Value} {xs ys : List Str} (h : StrsAre vs xs) (h2 : StrsAre ws ys) : StrsAre (vs ++ ws) (xs ++ ys) := by
  induction h with
  | nil => exact h2
  | cons y t _ ih => exact .cons y t ih
theorem truthy_L {prog : Program} {w : World} {A : Around} {E : Value → Shared → Prop} {h₀ : Heap} {s : Shared} {L D : Addr} {vs : List Value} {xs : List Str} {n : Nat} {news : List (Addr × Obj)} {Q : Bool → Shared → Prop} (N : News h₀ L s.heap news) (hm : (D, listOf vs.toArray n) ∈ news) (hx : StrsAre vs xs) (hz : xs.length ≤ 1000)
    (h : Q (!xs.isEmpty) { s with toks := s.toks + 1 + 1 }) : wpAny (model prog w) A (truthy (.ref D)) Q E s := by
  refine wpAny_truthy_list (News.isList N hm) (by have := hx.length; simp only [List.size_toArray]; omega) ?_
  have e : vs.toArray.isEmpty = xs.isEmpty := by cases hx <;> simp
  rw [e]; exact h
theorem pop_L {prog : Program} {w : World} {A : Around} {E : Value → Shared → Prop} {h₀ : Heap} {s : Shared} {L D a1 : Addr} {m : Str → Option Value} {o1 : Obj} {vs : List Value} {xs : List Str} {y : Str} {c : Nat} {r : List (Addr × Obj)} {Q : Value → Shared → Prop}
    (F : Fr h₀ L s.heap m) (N : News h₀ L s.heap ((a1, o1) :: (D, listOf vs.toArray c) :: r)) (h1 : a1 ≠ D) (hr : ∀ p ∈ r, p.1 ≠ D) (hx : StrsAre vs (xs ++ [y])) (hz : xs.length ≤ 1000)
    (h : ∀ h' vs' t, StrsAre vs' xs → Fr h₀ L h' m → News h₀ L h' ((a1, o1) :: (D, listOf vs'.toArray (c + 1)) :: r) → Q (.str y t) { s with heap := h' }) : wpAny (model prog w) A (call (.builtin "list.pop") [.ref D]) Q E s := by
  obtain ⟨vs', t, rfl, hv⟩ : ∃ vs' t, vs = vs' ++ [.str y t] ∧ StrsAre vs' xs := by
    clear h N hz
    revert vs
    induction xs with
    | nil =>
      intro vs hx
      cases hx with
      | cons y t hx => cases hx; exact ⟨[], t, rfl, .nil⟩
    | cons x xs ih =>
      intro vs hx
      cases hx with
      | cons y' t hx =>
        obtain ⟨vs', t', rfl, hv⟩ := ih hx
        exact ⟨_ :: vs', t', rfl, .cons _ _ hv⟩
  refine kl_pop F N (p := vs') (y := .str y t) ?_ (.tail h1 (.head hr)) (by have := hv.length; unfold sizeLine; simp; omega) fun h' F' N' => h h' vs' t hv F' N'
  have e := kpa_last (.str y t) vs'
  simpa using e
section
@[irreducible] noncomputable def NextU (J : Nat → Shared → Prop) (n : Nat) (s : Shared) : Prop := ∃ n', n' < n ∧ J n' s
theorem NextU.mk {J : Nat → Shared → Prop} {n n' : Nat} {s : Shared} (h : n' < n) (hJ : J n' s) : NextU J n s := by unfold NextU; exact ⟨n', h, hJ⟩

theorem While_nu {prog : Program} {w : World} {A : Around} {E : Value → Shared → Prop} {Q : Flow → Shared → Prop} {s : Shared} {env : Env} {test : PySem.Expr} {body : List Stmt} {pos : Pos} (J : Nat → Shared → Prop) {n₀ : Nat} (hJ : J n₀ s)
    (turn : ∀ n s', J n s' → wpAny (model prog w) A (isTrue test env (eval test env)) (fun b s₂ =>
        if b = true then wpAny (model prog w) A (execs body env) (fun f s₃ => match f with | .next | .cont => NextU J n s₃ | .brk => Q .next s₃ | .ret v => Q (.ret v) s₃) E s₂ else Q .next s₂) E s')
    (hE : PassesOwn (model prog w) A env E := by passes_own) :
    wpAny (model prog w) A (exec (.While test body [] pos) env) Q E s := by
  refine While_own J hJ (fun n s' h => wpAny_mono (turn n s' h) (fun b s₂ h₂ => ?_) fun _ _ e => e) hE
  split at h₂
  · rename_i hb
    rw [if_pos hb]
    refine wpAny_mono h₂ (fun f s₃ h₃ => ?_) fun _ _ e => e
    unfold NextU at h₃
    cases f <;> exact h₃
  · rename_i hb
    rw [if_neg hb]; exact h₂
@[irreducible] noncomputable def whU : Stmt := subStmt 2 1
theorem uldS (w : World) (De Da : Addr) (vE vA : List Value) (cE cA : Nat) (es as : List Str) (news : List (Addr × Obj)) (hE : StrsAre vE es) (hA : StrsAre vA as) (hzE : vE.length ≤ 1000) (hzA : vA.length ≤ 1000)
    (hne : Da ≠ De) (oE : ∀ p ∈ news, p.1 ≠ De) (oA : ∀ p ∈ news, p.1 ≠ Da) :
    ∀ (dp un : Nat) (gd : Option (List Code)) (cn : Str) (cs : Scope) (ac : Addr) (ccd : Value) (cl : List (Str × Addr)) (A₀ : Around) (base h₀ : Heap) (L : Addr) (m : Str → Option Value) (s : Shared)
    (p : Program) (loose : List Str) (mean : ExcName → Option Value) (mg mb : Str → Option Value) (Q E : Value → Shared → Prop)
    (XB : (mk.heap_1 w.params).In base) (TB : Top p loose mean mg mb base) (B : Below A₀ base [] h₀) (F : Fr h₀ L s.heap m) (X : (mk.heap_1 w.params).In h₀) (N : News h₀ L s.heap ((De, listOf vE.toArray cE) :: (Da, listOf vA.toArray cA) :: news)) (T : Top p loose mean mg mb h₀) (hk : cs.kind = .function)
    (hd : dp + 10 < recursionLimit) (hu : un + 100 < cLine)
    (hret : ∀ x M vM vL c1 c2 c3 h' tk', Fr h₀ L h' m → News h₀ L h' ((x, tup [.ref M, .ref Da]) :: (M, listOf vM.toArray c1) :: (De, listOf #[] c2) :: (Da, listOf vL.toArray c3) :: news) → StrsAre vM (uld es.reverse as []).1 → StrsAre vL (uld es.reverse as []).2 →
      Q (.ref x) { s with heap := h', toks := tk' }),
    wpAny (model PySem.Challenge.rw_in0279_01.row.toRowW.prog w) (ktrTop dp un gd cn cs L ac ccd cl []) (call (.ref 38) [.ref De, .ref Da]) Q E s := by
  k_with_none
  w_top off
  k_with "om" => (first | decide | (with_reducible first | (refine neN ?_; first | (refine Nat.ne_of_lt ?_; first | ((repeat (first | assumption | exact om_k1 | refine Nat.lt_succ_of_lt ?_)); done) | (apply And.left; (iterate 18 (first | done | assumption | apply And.right)); done)) | (refine Nat.ne_of_gt ?_; first | ((repeat (first | assumption | exact om_k1 | refine Nat.lt_succ_of_lt ?_)); done) | (apply And.left; (iterate 18 (first | done | assumption | apply And.right)); done)) | (refine Ne.symm ?_; assumption) | (refine om_s ?_; omega)) | exact om_le (by assumption) rfl | exact om_ll (by assumption) rfl | exact om_lt (by assumption) rfl | exact om_lg (by assumption) rfl | exact om_r1 (by assumption) rfl | exact om_r2 (by assumption) rfl | exact om_r3 (by assumption) rfl | exact om_il (by assumption) rfl | exact om_ig (by assumption) rfl | exact om_tn (by assumption) rfl | exact om_tl (by assumption) rfl | exact om_nc (by assumption) rfl | exact Int.natCast_nonneg _ | exact Int.le_of_lt (by assumption)) | (law_clear; lia))
  k_with "execs cons" => ((first | (k_here; k_gentoks) | (refine wpAny_execs_cons ?_; k_fold; (try k_extra "mlet"))))
  k_with "stp" => (repeat' (first | (k_unfold; (try dsimp only)) | (k_end; wrow_close) | (walk1; (all_goals (try dsimp only))) | (dsimp only; walk1) | (leave1; walk_say "STEP leave1"; try dsimp only) | fail "no step"))
  k_with "getMethod ref" => ((k_dflt (refine' kl_method ?w9N ?w9m PySem.F.slot_list_append PySem.F.type_list_append ?_; (case w9N => k_asm); (case w9m => k_memK))))
  k_with "getMethod ref" => (((with_reducible show wpAny _ _ (getMethod (Value.ref _) (PySem.Str.ofString "pop") _) _ _ _); k_dflt (refine' kl_method ?w9N ?w9m PySem.F.slot_list_pop PySem.F.type_list_pop ?_; (case w9N => k_asm); (case w9m => k_memK))))
  k_with "getMethod ref" => (((with_reducible show wpAny _ _ (getMethod (Value.ref _) (PySem.Str.ofString "remove") _) _ _ _); k_dflt (refine' kl_method ?w9N ?w9m PySem.F.slot_list_remove PySem.F.type_list_remove ?_; (case w9N => k_asm); (case w9m => k_memK))))
  k_with "truthy ref" => ((k_dflt (refine' truthy_L ?w9N ?w9m ?w9x ?w9z ?_; (case w9N => k_asm); (case w9m => k_memK); (case w9x => assumption); (case w9z => omega))))
  k_fill
  intro dp un gd cn cs ac ccd cl A₀ base h₀ L m s p loose mean mg mb Q E XB TB B F X N T hk hd hu hret
  refine wpAny_call ?_
  k_dflt (refine' code_lawX ?k1 ?k2 ?k3 ?k4 ?k5 ?kA ?k6 ?k7 ?k8 ?k9 ?kB ?_ ?cK ?c2 ?c3 ?c4 ?c5; (case kA => exact rfl); (case k2 => k_asm); (case k1 => k_asm); (case k3 => k_asm); (case k4 => k_asm); (case k5 => k_asm); (case k6 => k_is); (case k7 => k_is); (case k8 => ktr_room); (case k9 => exact BindsTo.of_eq rfl); (case kB => exact locs rfl); (case cK => exact hk); (case c2 => exact rfl); (case c3 => exact rfl); (case c4 => exact rfl); (case c5 => decide); k_whole; intro g' L' h' FG' F' N' B' X' T' D'; (try dsimp only); (try k_lift B'); (try k_fold))
  have hb : whU = whU := rfl
  conv at hb => rhs; unfold whU; whnf
  rw [← hb]
  k_extra "stp"
  rw [hb]
  clear hb
  rename _ ∧ _ ∧ AllLt _ _ => lM
  have qME := Nat.ne_of_gt lM.1
  have qMA := Nat.ne_of_gt lM.2.1
  have qMn := allLt_ne lM.2.2
  have F9 := ‹Fr g' L' _ _›
  have N9 := ‹News g' L' _ _›
  refine (let JW9 : Nat → Shared → Prop := _; While_nu JW9 (uJ_start (s := s) F9 N9 B' X' T' D' hE hA (by have := hE.length; omega) (by have := hA.length; omega)) ?_)
  rintro n s' ⟨g2, h2, tk2, it, vM, vE', vA', c1, c2, c3, es', as', ms, rfl, KT, F2, N2, B2, X2, T2, D2, sE, sA, sM, hn, hz1, hz2, hfin⟩
  (try dsimp only)
  k_extra "stp"
  · have e0 : es' = [] := List.isEmpty_iff.mp (by assumption)
    subst e0
    cases sE
    refine hret _ _ vM vA' _ _ _ _ _ (by k_asm) (by k_asm) ?_ ?_
    · rw [← hfin]; exact sM
    · rw [← hfin]; exact sA
  · obtain ⟨es3, y, rfl⟩ := snoc_of (show es'.isEmpty = false by assumption)
    k_dflt (refine' pop_L ?F ?N qME ?r sE ?z ?_; (case F => k_asm); (case N => k_asm); (case r => exact List.forall_mem_cons.mpr ⟨hne, oE⟩); (case z => (simp only [List.length_append, List.length_cons, List.length_nil] at hz1; omega)))
    intro h3 vE3 t3 sE3 F3 N3
    (try dsimp only)
    k_extra "stp"
    have N4 := ‹News g2 L' _ _›
    have hl4 : vA'.length ≤ sizeLine := by have := sA.length; unfold sizeLine; omega
    k_dflt (refine' remove_S (pre := [_, _]) ?h ?F N4 ?a ?b sA hl4 ?_ ?_; (case h => exact rfl); (case F => k_asm); (case b => exact oA))
    · intro q hq
      simp only [List.mem_cons, List.not_mem_nil, or_false] at hq
      rcases hq with rfl | rfl
      · exact qMA
      · exact Ne.symm hne
    · intro hy vA4 h4 sA4 F4 N4
      (try dsimp only)
      k_extra "stp"
      refine NextU.mk (n' := es3.length) (by rw [hn, List.length_append]; simp) ?_
      · rw [uld_snoc1 hy] at hfin
        rw [List.length_append] at hz1
        exact ⟨g2, h4, _, _, vM, vE3, vA4, _, _, _, es3, as'.erase y, ms, rfl, KT, canonI F4, N4, B2, X2, T2, D2, sE3, sA4, sM, rfl, by omega, by have := List.length_erase_le (a := y) (l := as'); omega, hfin⟩
    · intro hy h4 tk4 e4 x4
      (try dsimp only)
      k_dflt (refine' caught_new ?K x4 ?F N4 XB TB D2 KT ?ex PyProof.Rows.Boot.«ValueError» ?hn PySem.F.isExc_ValueError PySem.F.notTuple_ValueError ?hs ?_ ?a1 ?a2 ?a3 ?a4; (case K => k_asm); (case F => k_asm); (case ex => k_is); (case hn => decide); (case hs => (rw [isSubtype_type]; kernel_rfl)); (case a1 => rfl); (case a2 => rfl); (case a3 => decide); (case a4 => passes_own))
      intro h5 g5 KT5 F5 N5 B5 X5 T5 D5
      (try dsimp only)
      k_extra "stp"
      refine NextU.mk (n' := es3.length) (by rw [hn, List.length_append]; simp) ?_
      · have F7 := ‹Fr g5 L' _ _›
        have N7 := newsPush ‹News g5 L' _ _›
        rw [uld_snoc0 hy] at hfin
        rw [List.length_append] at hz1
        exact ⟨g5, _, _, _, vM ++ [.str y t3], vE3, vA', _, _, _, es3, as', ms ++ [y], rfl, KT5, canonI F7, N7, B5, X5, T5, D5, sE3, sA, strs_app sM (.cons y t3 .nil), rfl, by rw [List.length_append]; exact (by have : [y].length = 1 := rfl; omega), hz2, hfin⟩
end
end Mine
end

section
open PySem PySem.W PyProof.Rows
set_option maxRecDepth 100000
set_option maxHeartbeats 8000000
namespace Mine
open PySem.Sre
noncomputable def reK : Array Nat := #[14, 14, 4, 1, 1, 9, 0, 64, 0, 1342177280, 0, 0, 0, 0, 0, 17, 0, 13, 11, 9, 0, 64, 0, 1342177280, 0, 0, 0, 0, 0, 17, 1, 1]
noncomputable def hit (c : Nat) : Bool := c == 38 || c == 124 || c == 126
theorem hit_small : ∀ c < 256, (reK.getD (5 + (1 + c / 32)) 0).testBit (c % 32) = hit c := by decide +kernel

theorem hit_small2 : ∀ c < 256, (reK.getD (19 + (1 + c / 32)) 0).testBit (c % 32) = hit c := by decide +kernel

theorem hit_big {c : Nat} (h : ¬ c < 256) : hit c = false := by
  unfold hit
  simp only [Bool.or_eq_false_iff, beq_eq_false_iff_ne]
  omega
theorem set5 (c : Nat) (seen : Sre.Seen) : inSet reK c 32 5 true seen = .ok (hit c, if hit c then seen.add 9 else (seen.add 9).add 0) := by
  have e : inSet reK c 32 5 true seen = if (decide (c < 256) && (reK.getD (5 + (1 + c / 32)) 0).testBit (c % 32)) = true then .ok (true, seen.add 9) else .ok (false, (seen.add 9).add 0) := rfl
  rw [e]
  by_cases h : c < 256
  · rw [hit_small c h]; cases hit c <;> simp [h]
  · rw [hit_big h]; simp [h]
theorem set19 (c : Nat) (seen : Sre.Seen) : inSet reK c 32 19 true seen = .ok (hit c, if hit c then seen.add 9 else (seen.add 9).add 0) := by
  have e : inSet reK c 32 19 true seen = if (decide (c < 256) && (reK.getD (19 + (1 + c / 32)) 0).testBit (c % 32)) = true then .ok (true, seen.add 9) else .ok (false, (seen.add 9).add 0) := rfl
  rw [e]
  by_cases h : c < 256
  · rw [hit_small2 c h]; cases hit c <;> simp [h]
  · rw [hit_big h]; simp [h]
/-- where the next sign that is hit stands -/
noncomputable def nextHit (text : Array Nat) : (fuel s : Nat) → Option Nat
  | 0, _ => none
  | fuel + 1, s => if s < text.size then (if hit (text.getD s 0) then some s else nextHit text fuel (s + 1)) else none
theorem admitted_is (m : M) (hc : m.code = reK) (hl : m.lim = m.text.size) : ∀ (fuel s : Nat) (seen : Sre.Seen), ∃ seen', M.admitted m fuel s seen = .ok (nextHit m.text fuel s, seen')
  | 0, _, seen => ⟨seen, rfl⟩
  | fuel + 1, s, seen => by
    unfold M.admitted nextHit
    by_cases h : s < m.text.size
    · rw [if_neg (by omega), if_pos h, hc, show reK.size = 32 from rfl, set5]
      cases hh : hit (m.text.getD s 0) with
      | true => exact ⟨_, rfl⟩
      | false => exact admitted_is m hc hl fuel (s + 1) _
    · rw [if_pos (by omega), if_neg h]; exact ⟨_, rfl⟩
end Mine
end

section
open PySem PySem.W PyProof.Rows
set_option maxRecDepth 100000
set_option maxHeartbeats 8000000
namespace Mine
open PySem.Sre
noncomputable def m0 (text : Array Nat) (start : Nat) (must : Bool) : M :=
  { code := reK, text, lim := text.size, start := start, lastStart := text.size, pc := 15, pos := start, handed := start, marks := Array.replicate 2 none, mustAdvance := must, seen := ({} : Sre.Seen).add 14 }
noncomputable def m1 (text : Array Nat) (s : Nat) (seen : Sre.Seen) : M :=
  { code := reK, text, lim := text.size, start := s, lastStart := text.size, pc := 15, pos := s, handed := s, marks := Array.replicate 2 none, mustAdvance := false, seen, frames := [{ wait := .nextStart, pc := 15, pos := s, outermost := true }], weight := 1 }
noncomputable def m2 (text : Array Nat) (s : Nat) (seen : Sre.Seen) : M :=
  { code := reK, text, lim := text.size, start := s, lastStart := text.size, pc := 17, pos := s, handed := s, marks := #[some s, none], lastmark := 0, mustAdvance := false, seen, frames := [{ wait := .nextStart, pc := 15, pos := s, outermost := true }], weight := 1 }
noncomputable def m3 (text : Array Nat) (s : Nat) (seen : Sre.Seen) : M :=
  { code := reK, text, lim := text.size, start := s, lastStart := text.size, pc := 29, pos := s + 1, handed := s, marks := #[some s, none], lastmark := 0, mustAdvance := false, seen, frames := [{ wait := .nextStart, pc := 15, pos := s, outermost := true }], weight := 1 }
noncomputable def m4 (text : Array Nat) (s : Nat) (seen : Sre.Seen) : M :=
  { code := reK, text, lim := text.size, start := s, lastStart := text.size, pc := 31, pos := s + 1, handed := s, marks := #[some s, some (s + 1)], lastmark := 1, lastindex := 1, mustAdvance := false, seen, frames := [{ wait := .nextStart, pc := 15, pos := s, outermost := true }], weight := 1 }
noncomputable def m5 (text : Array Nat) (s : Nat) (seen : Sre.Seen) : M :=
  { code := reK, text, lim := text.size, start := s, lastStart := text.size, pc := 31, pos := s + 1, handed := s + 1, marks := #[some s, some (s + 1)], lastmark := 1, lastindex := 1, mustAdvance := false, seen, frames := [{ wait := .nextStart, pc := 15, pos := s, outermost := true }], weight := 1, answer := some true }
noncomputable def m6 (text : Array Nat) (s : Nat) (seen : Sre.Seen) : M :=
  { code := reK, text, lim := text.size, start := s, lastStart := text.size, pc := 15, pos := s, handed := s + 1, marks := #[some s, some (s + 1)], lastmark := 1, lastindex := 1, mustAdvance := false, seen, frames := [], weight := 0, answer := some true }
noncomputable def m7 (text : Array Nat) (s : Nat) (seen : Sre.Seen) : M := { m6 text s seen with outcome := some .matched }
theorem step1 (text : Array Nat) (s : Nat) (seen : Sre.Seen) : (m1 text s seen).step = m2 text s (seen.add 17) := rfl

theorem step2 {text : Array Nat} {s : Nat} {seen : Sre.Seen} (hs : s < text.size) (hh : hit (text.getD s 0) = true) : ∃ seen', (m2 text s seen).step = m3 text s seen' := by
  have e : (m2 text s seen).step = (if s ≥ text.size then ({ m2 text s seen with seen := seen.add 13 } : M).say false else
    match (inSet reK (text.getD s 0) 32 19 true (seen.add 13)) with
    | .error why => ({ m2 text s seen with seen := seen.add 13 } : M).stick why
    | .ok (false, sn) => ({ m2 text s seen with seen := sn } : M).say false
    | .ok (true, sn) => { m2 text s seen with seen := sn, pc := 29, pos := s + 1 }) := rfl
  rw [e, if_neg (by omega), set19, hh]
  exact ⟨_, rfl⟩
theorem step3 (text : Array Nat) (s : Nat) (seen : Sre.Seen) : (m3 text s seen).step = m4 text s (seen.add 17) := by kernel_rfl

theorem step4 (text : Array Nat) (s : Nat) (seen : Sre.Seen) : (m4 text s seen).step = m5 text s (seen.add 1) := rfl

theorem step5 (text : Array Nat) (s : Nat) (seen : Sre.Seen) : (m5 text s seen).step = m6 text s seen := rfl

theorem step6 (text : Array Nat) (s : Nat) (seen : Sre.Seen) : (m6 text s seen).step = m7 text s seen := rfl

theorem run1 {text : Array Nat} {s : Nat} {seen : Sre.Seen} (hs : s < text.size) (hh : hit (text.getD s 0) = true) : ∃ seen', (m1 text s seen).runFor 4 = m5 text s seen' := by
  obtain ⟨seen', e2⟩ := step2 (seen := seen.add 17) hs hh
  refine ⟨(seen'.add 17).add 1, ?_⟩
  show (((m1 text s seen).step).runFor 3) = _
  rw [step1]
  show (((m2 text s _).step).runFor 2) = _
  rw [e2]
  show (((m3 text s _).step).runFor 1) = _
  rw [step3]
  show (((m4 text s _).step).runFor 0) = _
  rw [step4]
  rfl
theorem run2 (text : Array Nat) (s : Nat) (seen : Sre.Seen) : (m5 text s seen).runFor 4 = m7 text s seen := rfl

theorem search_is (text : Array Nat) (start : Nat) (must : Bool) :
    forSearch reK text 1 start text.size must = if start < text.size then (m0 text start must).attemptFrom start true else ({ m0 text start must with lastStart := 0 } : M).say false := by
  have e : forSearch reK text 1 start text.size must = if (decide (start > text.size) || decide (text.size - start < 1)) = true then ({ m0 text start must with lastStart := 0 } : M).say false else (m0 text start must).attemptFrom start true := rfl
  rw [e]
  by_cases h : start < text.size
  · rw [if_pos h, if_neg (by simp; omega)]
  · rw [if_neg h, if_pos (by simp; omega)]
theorem from_is {text : Array Nat} {start : Nat} {must : Bool} : ∃ seen, (m0 text start must).attemptFrom start true = match nextHit text (text.size + 1 - start) start with
    | some s => m1 text s seen
    | none => ({ m0 text start must with seen := seen } : M).say false := by
  obtain ⟨seen, e⟩ := admitted_is (m0 text start must) rfl rfl (text.size + 1 - start) start (({} : Sre.Seen).add 14)
  refine ⟨seen, ?_⟩
  have e2 : (m0 text start must).attemptFrom start true = match M.admitted (m0 text start must) (text.size + 1 - start) start (({} : Sre.Seen).add 14) with
      | .ok (some s, sn) => ({ m0 text start must with mustAdvance := false, seen := sn } : M).attemptAt s true
      | .ok (none, sn) => ({ m0 text start must with seen := sn } : M).say false
      | .error why => (m0 text start must).stick why := rfl
  rw [e2, e]
  show (match (Except.ok (nextHit text (text.size + 1 - start) start, seen) : Except String (Option Nat × Sre.Seen)) with
      | .ok (some s, sn) => ({ m0 text start must with mustAdvance := false, seen := sn } : M).attemptAt s true
      | .ok (none, sn) => ({ m0 text start must with seen := sn } : M).say false
      | .error why => (m0 text start must).stick why) = _
  cases nextHit text (text.size + 1 - start) start <;> rfl
theorem nextHit_succ (text : Array Nat) (fuel s : Nat) : nextHit text (fuel + 1) s = if s < text.size then (if hit (text.getD s 0) = true then some s else nextHit text fuel (s + 1)) else none := rfl

theorem nextHit_spec {text : Array Nat} : ∀ {fuel s i : Nat}, nextHit text fuel s = some i → s ≤ i ∧ i < text.size ∧ hit (text.getD i 0) = true ∧ ∀ j, s ≤ j → j < i → hit (text.getD j 0) = false
  | fuel + 1, s, i, h => by
    rw [nextHit_succ] at h
    by_cases h1 : s < text.size
    · rw [if_pos h1] at h
      cases hh : hit (text.getD s 0) with
      | true =>
        rw [hh, if_pos rfl] at h
        cases h
        exact ⟨Nat.le_refl _, h1, hh, fun j a b => by omega⟩
      | false =>
        rw [hh, if_neg (by decide)] at h
        obtain ⟨a, b, c, d⟩ := nextHit_spec h
        refine ⟨by omega, b, c, fun j x y => ?_⟩
        by_cases hj : j = s
        · rw [hj]; exact hh
        · exact d j (by omega) y
    · rw [if_neg h1] at h; cases h
theorem nextHit_none {text : Array Nat} : ∀ {fuel s : Nat}, nextHit text fuel s = none → text.size + 1 ≤ s + fuel → ∀ j, s ≤ j → j < text.size → hit (text.getD j 0) = false
  | 0, s, _, hf, j, a, b => by omega
  | fuel + 1, s, h, hf, j, a, b => by
    rw [nextHit_succ, if_pos (by omega)] at h
    cases hh : hit (text.getD s 0) with
    | true => rw [hh, if_pos rfl] at h; cases h
    | false =>
      rw [hh, if_neg (by decide)] at h
      by_cases hj : j = s
      · rw [hj]; exact hh
      · exact nextHit_none h (by omega) j (by omega) b
end Mine
end

section
open PySem PySem.W PyProof.Rows
set_option maxRecDepth 100000
set_option maxHeartbeats 8000000
namespace Mine
open PySem.Sre PySem.Builtin PySem.Builtin.Re
section
variable {M' : Model} {A : Around} {E : Value → Shared → Prop} {s : Shared}
theorem wp_drive_ready (n : Nat) (m : M) {Q : M → Shared → Prop} (h : (m.runFor 4).outcome.isSome = true) (hq : Q (m.runFor 4) s) : wpAny M' A (reDrive (n + 1) m) Q E s := by
  have e : reDrive (n + 1) m = if (m.runFor 4).outcome.isSome then pure (m.runFor 4) else (do rule "sre.turn"; reDrive n (m.runFor 4)) := rfl
  rw [e, if_pos h]
  exact wpAny_pure hq
theorem wp_drive_on (n : Nat) (m : M) {Q : M → Shared → Prop} (h : (m.runFor 4).outcome.isSome = false) (hq : wpAny M' A (reDrive n (m.runFor 4)) Q E s) : wpAny M' A (reDrive (n + 1) m) Q E s := by
  have e : reDrive (n + 1) m = if (m.runFor 4).outcome.isSome then pure (m.runFor 4) else (do rule "sre.turn"; reDrive n (m.runFor 4)) := rfl
  rw [e, if_neg (by rw [h]; decide)]
  exact wpAny_bind (wpAny_rule hq)
theorem wp_rules (m : M) (l : List Nat) {Q : PUnit → Shared → Prop} (hq : Q ⟨⟩ s) :
    wpAny M' A (forIn l (⟨⟩ : PUnit) (fun i _ => if m.seen.has i = true then (do rule (Sre.names.getD i ""); pure (ForInStep.yield ⟨⟩)) else pure (ForInStep.yield ⟨⟩))) Q E s := by
  refine wpAny_forIn_list _ (fun _ _ s' => s' = s) Q ?_ ?_ l ⟨⟩ rfl
  · rintro x rest b s' rfl
    split
    · exact wpAny_bind (wpAny_rule (wpAny_pure rfl))
    · exact wpAny_pure rfl
  · rintro b s' rfl; exact hq
theorem wp_next (t : ReTarget) (hc : t.code = reK) (hg : t.groups = 1) (hl : t.lim = t.text.size) (start : Nat) (must : Bool) {Q : Option M → Shared → Prop}
    (hnone : (∀ j, start ≤ j → j < t.text.size → hit (t.text.getD j 0) = false) → Q none s)
    (hsome : ∀ i seen, start ≤ i → i < t.text.size → hit (t.text.getD i 0) = true → (∀ j, start ≤ j → j < i → hit (t.text.getD j 0) = false) → Q (some (m7 t.text i seen)) s) :
    wpAny M' A (reNextFound t start must) Q E s := by
  unfold reNextFound reRunToEnd
  rw [hc, hg, hl]
  rw [search_is]
  by_cases h : start < t.text.size
  · rw [if_pos h]
    obtain ⟨seen, e⟩ := from_is (text := t.text) (start := start) (must := must)
    rw [e]
    cases hn : nextHit t.text (t.text.size + 1 - start) start with
    | some i =>
      obtain ⟨h1, h2, h3, h4⟩ := nextHit_spec hn
      obtain ⟨seen', e1⟩ := run1 (seen := seen) h2 h3
      refine wpAny_bind (wp_drive_on 18446744073709551615 _ (by show ((m1 t.text i seen).runFor 4).outcome.isSome = false; rw [e1]; rfl) ?_)
      show wpAny M' A (reDrive (18446744073709551614 + 1) ((m1 t.text i seen).runFor 4)) _ _ _
      rw [e1]
      refine wp_drive_ready _ _ (by rw [run2]; rfl) ?_
      rw [run2]
      refine wpAny_bind (wp_rules _ _ ?_)
      exact wpAny_pure (hsome i seen' h1 h2 h3 h4)
    | none =>
      have h4 := nextHit_none hn (by omega)
      refine wpAny_bind (wp_drive_ready 18446744073709551615 _ rfl ?_)
      refine wpAny_bind (wp_rules _ _ ?_)
      exact wpAny_pure (hnone h4)
  · rw [if_neg h]
    refine wpAny_bind (wp_drive_ready 18446744073709551615 _ rfl ?_)
    refine wpAny_bind (wp_rules _ _ ?_)
    exact wpAny_pure (hnone fun j a b => by omega)
end
end Mine
end

section
open PySem PySem.W PyProof.Rows
set_option maxRecDepth 100000
set_option maxHeartbeats 8000000
namespace Mine
open PySem.Sre PySem.Builtin PySem.Builtin.Re
section
variable {M' : Model} {A : Around} {E : Value → Shared → Prop} {s : Shared}
theorem wp_target {txt : Str} {tt : Tok} {o5 o4 : Obj} {vs : Array Value} {its : Array Value} {n : Nat} {Q : ReTarget → Shared → Prop} (h85 : s.heap.get? 85 = some o5) (d85 : o5.data = .fields vs) (h84 : s.heap.get? 84 = some o4) (d84 : o4.data = .seq its n)
    (v5 : vs.getD 5 .none = .ref 84) (v6 : reRawNat (vs.getD 6 .none) = 0) (v2 : reRawNat (vs.getD 2 .none) = 1) (hk : (its.map reRawOf).map (·.toNat) = reK)
    (h : Q { pattern := .ref 85, string := .str txt tt, code := reK, text := txt.cps, kind := 0, groups := 1, pos := 0, lim := txt.cps.size } s) : wpAny M' A (reWholeTarget (.ref 85) (.str txt tt)) Q E s := by
  have e : reTextOf (.str txt tt) = pure (txt.cps, 0) := rfl
  unfold reWholeTarget
  refine wpAny_bind (wpAny_fieldsOf h85 d85 ?_)
  rw [e]
  refine wpAny_bind (wpAny_pure ?_)
  (try dsimp only)
  rw [v6, v5, v2]
  refine wpAny_bind (wpAny_pure ?_)
  unfold reRawItems
  refine wpAny_bind (wpAny_bind (wpAny_seqItems h84 d84 (wpAny_pure ?_)))
  refine wpAny_pure ?_
  have e2 : ((((some its : Option (Array Value)).getD #[]).map reRawOf).map (·.toNat)) = reK := hk
  first | exact h | (rw [e2]; exact h) | skip
end
end Mine
end

section
open PySem PySem.W PyProof.Rows
set_option maxRecDepth 100000
set_option maxHeartbeats 8000000
namespace Mine
open PySem.Builtin
theorem slot_sub : Slot "re.Pattern" "sub" "re.Pattern.sub" :=
  .of (owner := "re.Pattern") (n := "sub") (by rw [typeLookup_type, builtinLookup_eq_fast]; kernel_rfl) (by decide +kernel) (by decide +kernel) (by decide +kernel)
    (by first | exact .inl (by decide +kernel) | exact .inr (by decide +kernel)) (by rw [isSubtype_type]; kernel_rfl)
theorem slot_group : Slot "re.Match" "group" "re.Match.group" :=
  .of (owner := "re.Match") (n := "group") (by rw [typeLookup_type, builtinLookup_eq_fast]; kernel_rfl) (by decide +kernel) (by decide +kernel) (by decide +kernel)
    (by first | exact .inl (by decide +kernel) | exact .inr (by decide +kernel)) (by rw [isSubtype_type]; kernel_rfl)
theorem type_sub : typeOf (.builtin "re.Pattern.sub") = pure (.type "method_descriptor") := by show builtinType _ = _; rw [builtinType_eq_fast]; kernel_rfl

theorem type_group : typeOf (.builtin "re.Match.group") = pure (.type "method_descriptor") := by show builtinType _ = _; rw [builtinType_eq_fast]; kernel_rfl

theorem entry_sub : entryFor table "re.Pattern.sub" = some Builtin.«re.Pattern.sub» := entryFor_of_tree (by kernel_rfl)

theorem entry_subloop : entryFor table "re.Pattern.sub.loop" = some Builtin.«re.Pattern.sub.loop» := entryFor_of_tree (by kernel_rfl)

theorem entry_group : entryFor table "re.Match.group" = some Builtin.«re.Match.group» := entryFor_of_tree (by kernel_rfl)

theorem plain_subloop : plainId "re.Pattern.sub.loop" = true := by decide +kernel

theorem owner_pat : Manifest.owners.lookup (String.ofList ['n', 'r', 'e', 't', 't', 'a', 'P', '.', 'e', 'r'].reverse) = some Manifest.sig_re_Pattern := by kernel_rfl

theorem owner_mat : Manifest.owners.lookup (String.ofList ['h', 'c', 't', 'a', 'M', '.', 'e', 'r'].reverse) = some Manifest.sig_re_Match := by kernel_rfl

theorem args_sub (a b c : Value) : argsOk "re.Pattern.sub" ⟨[a, b, c], []⟩ := by
  unfold argsOk; rw [signature?_of (id := "re.Pattern.sub") (n := ['b', 'u', 's']) (o := ['n', 'r', 'e', 't', 't', 'a', 'P', '.', 'e', 'r']) (by kernel_rfl) owner_pat]; kernel_rfl
theorem args_group (a b : Value) : argsOk "re.Match.group" ⟨[a, b], []⟩ := by
  unfold argsOk; rw [signature?_of (id := "re.Match.group") (n := ['p', 'u', 'o', 'r', 'g']) (o := ['h', 'c', 't', 'a', 'M', '.', 'e', 'r']) (by kernel_rfl) owner_mat]; kernel_rfl
theorem plainAttrs_pat : PlainAttrs "re.Pattern" := ⟨⟨"object.__getattribute__", by rw [typeLookup_type, builtinLookup_eq_fast]; kernel_rfl, by decide +kernel⟩, by rw [typeLookup_type, builtinLookup_eq_fast]; kernel_rfl⟩

theorem plainAttrs_mat : PlainAttrs "re.Match" := ⟨⟨"object.__getattribute__", by rw [typeLookup_type, builtinLookup_eq_fast]; kernel_rfl, by decide +kernel⟩, by rw [typeLookup_type, builtinLookup_eq_fast]; kernel_rfl⟩

end Mine
end

section
open PySem PySem.W PyProof.Rows
set_option maxRecDepth 100000
set_option maxHeartbeats 8000000
namespace Mine
open PySem.Sre PySem.Builtin PySem.Builtin.Re
noncomputable def esc (l : List Nat) : List Nat := l.flatMap fun c => if hit c then [92, c] else [c]
noncomputable def flat (xs : List Str) : List Nat := (xs.map (·.cps.toList)).flatten
noncomputable def matchO (txt : Str) (tt : Tok) (b : Addr) : Obj := { cls := .type "re.Match", data := .fields #[.str txt tt, .ref 85, rawInt 0, rawInt txt.cps.size, rawInt 1, .ref b] }
noncomputable def patO : Obj := { cls := .type "re.Pattern", data := .fields #[.str ⟨#[40, 91, 38, 126, 124, 93, 41]⟩ 379, .int 32 414, .int 1 0, .none, .none, .ref 84, .int 0 0] }
noncomputable def codeO : Obj := { cls := .type "tuple", data := .seq (reK.map fun n => Value.int (n : Nat) 0) }
noncomputable def matchT (i : Nat) : Obj := { cls := .type "tuple", data := .seq #[rawInt i, rawInt (i + 1), rawInt i, rawInt (i + 1)] }
section
variable {M' : Model} {A : Around} {E : Value → Shared → Prop} {s : Shared}
theorem wp_newMatch {txt : Str} {tt : Tok} {text : Array Nat} {i : Nat} {seen : Sre.Seen} {Q : Value → Shared → Prop}
    (h : Q (.ref (s.heap.push (matchT i)).objs.size) { s with heap := (s.heap.push (matchT i)).push (matchO txt tt s.heap.objs.size) }) : wpAny M' A (reNewMatch (.ref 85) (.str txt tt) 1 0 txt.cps.size (m7 text i seen)) Q E s := by
  have e : reNewMatch (.ref 85) (.str txt tt) 1 0 txt.cps.size (m7 text i seen) =
      (do if ((List.range 1).any (fun _ => (decide ((1 : Int) ≤ 1) && decide (i + 1 < i)))) then reWrongSpan
          newFields "re.Match" [.str txt tt, .ref 85, rawInt 0, rawInt txt.cps.size, rawInt 1, ← newTuple [rawInt i, rawInt (i + 1 : Nat), rawInt i, rawInt (i + 1 : Nat)]]) := rfl
  rw [e, if_neg (by simp)]
  refine wpAny_bind (wpAny_newTuple ?_)
  exact wpAny_newObj_type h
end
theorem flat_app (xs ys : List Str) : flat (xs ++ ys) = flat xs ++ flat ys := by simp [flat]

theorem getD_list {a : Array Nat} {i : Nat} (h : i < a.size) : a.getD i 0 = a.toList[i]'(by simpa using h) := by simp [Array.getD_eq_getD_getElem?, h]

theorem str_eta {a : Str} {l : List Nat} (h : a.cps.toList = l) : a = ⟨l.toArray⟩ := by subst h; cases a; simp

theorem join_cps {x : Str} (hx : x.cps = #[]) : ∀ (xs : List Str), (PySem.Str.join x xs).cps.toList = flat xs
  | [] => rfl
  | [y] => by simp [PySem.Str.join, flat]
  | y :: z :: r => by
    have e : PySem.Str.join x (y :: z :: r) = y ++ x ++ PySem.Str.join x (z :: r) := rfl
    have e2 : (y ++ x ++ PySem.Str.join x (z :: r)).cps = y.cps ++ x.cps ++ (PySem.Str.join x (z :: r)).cps := rfl
    rw [e, e2, hx]
    simp only [Array.append_empty, Array.toList_append]
    rw [join_cps hx (z :: r)]
    rfl
theorem join_flat {x : Str} (xs : List Str) (hx : x.cps = #[]) : Txt.join x xs = ⟨(flat xs).toArray⟩ := by
  have e : Txt.join x xs = PySem.Str.join x xs := StrLaws.glued_eq_join x xs
  rw [e]; exact str_eta (join_cps hx xs)
theorem flat_len : ∀ xs : List Str, (xs.map (·.length)).sum = (flat xs).length
  | [] => rfl
  | x :: xs => by
    have := flat_len xs
    simp only [List.map_cons, List.sum_cons, this, flat, List.flatten_cons, List.length_append]
    simp [PySem.Str.length]
theorem esc_app (a b : List Nat) : esc (a ++ b) = esc a ++ esc b := by simp [esc]

theorem esc_len : ∀ l : List Nat, (esc l).length ≤ 2 * l.length
  | [] => Nat.le_refl _
  | c :: l => by
    have := esc_len l
    have e : esc (c :: l) = (if hit c then [92, c] else [c]) ++ esc l := by simp [esc]
    rw [e, List.length_append, List.length_cons]
    split <;> simp <;> omega
theorem esc_none : ∀ {l : List Nat}, (∀ c ∈ l, hit c = false) → esc l = l
  | [], _ => rfl
  | c :: l, h => by
    have e : esc (c :: l) = (if hit c then [92, c] else [c]) ++ esc l := by simp [esc]
    rw [e, esc_none fun x hx => h x (.tail _ hx), h c (.head _)]; rfl
theorem flat_one (a : Str) : flat [a] = a.cps.toList := by simp [flat]

theorem ext_list (a : Array Nat) (i j : Nat) : (a.extract i j).toList = a.toList.extract i j := Array.toList_extract

theorem ext_len (a : Array Nat) (i j : Nat) (h : a.size ≤ 1000) : (⟨a.extract i j⟩ : Str).length ≤ sizeLine := by
  have : (a.extract i j).size ≤ a.size := by rw [Array.size_extract]; omega
  show (a.extract i j).size ≤ sizeLine
  unfold sizeLine; omega
theorem esc_take_step {l : List Nat} {start i : Nat} (h1 : start ≤ i) (h2 : i < l.length) (hh : hit l[i] = true) (hno : ∀ j (hj : j < l.length), start ≤ j → j < i → hit l[j] = false) :
    esc (l.take (i + 1)) = esc (l.take start) ++ (l.extract start i) ++ [92, l[i]] := by
  have e1 : l.take (i + 1) = l.take start ++ l.extract start i ++ [l[i]] := by
    rw [List.take_succ_eq_append_getElem h2]
    congr 1
    have : i = start + (i - start) := by omega
    rw [this, List.take_add, List.extract_eq_take_drop]
    congr 2
    omega
  rw [e1, esc_app, esc_app]
  congr 1
  · congr 1
    refine esc_none fun c hc => ?_
    rw [List.extract_eq_take_drop] at hc
    obtain ⟨j, hj, rfl⟩ := List.mem_iff_getElem.mp hc
    rw [List.getElem_take, List.getElem_drop]
    rw [List.length_take] at hj
    exact hno _ _ (by omega) (by omega)
  · simp [esc, hh]
theorem esc_take_end {l : List Nat} {start : Nat} (hno : ∀ j (hj : j < l.length), start ≤ j → hit l[j] = false) : esc l = esc (l.take start) ++ l.drop start := by
  conv => lhs; rw [← List.take_append_drop start l]
  rw [esc_app]
  congr 1
  refine esc_none fun c hc => ?_
  obtain ⟨j, hj, rfl⟩ := List.mem_iff_getElem.mp hc
  rw [List.getElem_drop]
  exact hno _ _ (by omega)
section
variable {M' : Model} {A : Around} {E : Value → Shared → Prop} {h₀ : Heap} {s : Shared} {L P : Addr} {m : Str → Option Value} {vs : List Value} {c : Nat} {rest : List (Addr × Obj)} {v : Value}
theorem wp_push {Q : Unit → Shared → Prop} (F : Fr h₀ L s.heap m) (N : News h₀ L s.heap ((P, listOf vs.toArray c) :: rest)) (hr : ∀ q ∈ rest, q.1 ≠ P) (hz : vs.length ≤ 10000)
    (h : ∀ h', Fr h₀ L h' m → News h₀ L h' ((P, listOf (vs ++ [v]).toArray (c + 1)) :: rest) → Q () { s with heap := h' }) : wpAny M' A (updateSeq P (fun x => x.push v)) Q E s := by
  have z := N _ (.head _)
  have hz1 : vs.toArray.size ≤ sizeLine := by simp only [List.size_toArray]; unfold sizeLine; omega
  refine wpAny_updateSeq z.1 rfl (h _ (F.change (Heap.SameBut.update ..) z.2.1 z.2.2) ?_) hz1 (by simp only [Array.size_push]; omega)
  exact kl_turn (pre := []) (fun x => x.push v) N (fun _ h => nomatch h) hr (by simp) (by simp)
end
section
variable {w : World} {dp un : Nat} {gd : Option (List Code)} {cn : Str} {cs : Scope} {ac : Addr} {ccd : Value} {cl : List (Str × Addr)} {outer : List Env} {A₀ : Around} {base h₀ : Heap} {L f P : Addr} {m : Str → Option Value} {p : Program} {loose : List Str} {mean : ExcName → Option Value} {mg mb : Str → Option Value} {Q E : Value → Shared → Prop}
  {txt : Str} {tt : Tok} {rest : List (Addr × Obj)} {need : Nat}
theorem sub_loop (B : Below A₀ base outer h₀) (X : (mk.heap_1 w.params).In h₀) (T : Top p loose mean mg mb h₀) (hk : cs.kind = .function) (hd : dp + need < recursionLimit) (hu : un + 8 * need + 1 < cLine) (hz : txt.cps.size ≤ 1000)
    (hP : ∀ q ∈ rest, q.1 ≠ P)
    (hlam : ∀ i, i < txt.cps.size → hit (txt.cps.getD i 0) = true → ∀ a b vs c, Spec w f [.ref a] need ((a, matchO txt tt b) :: (b, matchT i) :: (P, listOf vs c) :: rest) (fun r nw => (∃ t, r = .str ⟨#[92, txt.cps.getD i 0]⟩ t) ∧ nw = (a, matchO txt tt b) :: (b, matchT i) :: (P, listOf vs c) :: rest)) :
    ∀ (k start : Nat), txt.cps.size - start = k → start ≤ txt.cps.size → ∀ (n : Int) (vs : List Value) (c : Nat) (xs : List Str) (s : Shared), Fr h₀ L s.heap m → News h₀ L s.heap ((P, listOf vs.toArray c) :: rest) → StrsAre vs xs → flat xs = esc (txt.cps.toList.take start) → vs.length ≤ 2 * start →
      (∀ t h' tk', Fr h₀ L h' m → News h₀ L h' rest → Q (.str ⟨(esc txt.cps.toList).toArray⟩ t) { s with heap := h', toks := tk' }) →
      wpAny (model PySem.Challenge.rw_in0279_01.row.toRowW.prog w) (ktrTop dp un gd cn cs L ac ccd cl outer).in1 («re.Pattern.sub.loop» ⟨[.ref 85, .str txt tt, .ref f, rawInt 1, rawInt 0, rawInt n, rawInt start, rawInt start, .bool false, .ref P, .bool false], []⟩)
        (fun fin s' => match fin with | .done f => wants Q E (.ok f) s' | .again c' => c'.quiet = true ∧ codeAny (model PySem.Challenge.rw_in0279_01.row.toRowW.prog w) (ktrTop dp un gd cn cs L ac ccd cl outer) c' (wants Q E) s') (fun e s' => wants Q E (.error e) s') s := by
  intro k
  induction k using Nat.strongRecOn with
  | ind k ih =>
  intro start hks hst n vs c xs s F N hx hfl hvl hQ
  have e5 := (X.keeps F.keep) 85 patO (by kernel_rfl)
  have e4 := (X.keeps F.keep) 84 codeO (by kernel_rfl)
  unfold «re.Pattern.sub.loop»
  refine wpAny_bind (wp_target e5 rfl e4 rfl rfl rfl rfl (by kernel_rfl) ?_)
  (try dsimp only)
  refine wpAny_bind (wp_next _ rfl rfl rfl _ _ ?_ ?_)
  · intro hno
    (try dsimp only)
    replace hno : ∀ j, start ≤ j → j < txt.cps.size → hit (txt.cps.getD j 0) = false := hno
    have hnoL : ∀ j (hj : j < txt.cps.toList.length), start ≤ j → hit txt.cps.toList[j] = false := fun j hj a => by have := hno j a (by simpa using hj); rw [getD_list (by simpa using hj)] at this; exact this
    have fin : ∀ (vs : List Value) (c : Nat) (xs : List Str) (s₂ : Shared) (hp : Heap) (tk : Nat), s₂ = { s with heap := hp, toks := tk } → Fr h₀ L s₂.heap m → News h₀ L s₂.heap ((P, listOf vs.toArray c) :: rest) → StrsAre vs xs → flat xs = esc txt.cps.toList →
        wpAny (model PySem.Challenge.rw_in0279_01.row.toRowW.prog w) (ktrTop dp un gd cn cs L ac ccd cl outer).in1 (do
          let joiner ← reSlice txt.cps 0 0 0
          let text ← if ((← seqItems? (Value.ref P)).getD #[]).isEmpty then pure joiner
            else call (.builtin "str.join") [joiner, .ref P]
          ret text) (fun fin s' => match fin with | .done f => wants Q E (.ok f) s' | .again c' => c'.quiet = true ∧ codeAny (model PySem.Challenge.rw_in0279_01.row.toRowW.prog w) (ktrTop dp un gd cn cs L ac ccd cl outer) c' (wants Q E) s') (fun e s' => wants Q E (.error e) s') s₂ := by
      intro vs c xs s₂ hp tk hs₂ F N hx hfl
      subst hs₂
      refine wpAny_bind (wpAny_mkStr ?_ (by simp [PySem.Str.length, sizeLine]))
      refine wpAny_bind (wpAny_seqItems (N _ (.head _)).1 rfl ?_)
      have N0 : News h₀ L hp rest := cb_drop N fun q hq => .tail _ hq
      cases hx with
      | nil =>
        refine wpAny_bind (wpAny_pure (wpAny_pure ?_))
        have e0 : esc txt.cps.toList = [] := hfl.symm
        have e1 : (⟨txt.cps.extract 0 0⟩ : Str) = ⟨(esc txt.cps.toList).toArray⟩ := by rw [e0]; simp
        show Q (.str ⟨txt.cps.extract 0 0⟩ _) _
        rw [e1]
        exact hQ _ _ _ F N0
      | @cons y t vs' ys hx' =>
        refine wpAny_bind (join_list (News.isList N (.head _)) (.cons y t hx') ?_ fun t' k => ?_)
        · rw [flat_len, hfl]; have := esc_len txt.cps.toList; have e0 : (⟨txt.cps.extract 0 0⟩ : Str).length = 0 := by simp [PySem.Str.length]
          rw [e0, Nat.mul_zero]; simp only [Array.length_toList] at this; omega
        · refine wpAny_pure ?_
          have e1 : Txt.join (⟨txt.cps.extract 0 0⟩ : Str) (y :: ys) = ⟨(esc txt.cps.toList).toArray⟩ := by rw [← hfl]; exact join_flat _ (by simp)
          show Q (.str (Txt.join ⟨txt.cps.extract 0 0⟩ (y :: ys)) t') _
          rw [e1]
          exact hQ _ _ _ F N0
    by_cases hlt : (start : Int).toNat < txt.cps.size
    · rw [if_pos hlt]
      refine wpAny_bind (wpAny_mkStr ?_ ?_)
      · refine wpAny_bind (wp_push F N hP (by omega) fun h' F' N' => ?_)
        refine fin _ _ (xs ++ [⟨txt.cps.extract start txt.cps.size⟩]) _ _ _ rfl F' N' (strs_app hx (.cons _ _ .nil)) ?_
        have e1 : List.take (txt.cps.size - start) (List.drop start txt.cps.toList) = List.drop start txt.cps.toList := List.take_of_length_le (by simp)
        rw [flat_app, hfl, flat_one, ext_list, esc_take_end (start := start) hnoL, List.extract_eq_take_drop]
        exact congrArg _ e1
      · exact ext_len _ _ _ hz
    · rw [if_neg hlt]
      refine fin _ _ xs _ _ _ rfl F N hx ?_
      have e : start = txt.cps.size := by have : ¬ start < txt.cps.size := hlt; omega
      rw [hfl, e, List.take_of_length_le (by simp)]
  · intro i seen h1 h2 h3 h4
    (try dsimp only)
    replace h1 : start ≤ i := h1
    replace h2 : i < txt.cps.size := h2
    replace h3 : hit (txt.cps.getD i 0) = true := h3
    replace h4 : ∀ j, start ≤ j → j < i → hit (txt.cps.getD j 0) = false := h4
    have tail : ∀ (vs : List Value) (c : Nat) (xs : List Str) (s₂ : Shared) (hp : Heap) (tk : Nat), s₂ = { s with heap := hp, toks := tk } → Fr h₀ L s₂.heap m → News h₀ L s₂.heap ((P, listOf vs.toArray c) :: rest) → StrsAre vs xs → flat xs = esc (txt.cps.toList.take start) ++ txt.cps.toList.extract start i → vs.length ≤ 2 * start + 1 →
        wpAny (model PySem.Challenge.rw_in0279_01.row.toRowW.prog w) (ktrTop dp un gd cn cs L ac ccd cl outer).in1 (do
          let found ← reNewMatch (Value.ref 85) (Value.str txt tt) 1 0 txt.cps.size (m7 txt.cps i seen)
          let item ← holding [found] (call (Value.ref f) [found])
          if item != Value.none then updateSeq P (fun x => x.push item)
          again (Code.builtin "re.Pattern.sub.loop" ⟨[Value.ref 85, Value.str txt tt, Value.ref f, rawInt 1, rawInt 0, rawInt (n + 1), rawInt ((i + 1 : Nat) : Int), rawInt ((i + 1 : Nat) : Int), Value.bool (i + 1 == i), Value.ref P, Value.bool false], []⟩))
          (fun fin s' => match fin with | .done f => wants Q E (.ok f) s' | .again c' => c'.quiet = true ∧ codeAny (model PySem.Challenge.rw_in0279_01.row.toRowW.prog w) (ktrTop dp un gd cn cs L ac ccd cl outer) c' (wants Q E) s') (fun e s' => wants Q E (.error e) s') s₂ := by
      intro vs c xs s₂ hp tk hs₂ F N hx hfl hvl
      subst hs₂
      refine wpAny_bind (wp_newMatch ?_)
      have F1 := (F.push (matchT i)).push (matchO txt tt hp.objs.size)
      have N1 := News.push (F.push (matchT i)) (News.push F N (matchT i)) (matchO txt tt hp.objs.size)
      refine wpAny_bind (wpAny_holding ?_)
      refine Spec.use (dp := dp) (un := un + 1) (hlam i h2 h3 _ _ _ _) B F1 X N1 T hk hd (by omega) ?_
      rintro r nw h' tk' F' N' ⟨⟨t, rfl⟩, rfl⟩
      (try dsimp only)
      rw [if_pos (show (Value.str _ _ != Value.none) = true from rfl)]
      have N2 : News h₀ L h' ((P, listOf vs.toArray c) :: rest) := cb_drop N' fun q hq => .tail _ (.tail _ hq)
      refine wpAny_bind (wp_push F' N2 hP (by omega) fun h'' F'' N'' => ?_)
      refine wpAny_pure ⟨plainId_quiet plain_subloop _, codeAny_builtin entry_subloop ?_⟩
      rw [Around.under_plainId plain_subloop _, show (i + 1 == i) = false from by simp]
      refine ih (txt.cps.size - (i + 1)) (by omega) (i + 1) rfl (by omega) (n + 1) _ _ (xs ++ [⟨#[92, txt.cps.getD i 0]⟩]) _ F'' N'' (strs_app hx (.cons _ _ .nil)) ?_ (by rw [List.length_append]; show vs.length + 1 ≤ _; omega) (fun t h' tk' F' N' => hQ t h' tk' F' N')
      rw [flat_app, hfl, esc_take_step h1 (by simpa using h2) (by rw [getD_list h2] at h3; exact h3) (fun j hj a b => by have := h4 j a b; rw [getD_list (by simpa using hj)] at this; exact this), getD_list h2]
      simp [flat]
    by_cases hlt : (start : Int).toNat < i
    · rw [if_pos (show (start : Int).toNat < (m7 txt.cps i seen).start from hlt)]
      refine wpAny_bind (wpAny_mkStr ?_ ?_)
      · refine wpAny_bind (wp_push F N hP (by omega) fun h' F' N' => ?_)
        refine tail _ _ (xs ++ [⟨txt.cps.extract start i⟩]) _ _ _ rfl F' N' (strs_app hx (.cons _ _ .nil)) ?_ ?_
        · rw [flat_app, hfl, flat_one, ext_list]
        · rw [List.length_append]; show vs.length + 1 ≤ _; omega
      · exact ext_len _ _ _ hz
    · rw [if_neg (show ¬ (start : Int).toNat < (m7 txt.cps i seen).start from hlt)]
      refine tail _ _ xs _ _ _ rfl F N hx ?_ ?_
      · have e : start = i := by have : ¬ start < i := hlt; omega
        rw [hfl, e, List.extract_eq_take_drop]; simp
      · omega
end
end Mine
end

section
open PySem PySem.W PyProof.Rows
set_option maxRecDepth 100000
set_option maxHeartbeats 8000000
namespace Mine
open PySem.Sre PySem.Builtin PySem.Builtin.Re
theorem named_is (a b : Value) : reNamed "re.Pattern.sub" "sub" ["repl", "string", "count"] 2 [a, b] [] = pure [some a, some b, none] := by kernel_rfl

theorem fun_call : typeLookup (.type "function") "__call__" = pure (some (.builtin "function.__call__")) := by rw [typeLookup_type, builtinLookup_eq_fast]; kernel_rfl

section
variable {w : World} {dp un : Nat} {gd : Option (List Code)} {cn : Str} {cs : Scope} {ac : Addr} {ccd : Value} {cl : List (Str × Addr)} {outer : List Env} {A₀ : Around} {base h₀ : Heap} {L f : Addr} {m : Str → Option Value} {p : Program} {loose : List Str} {mean : ExcName → Option Value} {mg mb : Str → Option Value} {Q E : Value → Shared → Prop}
  {txt : Str} {tt : Tok} {rest : List (Addr × Obj)} {need : Nat} {s : Shared} {fo : Obj}
theorem sub_call (B : Below A₀ base outer h₀) (F : Fr h₀ L s.heap m) (X : (mk.heap_1 w.params).In h₀) (N : News h₀ L s.heap rest) (T : Top p loose mean mg mb h₀) (hk : cs.kind = .function) (hd : dp + need < recursionLimit) (hu : un + 8 * need + 1 < cLine) (hz : txt.cps.size ≤ 1000)
    (hf : (f, fo) ∈ rest) (hfc : fo.cls = .type "function")
    (hlam : ∀ P, (∀ q ∈ rest, q.1 ≠ P) → ∀ i, i < txt.cps.size → hit (txt.cps.getD i 0) = true → ∀ a b vs c, Spec w f [.ref a] need ((a, matchO txt tt b) :: (b, matchT i) :: (P, listOf vs c) :: rest) (fun r nw => (∃ t, r = .str ⟨#[92, txt.cps.getD i 0]⟩ t) ∧ nw = (a, matchO txt tt b) :: (b, matchT i) :: (P, listOf vs c) :: rest))
    (hQ : ∀ t h' tk', Fr h₀ L h' m → News h₀ L h' rest → Q (.str ⟨(esc txt.cps.toList).toArray⟩ t) { s with heap := h', toks := tk' }) :
    wpAny (model PySem.Challenge.rw_in0279_01.row.toRowW.prog w) (ktrTop dp un gd cn cs L ac ccd cl outer) (call (.builtin "re.Pattern.sub") [.ref 85, .ref f, .str txt tt]) Q E s := by
  have e5 := (X.keeps F.keep) 85 patO (by kernel_rfl)
  have e4 := (X.keeps F.keep) 84 codeO (by kernel_rfl)
  refine wpAny_call (codeAny_call_builtin slot_sub.plain entry_sub (slot_sub.check _ _ _ _ _ _ _ _ ⟨patO, e5, rfl⟩ (args_sub _ _ _) ?_))
  unfold «re.Pattern.sub» reSubstitute
  (try dsimp only)
  rw [named_is]
  refine wpAny_bind (wpAny_pure ?_)
  (try dsimp only)
  refine wpAny_bind (wpAny_pure ?_)
  refine wpAny_bind (wpAny_specialOf (T := "function") ⟨fo, (N _ hf).1, hfc⟩ fun_call ?_)
  rw [if_pos (show (some (Value.builtin "function.__call__")).isSome = true from rfl)]
  refine wpAny_bind (wpAny_pure ?_)
  rw [if_pos (show (some (Value.builtin "function.__call__")).isSome = true from rfl)]
  refine wpAny_bind (wpAny_pure ?_)
  (try dsimp only)
  refine wpAny_bind (wpAny_holding (wp_target e5 rfl e4 rfl rfl rfl rfl (by kernel_rfl) ?_))
  rw [if_pos (show ((1 : Int) == 1) = true from rfl)]
  have nh : ∀ {Q' : Unit → Shared → Prop} {E' : Value → Shared → Prop}, Q' () s → wpAny (model PySem.Challenge.rw_in0279_01.row.toRowW.prog w) (ktrTop dp un gd cn cs L ac ccd cl outer).in1 (reNotHeld "re.Pattern.sub" (.str txt tt)) Q' E' s := by
    intro Q' E' hq
    unfold reNotHeld
    refine wpAny_bind (wpAny_isInstance_val (T := "str") (b := false) rfl (by rw [isSubtype_type]; kernel_rfl) ?_)
    rw [if_neg (by decide)]
    exact wpAny_pure hq
  refine wpAny_bind (nh ?_)
  refine wpAny_bind (wpAny_newList ?_)
  refine wpAny_pure ⟨plainId_quiet plain_subloop _, codeAny_builtin entry_subloop ?_⟩
  rw [Around.under_plainId plain_subloop _]
  have hP : ∀ q ∈ rest, q.1 ≠ s.heap.objs.size := fun q hq => Nat.ne_of_lt (Heap.lt_size (N q hq).1)
  exact sub_loop B X T hk hd hu hz hP (hlam _ hP) _ 0 rfl (Nat.zero_le _) 0 [] 0 [] _ (F.push _) (News.push F N _) .nil rfl (Nat.zero_le _) hQ
end
end Mine
end

section
open PySem PySem.W PyProof.Rows
set_option maxRecDepth 100000
set_option maxHeartbeats 8000000
namespace Mine
open PySem.Builtin PySem.Builtin.Str
noncomputable def spec4 (c : Nat) : Bool := c == 123 || c == 124 || c == 125 || c == 126
/-- the table of escape as the walk of the module made it: key, its mark, the value's mark -/
noncomputable def tblRow (p : Nat × Nat × Nat) : DictEntry := { hash := (p.1 : Nat), key := .int (p.1 : Nat) p.2.1, val := .str ⟨#[92, p.1]⟩ p.2.2 }
noncomputable def tblKs : List (Nat × Nat × Nat) := [40, 41, 91, 93, 123, 125, 63, 42, 43, 45, 124, 94, 36, 92, 46, 38, 126, 35, 32, 9, 10, 13, 11, 12].zipIdx.map fun p => (p.1, 428 + 6 * p.2, 432 + 6 * p.2)
noncomputable def tblO : Obj := { cls := .type "dict", data := .dict (tblKs.map tblRow).toArray 24 }
theorem tbl_in (P : PySem.Params) : (mk.heap_1 P).lookup 94 = some tblO := by kernel_rfl

theorem tbl_hash : ∀ p ∈ tblKs, hashInt (p.1 : Nat) = (p.1 : Nat) := by decide +kernel

theorem tbl_keys : ∀ p ∈ tblKs, p.1 < 97 ∨ spec4 p.1 = true := by decide +kernel

section
variable {prog : Program} {w : World} {A : Around} {E : Value → Shared → Prop} {s : Shared}
theorem tbl_map {h : Heap} (e : h.get? 94 = some tblO) : h.MapOf (intKind prog w) 94 (fun k => ((tblKs.map tblRow).find? fun x => Value.isInt k x.key).map (·.val)) := by
  refine ⟨tblO, _, 24, e, ⟨rfl, rfl, rfl⟩, rfl, ?_, ?_⟩
  · intro x hx
    have hx' : x ∈ tblKs.map tblRow := by simpa using hx
    obtain ⟨p, hp, rfl⟩ := List.mem_map.mp hx'
    refine ⟨(p.1 : Nat), ?_, ?_⟩
    · show ((p.1 : Int) == (p.1 : Int)) = true
      simp
    · show ((p.1 : Nat) : Int) = hashInt (p.1 : Nat)
      exact (tbl_hash p hp).symm
  · intro k
    unfold findBy
    rw [List.find?_toArray]
    rfl
theorem tbl_hit {c : Nat} (h : spec4 c = true) : ∃ t, ((tblKs.map tblRow).find? fun x => Value.isInt (c : Nat) x.key).map (·.val) = some (.str ⟨#[92, c]⟩ t) := by
  unfold spec4 at h
  simp only [Bool.or_eq_true, beq_iff_eq] at h
  rcases h with ((h | h) | h) | h <;> subst h
  · exact ⟨456, rfl⟩
  · exact ⟨492, rfl⟩
  · exact ⟨462, rfl⟩
  · exact ⟨528, rfl⟩
theorem tbl_miss {c : Nat} (h0 : 97 ≤ c) (h : spec4 c = false) : ((tblKs.map tblRow).find? fun x => Value.isInt (c : Nat) x.key).map (·.val) = none := by
  rw [Option.map_eq_none_iff, List.find?_eq_none]
  intro x hx
  obtain ⟨p, hp, rfl⟩ := List.mem_map.mp hx
  have hq := tbl_keys p hp
  show ¬ ((p.1 : Int) == (c : Int)) = true
  intro e
  have e2 : p.1 = c := by have := beq_iff_eq.mp e; omega
  rw [e2] at hq
  rcases hq with hq | hq
  · omega
  · rw [hq] at h; cases h
end
end Mine
end

section
open PySem PySem.W PyProof.Rows
set_option maxRecDepth 100000
set_option maxHeartbeats 8000000
namespace Mine
open PySem.Builtin PySem.Builtin.Str
section
variable {prog : Program} {w : World} {A : Around} {E : Value → Shared → Prop} {s : Shared} {c : Nat}
theorem wp_lookup_hit (e : s.heap.get? 94 = some tblO) (h : spec4 c = true) {Q : Mapped → Shared → Prop} (hq : ∀ tk, Q (.text ⟨#[92, c]⟩) { s with toks := tk }) : wpAny (model prog w) A (tableLookup (.ref 94) c) Q E s := by
  obtain ⟨t, ht⟩ := tbl_hit h
  unfold tableLookup
  refine wpAny_bind (wpAny_attempt (wpAny_bind (wpAny_mkInt ?_)))
  refine wpAny_getItem_of (knd := intKind prog w) (k := (c : Nat)) (by show ((c : Int) == (c : Int)) = true; simp) (tbl_map e) ht ?_
  (try dsimp only)
  refine wpAny_bind (wpAny_pure ?_)
  (try dsimp only)
  refine wpAny_bind (wpAny_pure ?_)
  exact wpAny_pure (hq _)
theorem wp_lookup_miss (e : s.heap.get? 94 = some tblO) (hh : A.handled = none) (h0 : 97 ≤ c) (h : spec4 c = false) {Q : Mapped → Shared → Prop} (hq : ∀ h' tk, (∀ b o, s.heap.get? b = some o → h'.get? b = some o) → Q .keep { s with heap := h', toks := tk }) : wpAny (model prog w) A (tableLookup (.ref 94) c) Q E s := by
  unfold tableLookup
  refine wpAny_bind (wpAny_attempt (wpAny_bind (wpAny_mkInt ?_)))
  refine wpAny_getItem_missing_of (knd := intKind prog w) (k := (c : Nat)) (by show ((c : Int) == (c : Int)) = true; simp) (by decide) hh (tbl_map e) (tbl_miss h0 h) fun h' x hx => ?_
  (try dsimp only)
  obtain ⟨ob, tp, he, hcls, hd⟩ := hx.there
  refine wpAny_bind (wpAny_isInstance (T := "KeyError") (b := true) ⟨ob, he, hcls⟩ (by rw [isSubtype_type]; kernel_rfl) ?_)
  rw [if_pos rfl]
  exact wpAny_bind (wpAny_rule (wpAny_pure (hq _ _ hx.keeps)))
end
end Mine
end

section
open PySem PySem.W PyProof.Rows
set_option maxRecDepth 100000
set_option maxHeartbeats 8000000
namespace Mine
open PySem.Builtin PySem.Builtin.Str
noncomputable def escP (c : Nat) : List Nat := if spec4 c then [92, c] else [c]
section
variable {w : World} {A : Around} {E : Value → Shared → Prop} {s : Shared} {c : Nat} {prog : Program} {t : Tok} {Q : Value → Shared → Prop}
theorem translate1 (e : s.heap.get? 94 = some tblO) (hh : A.handled = none) (h0 : 97 ≤ c)
    (hq : ∀ h' t' tk, (∀ b o, s.heap.get? b = some o → h'.get? b = some o) → Q (.str ⟨(escP c).toArray⟩ t') { s with heap := h', toks := tk }) :
    wpAny (model prog w) A (call (.builtin "str.translate") [.str ⟨#[c]⟩ t, .ref 94]) Q E s := by
  refine wpAny_call (codeAny_call_builtin PySem.F.slot_str_translate.plain PySem.F.entry_str_translate (PySem.F.slot_str_translate.check _ _ _ _ _ _ _ _ rfl (PySem.F.args_str_translate_2 _ _) ?_))
  unfold «str.translate»
  have e1 : strOneArg "translate" ⟨[.str ⟨#[c]⟩ t, .ref 94], []⟩ = pure (.str ⟨#[c]⟩ t, ⟨#[c]⟩, .ref 94) := rfl
  rw [e1]
  refine wpAny_bind (wpAny_pure ?_)
  (try dsimp only)
  rw [if_neg (show ¬ ((Str.length ⟨#[c]⟩ == 0) = true) from by simp [Str.length])]
  have hall : (#[c].all fun x => decide (x < 128)) = decide (c < 128) := by simp
  refine wpAny_bind (wpAny_forIn_array' _ (fun (l : List Nat) (b : List Str × Nat × Bool × List (Nat × Option Nat) × Bool) s' => match l with
    | [] => b.1 = [⟨(escP c).toArray⟩] ∧ b.2.1 ≤ 2 ∧ ∃ h' tk, s' = { s with heap := h', toks := tk } ∧ ∀ b o, s.heap.get? b = some o → h'.get? b = some o
    | [x] => x = c ∧ b = ([], 0, decide (c < 128), [], false) ∧ s' = s
    | _ => False) _ ?turn ?fin _ _ ⟨rfl, by rw [hall], rfl⟩)
  case turn =>
    intro x rest b s' hI
    cases rest with
    | cons y r => exact hI.elim
    | nil =>
    obtain ⟨rfl, rfl, rfl⟩ := hI
    (try dsimp only)
    rw [if_neg (show ¬ (tooLong 0 = true) from by decide)]
    cases hf : decide (x < 128) with
    | true =>
      rw [if_pos rfl]
      dsimp only [List.lookup]
      cases hs : spec4 x with
      | true =>
        refine wpAny_bind (wp_lookup_hit e hs fun tk => ?_)
        have hL : ((⟨#[92, x]⟩ : Str).length == 1 && (⟨#[92, x]⟩ : Str).cps.all fun x => decide (x < 128)) = false := rfl
        simp only [hL, Bool.false_eq_true, if_false]
        refine wpAny_bind (wpAny_pure ?_)
        (try dsimp only)
        refine wpAny_bind (wpAny_rule ?_)
        refine wpAny_bind (wp_lookup_hit (s := { s' with toks := tk }) e hs fun tk => ?_)
        exact wpAny_pure ⟨by simp [escP, hs], by simp [Str.length], _, _, rfl, fun _ _ h => h⟩
      | false =>
        refine wpAny_bind (wp_lookup_miss (A := A.in1) e hh h0 hs fun h' tk hk => ?_)
        (try dsimp only)
        refine wpAny_bind (wpAny_pure ?_)
        (try dsimp only)
        exact wpAny_pure ⟨by simp [escP, hs], by simp, _, _, rfl, hk⟩
    | false =>
      simp only [Bool.false_eq_true, if_false]
      cases hs : spec4 x with
      | true =>
        refine wpAny_bind (wp_lookup_hit e hs fun tk => ?_)
        exact wpAny_pure ⟨by simp [escP, hs], by simp [Str.length], _, _, rfl, fun _ _ h => h⟩
      | false =>
        refine wpAny_bind (wp_lookup_miss (A := A.in1) e hh h0 hs fun h' tk hk => ?_)
        exact wpAny_pure ⟨by simp [escP, hs], by simp, _, _, rfl, hk⟩
  case fin =>
    rintro ⟨b1, b2, b3, b4, b5⟩ s' ⟨rfl, hb2, h', tk, rfl, hk⟩
    (try dsimp only)
    have ht : tooLong b2 = false := by
      unfold tooLong sizeLine
      simp only [decide_eq_false_iff_not]
      have : b2 ≤ 2 := hb2
      omega
    simp only [ht, Bool.false_eq_true, if_false]
    have e2 : (List.foldl (fun acc (p : Str) => acc ++ p.cps) #[] [({ cps := (escP c).toArray } : Str)].reverse) = (escP c).toArray := by simp
    rw [e2]
    refine wpAny_bind (wpAny_mkStr (wpAny_pure (hq _ _ _ hk)) ?_)
    show (escP c).toArray.size ≤ sizeLine
    unfold escP sizeLine
    split <;> simp
end
end Mine
end

section
open PySem PySem.W PyProof.Rows
set_option maxRecDepth 100000
set_option maxHeartbeats 8000000
namespace Mine
theorem fr_keeps {h₀ h h' : Heap} {L : Addr} {m : Str → Option Value} (F : Fr h₀ L h m) (k : ∀ b o, h.get? b = some o → h'.get? b = some o) : Fr h₀ L h' m := by
  obtain ⟨o, es, ep, e, r⟩ := F.ns
  exact ⟨⟨o, es, ep, k _ _ e, r⟩, fun b o e => k _ _ (F.keep b o e), F.above⟩
theorem news_keeps {h₀ h h' : Heap} {L : Addr} {news : List (Addr × Obj)} (N : News h₀ L h news) (k : ∀ b o, h.get? b = some o → h'.get? b = some o) : News h₀ L h' news := fun p hp => ⟨k _ _ (N p hp).1, (N p hp).2⟩

theorem getm_translate {M : Model} {A : Around} {E : Value → Shared → Prop} {s : Shared} {x : Str} {t : Tok} {pl : Sem Bool} {Q : Value × List Value → Shared → Prop} (h : Q (.builtin "str.translate", [.str x t]) s) : wpAny M A (getMethod (.str x t) "translate" pl) Q E s := by
  with_reducible exact GM.of (.str x t) (typeIs_str _ _ _) PySem.F.slot_str_translate PySem.F.type_str_translate GM.noRef h
section
theorem escape1 (w : World) (c : Nat) (t : Tok) (news) (h97 : 97 ≤ c) :
    Spec w 104 [.str ⟨#[c]⟩ t] 3 news (PoStr ⟨(escP c).toArray⟩ news) := by
  unfold Spec
  k_with_none
  w_top off
  k_with "om" => (first | decide | (with_reducible first | (refine neN ?_; first | (refine Nat.ne_of_lt ?_; first | ((repeat (first | assumption | exact om_k1 | refine Nat.lt_succ_of_lt ?_)); done) | (apply And.left; (iterate 18 (first | done | assumption | apply And.right)); done)) | (refine Nat.ne_of_gt ?_; first | ((repeat (first | assumption | exact om_k1 | refine Nat.lt_succ_of_lt ?_)); done) | (apply And.left; (iterate 18 (first | done | assumption | apply And.right)); done)) | (refine Ne.symm ?_; assumption) | (refine om_s ?_; omega)) | exact om_le (by assumption) rfl | exact om_ll (by assumption) rfl | exact om_lt (by assumption) rfl | exact om_lg (by assumption) rfl | exact om_r1 (by assumption) rfl | exact om_r2 (by assumption) rfl | exact om_r3 (by assumption) rfl | exact om_il (by assumption) rfl | exact om_ig (by assumption) rfl | exact om_tn (by assumption) rfl | exact om_tl (by assumption) rfl | exact om_nc (by assumption) rfl | exact Int.natCast_nonneg _ | exact Int.le_of_lt (by assumption)) | (law_clear; lia))
  k_with "execs cons" => ((first | (k_here; k_gentoks) | (refine wpAny_execs_cons ?_; k_fold; (try k_extra "mlet"))))
  k_with "stp" => (repeat' (first | (k_unfold; (try dsimp only)) | (k_end; wrow_close) | (walk1; (all_goals (try dsimp only))) | (dsimp only; walk1) | (leave1; walk_say "STEP leave1"; try dsimp only) | fail "no step"))
  k_with "spliced" => (k_dflt (first | ((with_reducible show wpAny _ _ (spliced (backTo _ (starEach [_] _))) _ _ _); refine sp1 ?_) | ((with_reducible show wpAny _ _ (spliced (backTo _ (starEach [_, _] _))) _ _ _); refine sp2 ?_) | ((with_reducible show wpAny _ _ (spliced (backTo _ (starEach [_, _, _] _))) _ _ _); refine sp3 ?_)))
  k_with "getMethod str" => ((k_dflt (refine' getm_translate ?_)))
  k_with "call builtin:str.translate" => ((k_dflt (refine' translate1 ?w9e ?w9h ?w9c ?_; (case w9h => exact rfl); (case w9c => assumption); (case w9e => exact (Frag.In.keeps (by k_asm) (Fr.keep (by k_asm))) 94 tblO (tbl_in _))); intro hW9' tW9' tkW9' hkW9'; (try dsimp only at hkW9'); have FW9' := fr_keeps (by k_asm) hkW9'; have NW9' := news_keeps (by k_asm) hkW9'))
  k_fill
  intro dp un gd cn cs ac ccd cl outer A₀ base h₀ L m s p loose mean mg mb Q E B F X N T hk hd hu hret
  refine wpAny_call ?_
  k_dflt ktr_enter
  k_extra "stp"
  exact hret _ _ _ _ (by k_asm) (by k_asm) ⟨_⟩
end
end Mine
end

section
open PySem PySem.W PyProof.Rows
set_option maxRecDepth 100000
set_option maxHeartbeats 8000000
namespace Mine
open PySem.Builtin PySem.Builtin.Re
theorem ext_one {a : Array Nat} {i : Nat} (h : i < a.size) : a.extract i (i + 1) = #[a.getD i 0] := by
  apply Array.toList_inj.mp
  rw [ext_list, List.extract_eq_take_drop, getD_list h, Nat.add_sub_cancel_left, List.drop_eq_getElem_cons (by simpa using h)]
  rfl
section
variable {prog : Program} {w : World} {A : Around} {E : Value → Shared → Prop} {s : Shared} {a b : Addr} {txt : Str} {tt tk : Tok} {i : Nat}
theorem group1 (ha : s.heap.get? a = some (matchO txt tt b)) (hb : s.heap.get? b = some (matchT i)) (hi : i < txt.cps.size) {Q : Value → Shared → Prop}
    (hq : ∀ t' k, Q (.str ⟨#[txt.cps.getD i 0]⟩ t') { s with toks := k }) : wpAny (model prog w) A (call (.builtin "re.Match.group") [.ref a, .int 1 tk]) Q E s := by
  refine wpAny_call (codeAny_call_builtin slot_group.plain entry_group (slot_group.check _ _ _ _ _ _ _ _ ⟨_, ha, rfl⟩ (args_group _ _) ?_))
  unfold «re.Match.group»
  refine wpAny_bind (wpAny_pure ?_)
  (try dsimp only)
  unfold reFound
  refine wpAny_bind (wpAny_bind (wpAny_fieldsOf ha rfl ?_))
  unfold reRawItems
  refine wpAny_bind (wpAny_bind (wpAny_seqItems (a := b) hb rfl (wpAny_pure ?_)))
  refine wpAny_pure ?_
  have e1 : ∀ f : Array Value, reGroupNumber { fields := f, spans := Array.map reRawOf ((some #[rawInt i, rawInt (i + 1), rawInt i, rawInt (i + 1)] : Option (Array Value)).getD #[]) } (.int 1 tk) = pure 1 := fun f => by kernel_rfl
  have e2 : reGroupText { fields := #[.str txt tt, .ref 85, rawInt 0, rawInt txt.cps.size, rawInt 1, .ref b], spans := Array.map reRawOf ((some #[rawInt i, rawInt (i + 1), rawInt i, rawInt (i + 1)] : Option (Array Value)).getD #[]) } 1 .none
      = if (decide ((i : Int) < 0) || decide ((i + 1 : Int) < 0)) = true then pure .none else (do reSlice txt.cps 0 (i : Int).toNat (i + 1 : Int).toNat) := by kernel_rfl
  have e3 : reGroupText { fields := #[.str txt tt, .ref 85, rawInt 0, rawInt txt.cps.size, rawInt 1, .ref b], spans := Array.map reRawOf ((some #[rawInt i, rawInt (i + 1), rawInt i, rawInt (i + 1)] : Option (Array Value)).getD #[]) } 1 .none = mkStr ⟨#[txt.cps.getD i 0]⟩ := by
    rw [e2, if_neg (by simp; omega)]
    show mkStr ⟨txt.cps.extract i (i + 1)⟩ = _
    rw [ext_one hi]
  show wpAny _ _ (do let g ← reGroupNumber _ (.int 1 tk); let v ← reGroupText _ g .none; ret v) _ _ s
  rw [e1]
  refine wpAny_bind (wpAny_pure ?_)
  rw [e3]
  exact wpAny_bind (wpAny_mkStr (wpAny_pure (hq _ _)) (by show (1 : Nat) ≤ sizeLine; unfold sizeLine; decide))
theorem getm_group {pl : Sem Bool} {Q : Value × List Value → Shared → Prop} (ha : s.heap.get? a = some (matchO txt tt b)) (h : Q (.builtin "re.Match.group", [.ref a]) s) : wpAny (model prog w) A (getMethod (.ref a) "group" pl) Q E s := by
  have hT : s.TypeIs (.ref a) "re.Match" := ⟨_, ha, rfl⟩
  with_reducible exact getMethod_builtin hT plainAttrs_mat slot_group type_group (fun x e => by cases e; exact ⟨_, ha, rfl⟩) h
theorem getm_groupN {h₀ : Heap} {L : Addr} {r : List (Addr × Obj)} {pl : Sem Bool} {Q : Value × List Value → Shared → Prop} (N : News h₀ L s.heap ((a, matchO txt tt b) :: r)) (h : Q (.builtin "re.Match.group", [.ref a]) s) : wpAny (model prog w) A (getMethod (.ref a) "group" pl) Q E s :=
  getm_group (N _ (.head _)).1 h
theorem group1N {h₀ : Heap} {L : Addr} {r : List (Addr × Obj)} (N : News h₀ L s.heap ((a, matchO txt tt b) :: (b, matchT i) :: r)) (hi : i < txt.cps.size) {Q : Value → Shared → Prop}
    (hq : ∀ t' k, Q (.str ⟨#[txt.cps.getD i 0]⟩ t') { s with toks := k }) : wpAny (model prog w) A (call (.builtin "re.Match.group") [.ref a, .int 1 tk]) Q E s :=
  group1 (N _ (.head _)).1 (N _ (.tail _ (.head _))).1 hi hq
end
/-- the lambda of _translate -/
noncomputable def elseL : Stmt → List Stmt
  | .If _ _ e _ => e
  | _ => []
noncomputable def thenL : Stmt → List Stmt
  | .If _ b _ _ => b
  | .While _ b _ _ => b
  | _ => []
noncomputable def nthS (l : List Stmt) (i : Nat) : Stmt := l.getD i (.Pass ⟨0, 0, 0, 0⟩)
/-- what stands under `c == '['` behind the search of the closing bracket -/
noncomputable def rangeS : List Stmt := elseL (nthS (thenL (nthS (elseL (nthS (elseL (nthS (thenL (subStmt 18 3)) 2)) 0)) 0)) 4)
noncomputable def lamOf : Stmt → Arguments × Expr × Scope × Pos
  | .Assign _ (.Call _ (.Lambda a e sc p :: _) _ _) _ => (a, e, sc, p)
  | _ => (⟨[], [], none, [], [], none, []⟩, .Name ⟨#[]⟩ ⟨0, 0, 0, 0⟩, { kind := .function, names := [], isGenerator := false, isCoroutine := false }, ⟨0, 0, 0, 0⟩)
noncomputable abbrev lamQ : Str := "_translate.<locals>.<lambda>"
structure Lam (f : Addr) (iP : Arguments) (iE : Expr) (iS : Scope) (rest : List (Addr × Obj)) : Prop where
  hP : iP = (lamOf (nthS rangeS 2)).1
  hE : iE = (lamOf (nthS rangeS 2)).2.1
  hS : iS = (lamOf (nthS rangeS 2)).2.2.1
  hf : ∃ pm c' ct oc cvs t, (f, kla_obj "<lambda>" lamQ iP iE iS [] pm c' ct) ∈ rest ∧ (c', oc) ∈ rest ∧ oc.data = .fields cvs ∧ cvs[1]? = some (.str lamQ t)
section
theorem lam1 (w : World) (f : Addr) (iP : Arguments) (iE : Expr) (iS : Scope) (rest : List (Addr × Obj)) (I : Lam f iP iE iS rest) (txt : Str) (tt : Tok) (i : Nat) (hi : i < txt.cps.size) (a b P : Addr) (vs : Array Value) (c : Nat) :
    Spec w f [.ref a] 3 ((a, matchO txt tt b) :: (b, matchT i) :: (P, listOf vs c) :: rest) (fun r nw => (∃ t, r = .str ⟨#[92, txt.cps.getD i 0]⟩ t) ∧ nw = (a, matchO txt tt b) :: (b, matchT i) :: (P, listOf vs c) :: rest) := by
  obtain ⟨hP, hE, hS, ⟨pm, c', ct, oc, cvs, t, hf, hc, hc1, hc2⟩⟩ := I
  conv at hP => rhs; whnf
  conv at hE => rhs; whnf
  conv at hS => rhs; whnf
  subst hP hE hS
  unfold Spec
  k_with_none
  w_top off
  k_with "om" => (first | decide | (with_reducible first | (refine neN ?_; first | (refine Nat.ne_of_lt ?_; first | ((repeat (first | assumption | exact om_k1 | refine Nat.lt_succ_of_lt ?_)); done) | (apply And.left; (iterate 18 (first | done | assumption | apply And.right)); done)) | (refine Nat.ne_of_gt ?_; first | ((repeat (first | assumption | exact om_k1 | refine Nat.lt_succ_of_lt ?_)); done) | (apply And.left; (iterate 18 (first | done | assumption | apply And.right)); done)) | (refine Ne.symm ?_; assumption) | (refine om_s ?_; omega)) | exact om_le (by assumption) rfl | exact om_ll (by assumption) rfl | exact om_lt (by assumption) rfl | exact om_lg (by assumption) rfl | exact om_r1 (by assumption) rfl | exact om_r2 (by assumption) rfl | exact om_r3 (by assumption) rfl | exact om_il (by assumption) rfl | exact om_ig (by assumption) rfl | exact om_tn (by assumption) rfl | exact om_tl (by assumption) rfl | exact om_nc (by assumption) rfl | exact Int.natCast_nonneg _ | exact Int.le_of_lt (by assumption)) | (law_clear; lia))
  k_with "execs cons" => ((first | (k_here; k_gentoks) | (refine wpAny_execs_cons ?_; k_fold; (try k_extra "mlet"))))
  k_with "stp" => (repeat' (first | (k_unfold; (try dsimp only)) | (k_end; wrow_close) | (walk1; (all_goals (try dsimp only))) | (dsimp only; walk1) | (leave1; walk_say "STEP leave1"; try dsimp only) | fail "no step"))
  k_with "spliced" => (k_dflt (first | ((with_reducible show wpAny _ _ (spliced (backTo _ (starEach [_] _))) _ _ _); refine sp1 ?_) | ((with_reducible show wpAny _ _ (spliced (backTo _ (starEach [_, _] _))) _ _ _); refine sp2 ?_) | ((with_reducible show wpAny _ _ (spliced (backTo _ (starEach [_, _, _] _))) _ _ _); refine sp3 ?_)))
  k_with "getMethod ref" => ((k_dflt (refine' getm_groupN ?w9h ?_; (case w9h => k_asm))))
  k_with "call builtin:re.Match.group" => ((k_dflt (refine' group1N ?w9a ?w9c ?_; (case w9a => k_asm); (case w9c => with_reducible assumption)); intro tW9' kW9'))
  k_fill
  intro dp un gd cn cs ac ccd cl outer A₀ base h₀ L m s p loose mean mg mb Q E B F X N T hk hd hu hret
  refine wpAny_call ?_
  k_dflt (refine' kla_code ?k1 ?k2 ?k3 ?k4 ?k5 ?kA ?kF ?kK ?k6 ?k7 ?k8 ?k9 ?kB ?_ ?c2 ?c3 ?c4 ?c5; (case kA => exact rfl); (case kF => exact rfl); (case kK => assumption); (case k1 => k_asm); (case k2 => k_asm); (case k3 => k_asm); (case k4 => k_asm); (case k5 => k_asm); (case k6 => exact .tail _ (.tail _ (.tail _ hf))); (case k7 => exact codeRec_news (by k_asm) (.tail _ (.tail _ (.tail _ hc))) (by assumption) (by assumption)); (case k8 => ktr_room); (case k9 => exact rfl); (case c5 => decide); (case kB => exact locs rfl); (case c2 => exact rfl); (case c3 => exact rfl); (case c4 => exact rfl); k_whole; intro g' L' h' FG' F' N' B' X' T'; (try dsimp only); (try k_lift B'); (try k_fold))
  k_extra "stp"
  · have e : (Str.ofString "\\" ++ (⟨#[txt.cps.getD i 0]⟩ : Str) : Str) = ⟨#[92, txt.cps.getD i 0]⟩ := rfl
    exact hret _ _ _ _ (by k_asm) (by k_asm) ⟨⟨_, congrArg (fun x => Value.str x _) e⟩, rfl⟩
  all_goals (exfalso; omega)
end
end Mine
end

section
open PySem PySem.W PyProof.Rows PySem.Calls
set_option maxRecDepth 100000
set_option maxHeartbeats 8000000
namespace Mine
open PySem.Builtin
noncomputable def bndO (l : Addr) : Obj := { cls := .type "builtin_function_or_method", data := .fields #[.builtin "list.append", .ref l] }
theorem app_look : typeLookup (.type "list") "append" = pure (some (.builtin "list.append")) := by rw [typeLookup_type, builtinLookup_eq_fast]; kernel_rfl

theorem md_set : typeLookup (.type "method_descriptor") "__set__" = pure none := by rw [typeLookup_type, builtinLookup_eq_fast]; kernel_rfl

theorem md_del : typeLookup (.type "method_descriptor") "__delete__" = pure none := by rw [typeLookup_type, builtinLookup_eq_fast]; kernel_rfl

theorem kind_app : builtinKind "list.append" = some .method := by kernel_rfl

theorem slot_mget : Slot "method_descriptor" "__get__" "method_descriptor.__get__" :=
  .of (owner := "method_descriptor") (n := "__get__") (by rw [typeLookup_type, builtinLookup_eq_fast]; kernel_rfl) (by decide +kernel) (by decide +kernel) (by decide +kernel)
    (by first | exact .inl (by decide +kernel) | exact .inr (by decide +kernel)) (by rw [isSubtype_type]; kernel_rfl)
theorem entry_mget : entryFor table "method_descriptor.__get__" = some Builtin.«method_descriptor.__get__» := entryFor_of_tree (by kernel_rfl)

theorem args_mget (a b c : Value) : argsOk "method_descriptor.__get__" ⟨[a, b, c], []⟩ := by unfold argsOk; kernel_rfl

theorem mget_app {prog : Program} {w : World} {A : Around} {R : Result → Shared → Prop} {s : Shared} {a : Addr} {o : Obj} (hx : s.heap.get? a = some o) (hc : o.cls = .type "list")
    (h : R (.ok (.ret (.ref s.heap.objs.size))) { s with heap := s.heap.push (bndO a) }) : codeAny (model prog w) A (.call (.builtin "method_descriptor.__get__") ⟨[.builtin "list.append", .ref a, .type "list"], []⟩) R s := by
  have hT : s.TypeIs (.builtin "list.append") "method_descriptor" := PySem.F.type_list_append
  refine codeAny_call_builtin slot_mget.plain entry_mget (slot_mget.check _ _ _ _ _ _ _ _ hT (args_mget _ _ _) ?_)
  unfold Builtin.«method_descriptor.__get__»
  refine wpAny_bind (wpAny_of_eq (a := (.builtin "list.append", some (.ref a), some (.type "list"))) (by first | rfl | kernel_rfl) ?_)
  (try dsimp only)
  rw [if_neg (by decide +kernel)]
  refine wpAny_bind ?_
  refine wpAny_bind (wpAny_of_eq (a := (Str.ofString "append", Value.type "list")) (by first | rfl | kernel_rfl) ?_)
  (try dsimp only)
  refine wpAny_bind (wpAny_isInstance (T := "list") (b := true) ⟨o, hx, hc⟩ (by rw [isSubtype_type]; kernel_rfl) ?_)
  rw [if_neg (by decide)]
  refine wpAny_pure ?_
  exact wpAny_bind (wpAny_newObj_type (wpAny_pure h))
theorem ga_app (a : Addr) (xs : Array Value) (k : Nat) (u : Tok) :
    Meets (Builtin.«object.__getattribute__» ⟨[.ref a, .str "append" u], []⟩) (fun A R s => s.heap.get? a = some { cls := .type "list", dict := none, data := .seq xs k, slots := #[] } ∧ ∀ tk, R (.ok (.ret (.ref s.heap.objs.size))) { s with heap := s.heap.push (bndO a), toks := tk }) :=
  Meets.of_wp fun prog w A R s hs => by
    obtain ⟨hp, g, d, tk, os⟩ := s
    obtain ⟨hx, hs⟩ := hs
    have hT : (⟨hp, g, d, tk, os⟩ : Shared).TypeIs (.ref a) "list" := ⟨_, hx, rfl⟩
    have e1 := app_look
    unfold Builtin.«object.__getattribute__»
    repeat (any_goals (first | assumption | wp_step))
    simp only [kind_app]
    refine wpAny_of_eq slot_mget.lookup ?_
    repeat (any_goals (first | assumption | wp_step))
    simp only [kind_app]
    refine wpAny_of_eq md_set ?_
    repeat (any_goals (first | assumption | wp_step))
    simp only [kind_app]
    refine wpAny_of_eq md_del ?_
    repeat (any_goals (first | assumption | wp_step))
    refine mget_app hx rfl ?_
    exact wpAny_pure ⟨_, rfl, hs _⟩
end Mine
end

section
open PySem PySem.W PyProof.Rows PySem.Calls
set_option maxRecDepth 100000
set_option maxHeartbeats 8000000
namespace Mine
open PySem.Builtin
theorem getApp {prog : Program} {w : World} {A : Around} {E : Value → Shared → Prop} {s : Shared} {a : Addr} {xs : Array Value} {k : Nat} {Q : Value → Shared → Prop}
    (hx : s.heap.get? a = some { cls := .type "list", dict := none, data := .seq xs k, slots := #[] }) (h : ∀ tk, Q (.ref s.heap.objs.size) { s with heap := s.heap.push (bndO a), toks := tk }) :
    wpAny (model prog w) A (getAttr (.ref a) "append" true) Q E s := by
  obtain ⟨hp, g, d, tk, os⟩ := s
  have hT : ∀ tk', (⟨hp, g, d, tk', os⟩ : Shared).TypeIs (.ref a) "list" := fun _ => ⟨_, hx, rfl⟩
  have f3 := PySem.F.slot_list_getattribute.lookup
  have f4 := PySem.F.slot_list_getattribute.bind (.ref a)
  have f5 := am_list_getattr_none
  unfold getAttr getAttrBy
  repeat (any_goals (first | assumption | exact hT _ | ((with_reducible show wpAny _ _ (call (Value.builtin "list.__getattribute__") _ _) _ _ _); refine call_meets PySem.F.slot_list_getattribute (hT _) am_entry_list_getattribute (PySem.F.args_list_getattribute_2 _ _) (ga_app a xs k _) ⟨hx, fun tk' => ?_⟩) | wp_step))
  show wpAny (model prog w) A (handedOut (.ref hp.objs.size)) Q E _
  repeat (any_goals (first | assumption | exact h _ | wp_step))
  all_goals trace_state
end Mine
end

section
open PySem PySem.W PyProof.Rows PySem.Calls
set_option maxRecDepth 100000
set_option maxHeartbeats 8000000
namespace Mine
open PySem.Builtin
noncomputable def BndAt (u l : Addr) (h : Heap) : Prop := h.get? u = some (bndO l)
theorem quiet_app {as : Args} : (Code.builtin "list.append" as).quiet = true := Code.quiet_builtin _ (by decide +kernel)

theorem sig_app : Manifest.signature? "list.append" = some ⟨.oneArg, "list.append", "append", .self, [⟨"object", .posOnly, true⟩]⟩ := by kernel_rfl

theorem argl_app (l : Addr) (v : Value) : Bind.checkArgs "list.append" ⟨.oneArg, "list.append", "append", .self, [⟨"object", .posOnly, true⟩]⟩ ⟨[.ref l, v], []⟩ = pure () := by kernel_rfl

theorem sub_list_type : isSubtype (.type "list") (.type "type") = pure false := by rw [isSubtype_type]; kernel_rfl

theorem sub_list_module : isSubtype (.type "list") (.type "module") = pure false := by rw [isSubtype_type]; kernel_rfl

theorem check_app {M : Model} {A : Around} {E : Value → Shared → Prop} {s : Shared} {l : Addr} {v : Value} {its : Array Value} {n : Nat} {Q : Unit → Shared → Prop} (ho : s.heap.get? l = some (listOf its n)) (h : Q () s) :
    wpAny M A (checkBoundCall "list.append" ⟨[.ref l, v], []⟩) Q E s := by
  have hT : s.TypeIs (.ref l) "list" := ⟨_, ho, rfl⟩
  unfold checkBoundCall
  rw [sig_app]
  simp only [kind_app]
  rw [if_neg (by decide)]
  refine wpAny_bind (wpAny_isInstance (T := "list") (b := false) hT sub_list_module ?_)
  rw [if_neg (by decide +kernel)]
  refine wpAny_bind ?_
  unfold isType
  refine wpAny_bind (wpAny_loadPart ho ?_)
  refine wpAny_pure ?_
  (try dsimp only)
  rw [if_neg (by decide)]
  refine wpAny_bind (wpAny_typeOf hT ?_)
  (try dsimp only)
  have e : s!"{Bind.lastOf "list"}.{Bind.lastOf "list.append"}" = "list.append" := by decide +kernel
  rw [e]
  rw [argl_app]
  exact wpAny_pure h
section
variable {M : Model} {A : Around} {E : Value → Shared → Prop} {s : Shared} {env : Env} {pos : Pos} {first : List Value} {Q : Value → Shared → Prop} {u l : Addr}
theorem keeps_Bnd (h : Heap) (X : BndAt u l h) : ∃ k, (k = Keeper.frame ∨ k = Keeper.machine ∨ k = Keeper.boundFrame) ∧ Looks M h (keeperOf (.ref u)) k := by
  refine ⟨.machine, .inr (.inl rfl), ?_⟩
  unfold keeperOf
  exact (Looks.ld (part := none) X).andThen .now
theorem callWith_bnd {e : Expr} {rest : List Expr} (_X : BndAt u l s.heap) (h : wpAny M A (spliced (backTo pos (starEach (e :: rest) env))) (fun vs s₁ => BndAt u l s₁.heap ∧ wpAny M A (call (.ref u) (first ++ vs)) Q E s₁) E s)
    (he : starEach (e :: rest) env = (false, eval e env) :: starEach rest env := by rfl) (hplain : (backTo pos (starEach rest env)).any (·.1) = false := by rfl) :
    wpAny M A (callWith pos (.ref u) first (backTo pos (starEach (e :: rest) env)) []) Q E s := by
  rw [he] at h ⊢
  exact callWith_of (by show ((false || (backTo pos (starEach rest env)).any (·.1)) || false) = false; rw [hplain]; rfl) keeps_Bnd (evalArgs_plain h)
end
section
variable {prog : Program} {w : World} {A : Around} {E : Value → Shared → Prop} {h₀ : Heap} {s : Shared} {L u l : Addr} {m : Str → Option Value} {Q : Value → Shared → Prop} {news news' : List (Addr × Obj)}
theorem call_bnd {its : Array Value} {n : Nat} {v : Value} (F : Fr h₀ L s.heap m) (N : News h₀ L s.heap news) (hu : (u, bndO l) ∈ news) (U : Upd l (listOf its n) (listOf (its.push v) (n + 1)) news news')
    (h : ∀ h', Fr h₀ L h' m → News h₀ L h' news' → Q .none { s with heap := h' }) (hsz : its.size ≤ sizeLine) :
    wpAny (model prog w) A (call (.ref u) [v]) Q E s := by
  obtain ⟨pre, post, rfl, rfl, a, b⟩ := U.split
  have z := N (l, listOf its n) (List.mem_append.mpr (.inr (.head _)))
  refine wpAny_call (codeAny_of_tree ?_)
  show wpAny _ A.in1 (callAny (.ref u) ⟨[v], []⟩) _ _ s
  simp only [callAny]
  refine wpAny_bind (wpAny_load (N _ hu).1 ?_)
  simp only [bndO, show (Value.type "builtin_function_or_method" == Value.type "method" || Value.type "builtin_function_or_method" == Value.type "builtin_function_or_method" || Value.type "builtin_function_or_method" == Value.type "method-wrapper") = true by decide, if_true]
  refine KFB.if_so (by decide) ?_
  refine wpAny_bind (check_app z.1 ?_)
  refine wpAny_bind (wpAny_pure (wpAny_pure ?_))
  refine ⟨quiet_app, codeAny_builtin PySem.F.entry_list_append ?_⟩
  show wpAny _ _ (updateSeq l (·.push v) >>= fun _ => ret .none) _ _ s
  refine wpAny_bind ?_
  refine wpAny_updateSeq z.1 rfl (wpAny_pure (h _ (F.change (Heap.SameBut.update ..) z.2.1 z.2.2) (news_set N a b (Heap.SameBut.update ..) ?_)))
  rw [Heap.get?_update_self _ z.1 (by rw [mapSeq_push]; rfl), mapSeq_push]
end
end Mine
end

section
open PySem PySem.W PyProof.Rows PySem.Calls
set_option maxRecDepth 100000
set_option maxHeartbeats 8000000
namespace Mine
open PySem.Builtin PySem.Builtin.Str PySem.StrLaws
/-- a text by its signs -/
noncomputable abbrev S (l : List Nat) : Str := ⟨l.toArray⟩
theorem S_inj {a b : List Nat} (h : S a = S b) : a = b := by injection h with h; simpa using h

theorem S_len (l : List Nat) : (S l).length = l.length := by show l.toArray.size = _; simp

theorem S_app (a b : List Nat) : S a ++ S b = S (a ++ b) := by show Str.append _ _ = _; simp [Str.append, S]

theorem S_eq (a b : List Nat) : (S a == S b) = (a == b) := by
  rw [Bool.eq_iff_iff]; simp [S]
theorem S_cut {l : List Nat} {i j : Int} (h0 : 0 ≤ i) (h1 : i ≤ j) (h2 : j ≤ l.length) : Txt.slice (S l) (some i) (some j) = S ((l.drop i.toNat).take (j - i).toNat) :=
  eq_of_beq (slice_closesL h0 h1 (by rw [S_len]; exact h2))
theorem S_from {l : List Nat} {i : Int} (h0 : 0 ≤ i) (h2 : i ≤ l.length) : Txt.slice (S l) (some i) none = S (l.drop i.toNat) := by
  have h := eq_of_beq (slice_closes_fromL (x := S l) (b := l.length) h0 (by rw [S_len]; exact h2) (by rw [S_len]))
  rw [h]
  show S _ = S _
  rw [List.take_of_length_le (by simp; omega)]
theorem S_to {l : List Nat} {j : Int} (h0 : 0 ≤ j) (h2 : j ≤ l.length) : Txt.slice (S l) none (some j) = S (l.take j.toNat) := by
  have h := eq_of_beq (slice_closes_toL (x := S l) h0 (by rw [S_len]; exact h2))
  rw [h]
  show S _ = S _
  simp
theorem S_to_neg {l : List Nat} {j : Int} (h0 : 0 < j) (h2 : j ≤ l.length) : Txt.slice (S l) none (some (-j)) = S (l.take (l.length - j).toNat) := by
  rw [← S_to (l := l) (j := (l.length : Int) - j) (by omega) (by omega)]
  have e : strSliceIndices none (some (-j)) 1 (S l).length = strSliceIndices none (some ((l.length : Int) - j)) 1 (S l).length := by
    rw [S_len]
    unfold strSliceIndices
    simp only [show (1 : Int) > 0 by decide, if_true, show (0 : Int) < j ↔ True from ⟨fun _ => trivial, fun _ => h0⟩, show (-j < 0) = True from eq_true (by omega), show ((l.length : Int) - j < 0) = False from eq_false (by omega), if_false]
    congr 1
    omega
  unfold Txt.slice
  rw [e]
theorem S_from_neg {l : List Nat} {i j : Int} (h0 : 0 ≤ i) (hj : 0 < j) (h2 : i + j ≤ l.length) : Txt.slice (S l) (some i) (some (-j)) = S ((l.drop i.toNat).take (l.length - j - i).toNat) := by
  rw [← S_cut (l := l) (i := i) (j := (l.length : Int) - j) h0 (by omega) (by omega)]
  have e : strSliceIndices (some i) (some (-j)) 1 (S l).length = strSliceIndices (some i) (some ((l.length : Int) - j)) 1 (S l).length := by
    rw [S_len]
    unfold strSliceIndices
    simp only [show (1 : Int) > 0 by decide, if_true, show (-j < 0) = True from eq_true (by omega), show ((l.length : Int) - j < 0) = False from eq_false (by omega), if_false]
    congr 1
    omega
  unfold Txt.slice
  rw [e]
theorem sub_one {l : List Nat} {c i : Nat} (hi : i < l.length) : subAt (S l) (S [c]) i = (l[i] == c) := by
  unfold subAt
  have e : (S l).cps.extract i (i + (S [c]).length) = #[l[i]] := by
    show l.toArray.extract i (i + 1) = _
    apply Array.toList_inj.mp
    simp only [List.extract_toArray, List.extract_eq_take_drop, Nat.add_sub_cancel_left]
    rw [List.drop_eq_getElem_cons hi]
    rfl
  rw [e]
  show (#[l[i]] == #[c]) = _
  rw [Bool.eq_iff_iff]; simp
theorem occ_from_none {l : List Nat} {c : Nat} {lo hi : Nat} {lim : Nat} (hl : 1 ≤ lim) (hh : hi ≤ l.length) (h : ∀ i, lo ≤ i → i < hi → l[i]? ≠ some c) : occurrences (S l) (S [c]) lo hi lim = [] := by
  rw [occ_eq]
  rcases occ_first (S l) (S [c]) hi lim hl (List.range' lo (hi + 1 - lo)) lo (fun i hi => by have := List.mem_range'_1.mp hi; omega) with ⟨h0, _⟩ | ⟨pre, a, post, e, h0, ha, hn⟩
  · rw [h0]
  · exfalso
    have hs := range'_split_from e
    have h1 : a + 1 ≤ hi := ha.1
    have h2 := ha.2
    rw [sub_one (by omega)] at h2
    exact h a hs.1 (by omega) (by rw [List.getElem?_eq_getElem (by omega)]; exact congrArg some (eq_of_beq h2))
theorem occ_from_at {l : List Nat} {c : Nat} {lo hi k : Nat} {lim : Nat} (hl : 1 ≤ lim) (hh : hi ≤ l.length) (h0 : lo ≤ k) (h1 : k < hi) (hk : l[k]? = some c) (h : ∀ i, lo ≤ i → i < k → l[i]? ≠ some c) : ∃ r, occurrences (S l) (S [c]) lo hi lim = k :: r := by
  rw [occ_eq]
  have at_ : ∀ i, i < hi → (At (S l) (S [c]) hi i ↔ l[i]? = some c) := by
    intro i hi'
    unfold At
    rw [sub_one (by omega), List.getElem?_eq_getElem (by omega)]
    constructor
    · intro h; exact congrArg some (eq_of_beq h.2)
    · intro h; exact ⟨by rw [S_len]; show i + 1 ≤ hi; omega, by simpa using h⟩
  rcases occ_first (S l) (S [c]) hi lim hl (List.range' lo (hi + 1 - lo)) lo (fun i hi => by have := List.mem_range'_1.mp hi; omega) with ⟨_, hn⟩ | ⟨pre, a, post, e, hh0, ha, hn⟩
  · exact absurd ((at_ k h1).mpr hk) (hn k (by rw [List.mem_range'_1]; omega))
  · have hs := range'_split_from e
    have h3 : a < hi := by have := ha.1; rw [S_len] at this; exact this
    have hak : a = k := by
      rcases Nat.lt_trichotomy a k with q | q | q
      · exact absurd ((at_ a h3).mp ha) (h a hs.1 q)
      · exact q
      · exact absurd ((at_ k h1).mpr hk) (hn k (hs.2 k h0 q))
    refine ⟨((forIn (List.range' lo (hi + 1 - lo)) ((#[] : Array Nat), lo) (occBody (S l) (S [c]) hi lim)).run.fst.toList).tail, ?_⟩
    generalize (forIn (List.range' lo (hi + 1 - lo)) ((#[] : Array Nat), lo) (occBody (S l) (S [c]) hi lim)).run.fst = arr at hh0
    have h4 : arr.toList[0]? = some a := by simpa using hh0
    cases hL : arr.toList with
    | nil => rw [hL] at h4; cases h4
    | cons b t => rw [hL] at h4; simp at h4; rw [h4, hak]; rfl
theorem occ_in {l : List Nat} {c : Nat} : (occurrences (S l) (S [c]) 0 (S l).length 1).isEmpty = !(l.contains c) := by
  have h := found_iff (S l) (S [c])
  by_cases hc : c ∈ l
  · have : (!(occurrences (S l) (S [c]) 0 (S l).length 1).isEmpty) = true := h.mpr (by
      obtain ⟨i, hi, e⟩ := List.getElem_of_mem hc
      exact ⟨i, by rw [S_len, S_len]; exact hi, by rw [sub_one hi]; simpa using e⟩)
    simp only [Bool.not_eq_true'] at this
    rw [this]; simp [hc]
  · rw [occ_from_none (Nat.le_refl 1) (by rw [S_len]; exact Nat.le_refl _) (fun i _ _ e => hc (List.mem_of_getElem? e))]
    simp [hc]
section
variable {prog : Program} {w : World} {A : Around} {E : Value → Shared → Prop} {s : Shared} {Q : Value → Shared → Prop}
theorem replace_no {l : List Nat} {c : Nat} {y : Str} {t u v : Tok} (h : c ∉ l) (hz : l.length ≤ 1000) (hq : Q (.str (S l) t) s) : wpAny (model prog w) A (call (.builtin "str.replace") [.str (S l) t, .str (S [c]) u, .str y v]) Q E s := by
  have e : occurrences (S l) (S [c]) 0 (S l).length ((S l).length + 1) = [] := occ_from_none (by omega) (by rw [S_len]; exact Nat.le_refl _) (fun i _ _ e => h (List.mem_of_getElem? e))
  refine wpAny_call_entry PySem.F.slot_str_replace (typeIs_str _ _ _) PySem.F.entry_str_replace ?_ (PySem.F.args_str_replace_3 _ _ _)
  show wpAny _ _ (do
    let cuts := occurrences (S l) (S [c]) 0 (S l).length ((S l).length + 1)
    if (cuts.isEmpty || ((S [c]).length == 0 && y.length == 0)) = true then (do rule "str.replace.nothing"; ret (.str (S l) t)) else _) _ _ s
  (try dsimp only)
  rw [e]
  exact wpAny_bind (wpAny_rule (wpAny_pure ⟨_, rfl, hq⟩))
theorem find4 {l : List Nat} {c : Nat} {i j : Int} {t u v z : Tok} {r : Int} (h0 : 0 ≤ i) (hj0 : 0 ≤ j) (hj : j ≤ l.length)
    (hr : (∃ k : Nat, r = k ∧ i ≤ k ∧ (k : Int) < j ∧ l[k]? = some c ∧ ∀ n : Nat, i ≤ n → n < k → l[n]? ≠ some c) ∨ (r = -1 ∧ ∀ n : Nat, i ≤ n → (n : Int) < j → l[n]? ≠ some c))
    (hq : ∀ t' k, Q (.int r t') { s with toks := k }) : wpAny (model prog w) A (call (.builtin "str.find") [.str (S l) t, .str (S [c]) u, .int i v, .int j z]) Q E s := by
  refine wpAny_call_entry PySem.F.slot_str_find (typeIs_str _ _ _) PySem.F.entry_str_find ?_ (PySem.F.args_str_find_4 _ _ _ _)
  have e : ∀ {P : Fin → Shared → Prop} {E' : Value → Shared → Prop} {A' : Around} {s : Shared}, wpAny (model prog w) A' (match occurrences (S l) (S [c]) (max 0 (if i < 0 then i + (S l).length else i)).toNat (min (max 0 (if j < 0 then j + (S l).length else j)).toNat (S l).length) 1 with | k :: _ => retInt k | [] => (do rule "str.find.not-found"; retInt (-1))) P E' s → wpAny (model prog w) A' («str.find» ⟨[.str (S l) t, .str (S [c]) u, .int i v, .int j z], []⟩) P E' s := fun h => h
  refine e ?_
  rw [if_neg (by omega), if_neg (by omega)]
  have e1 : (max 0 i).toNat = i.toNat := by omega
  have e2 : min (max 0 j).toNat (S l).length = j.toNat := by rw [S_len]; omega
  rw [e1, e2]
  rcases hr with ⟨k, rfl, h1, h2, h3, h4⟩ | ⟨rfl, h4⟩
  · obtain ⟨r, e3⟩ := occ_from_at (lo := i.toNat) (hi := j.toNat) (lim := 1) (Nat.le_refl 1) (by omega) (by omega) (by omega) h3 (fun n a b => h4 n (by omega) b)
    rw [e3]
    exact wpAny_bind (wpAny_mkInt (wpAny_pure ⟨_, rfl, hq _ _⟩))
  · have e3 := occ_from_none (lo := i.toNat) (hi := j.toNat) (lim := 1) (Nat.le_refl 1) (by omega) (fun n a b => h4 n (by omega) (by omega))
    rw [e3]
    exact wpAny_bind (wpAny_rule (wpAny_bind (wpAny_mkInt (wpAny_pure ⟨_, rfl, hq _ _⟩))))
theorem item_S {l : List Nat} {i : Int} {c : Nat} {t u : Tok} (h0 : 0 ≤ i) (hc : l[i.toNat]? = some c) (hz : l.length ≤ 1000) (h : ∀ t' k, Q (.str (S [c]) t') { s with toks := k }) : wpAny (model prog w) A (getItem (.str (S l) t) (.int i u)) Q E s := by
  have hi := (List.getElem?_eq_some_iff.mp hc).1
  refine getItem_str (by rw [decide_eq_false (by omega), decide_eq_false (by omega)]; rfl) ?_ (h _ _)
  have e : seqIndex? i (S l).length = some i.toNat := by
    unfold seqIndex?
    rw [S_len]
    (try dsimp only)
    have e1 : ¬ (i < 0) := by omega
    have e2 : i < (l.length : Int) := by omega
    simp [e1, e2, h0]
  rw [e]
  show l.toArray[i.toNat]? = some c
  simpa using hc
theorem item_S_last {l : List Nat} {c : Nat} {t u : Tok} (hc : l[l.length - 1]? = some c) (hz : l.length ≤ 1000) (h : ∀ t' k, Q (.str (S [c]) t') { s with toks := k }) : wpAny (model prog w) A (getItem (.str (S l) t) (.int (-1) u)) Q E s := by
  have hi := (List.getElem?_eq_some_iff.mp hc).1
  refine getItem_str (by decide) ?_ (h _ _)
  have e : seqIndex? (-1) (S l).length = some (l.length - 1) := by
    unfold seqIndex?
    rw [S_len]
    (try dsimp only)
    have e2 : (0 : Int) ≤ -1 + (l.length : Int) := by omega
    have e3 : (-1 + (l.length : Int)) < (l.length : Int) := by omega
    have e4 : (-1 + (l.length : Int)).toNat = l.length - 1 := by omega
    simp [e2, e3, e4]
  rw [e]
  show l.toArray[l.length - 1]? = some c
  simpa using hc
end
end Mine
end

section
open PySem PySem.W PyProof.Rows PySem.Calls
set_option maxRecDepth 100000
set_option maxHeartbeats 8000000
namespace Mine
theorem S_empty : Str.empty = S [] := rfl

theorem S_fits {l : List Nat} (hz : l.length ≤ 1000) : (S l).length ≤ sizeLine := by rw [S_len]; unfold sizeLine; omega

section
variable {prog : Program} {w : World} {A : Around} {E : Value → Shared → Prop} {s : Shared} {Q : Value → Shared → Prop} {h₀ : Heap} {L : Addr} {m : Str → Option Value} {news : List (Addr × Obj)}
theorem field_S {l : List Nat} {t : Tok} (hz : l.length ≤ 1000) (h : ∀ t' k, Q (.str (S l) t') { s with toks := k }) : wpAny (model prog w) A (formatField (.str (S l) t) Str.empty) Q E s :=
  SB.field_str h (S_fits hz)
theorem add_S {a b : List Nat} {x y : Str} {t u : Tok} (hx : x = S a) (hy : y = S b) (ha : a.length ≤ 1000) (hb : b.length ≤ 1000) (h : ∀ t' k, Q (.str (S (a ++ b)) t') { s with toks := k }) : wpAny (model prog w) A (binaryOp .Add (.str x t) (.str y u)) Q E s := by
  subst hx hy
  refine add_str (fun t' tk => ?_) (by rw [S_len, S_len]; unfold sizeLine; omega)
  rw [S_app]; exact h t' tk
theorem slice_S_sn {value slice : PySem.Expr} {l r : List Nat} {t : Tok} {i : Int} {ui : Tok} (hr : l.drop i.toNat = r) (hF : Fr h₀ L s.heap m) (hN : News h₀ L s.heap news) (h0 : 0 ≤ i) (h1 : i ≤ l.length) (hz : l.length ≤ 1000) (h : ∀ h' t' k, Fr h₀ L h' m → News h₀ L h' news → Q (.str (S r) t') { s with heap := h', toks := k })
    (hs : subscripted slice false (.str (S l) t) (.ref s.heap.objs.size) = operate [.ref s.heap.objs.size, .str (S l) t] (getItem (.str (S l) t) (.ref s.heap.objs.size)) := by with_unfolding_all rfl)
    (ht : ∀ r, letTemporaryGo value (.str (S l) t) r = pure () := by intro _; with_unfolding_all rfl) :
    wpAny (model prog w) A (subscriptTail value slice (.str (S l) t) (.ref s.heap.objs.size)) Q E { s with heap := s.heap.push { cls := .type "slice", data := .fields #[.int i ui, .none, .none] } } :=
  slice_strN_sn hF hN (fun h' t' k a b => by rw [S_from h0 h1, hr]; exact h h' t' k a b) hs ht (S_fits hz)
theorem slice_S_ss {value slice : PySem.Expr} {l r : List Nat} {t : Tok} {i j : Int} {ui uj : Tok} (hr : (l.drop i.toNat).take (j - i).toNat = r) (hF : Fr h₀ L s.heap m) (hN : News h₀ L s.heap news) (h0 : 0 ≤ i) (h1 : i ≤ j) (h2 : j ≤ l.length) (hz : l.length ≤ 1000) (h : ∀ h' t' k, Fr h₀ L h' m → News h₀ L h' news → Q (.str (S r) t') { s with heap := h', toks := k })
    (hs : subscripted slice false (.str (S l) t) (.ref s.heap.objs.size) = operate [.ref s.heap.objs.size, .str (S l) t] (getItem (.str (S l) t) (.ref s.heap.objs.size)) := by with_unfolding_all rfl)
    (ht : ∀ r, letTemporaryGo value (.str (S l) t) r = pure () := by intro _; with_unfolding_all rfl) :
    wpAny (model prog w) A (subscriptTail value slice (.str (S l) t) (.ref s.heap.objs.size)) Q E { s with heap := s.heap.push { cls := .type "slice", data := .fields #[.int i ui, .int j uj, .none] } } :=
  slice_strN_ss hF hN (fun h' t' k a b => by rw [S_cut h0 h1 h2, hr]; exact h h' t' k a b) hs ht (S_fits hz)
/-- up to the last sign but one -/
theorem slice_S_ns1 {value slice : PySem.Expr} {l r : List Nat} {t : Tok} {uj : Tok} (hr : l.take (l.length - 1) = r) (hF : Fr h₀ L s.heap m) (hN : News h₀ L s.heap news) (h2 : 1 ≤ l.length) (hz : l.length ≤ 1000) (h : ∀ h' t' k, Fr h₀ L h' m → News h₀ L h' news → Q (.str (S r) t') { s with heap := h', toks := k })
    (hs : subscripted slice false (.str (S l) t) (.ref s.heap.objs.size) = operate [.ref s.heap.objs.size, .str (S l) t] (getItem (.str (S l) t) (.ref s.heap.objs.size)) := by with_unfolding_all rfl)
    (ht : ∀ r, letTemporaryGo value (.str (S l) t) r = pure () := by intro _; with_unfolding_all rfl) :
    wpAny (model prog w) A (subscriptTail value slice (.str (S l) t) (.ref s.heap.objs.size)) Q E { s with heap := s.heap.push { cls := .type "slice", data := .fields #[.none, .int (-1) uj, .none] } } :=
  slice_strN_ns hF hN (fun h' t' k a b => by
    have e := S_to_neg (l := l) (j := 1) (by decide) (by omega)
    rw [show ((l.length : Int) - 1).toNat = l.length - 1 by omega] at e
    rw [e, hr]; exact h h' t' k a b) hs ht (S_fits hz)
theorem join_S {env : Env} {x : Str} {l : List Nat} (hx : x = S l) (hz : l.length ≤ 1000) (h : ∀ t' k, Q (.str (S l) t') { s with toks := k }) : wpAny (model prog w) A (joinParts x (evalEach [] env)) Q E s := by
  subst hx
  exact joinParts_nilE (joinParts_nil (h _ _) (S_fits hz))
theorem in_S {l : List Nat} {c : Nat} {y : Str} {t u : Tok} {b : Bool} (hy : y = S [c]) (hb : l.contains c = b) (h : Q (.bool b) s) : wpAny (model prog w) A (compareOp .In (.str y u) (.str (S l) t)) Q E s := by
  subst hy
  refine in_str ?_
  rw [occ_in, Bool.not_not, hb]; exact h
theorem notIn_S {l : List Nat} {c : Nat} {y : Str} {t u : Tok} {b : Bool} (hy : y = S [c]) (hb : (!l.contains c) = b) (h : Q (.bool b) s) : wpAny (model prog w) A (compareOp .NotIn (.str y u) (.str (S l) t)) Q E s := by
  subst hy
  refine notIn_str ?_
  rw [occ_in, Bool.not_not, hb]; exact h
theorem sub_L {value slice : PySem.Expr} {l : Addr} {vs : List Value} {n : Nat} {i : Int} {u : Tok} {v : Value} (N : News h₀ L s.heap news) (hm : (l, listOf vs.toArray n) ∈ news) (h0 : 0 ≤ i) (hc : vs[i.toNat]? = some v) (hz : i ≤ 1000) (h : Q v s)
    (hs : subscripted slice false (.ref l) (.int i u) = operate [.ref l, .int i u] (getItem (.ref l) (.int i u)) := by with_unfolding_all rfl) :
    wpAny (model prog w) A (subscriptTail value slice (.ref l) (.int i u)) Q E s := by
  have hl := News.isList N hm
  exact tail_any hl.typeIs PySem.F.slot_list_getitem.lookup (wpAny_getItem_list hl h0 (by omega) (by simpa using hc) h) hs
theorem gt_S {a b : Nat} {t u : Tok} {r : Bool} (hr : decide (b < a) = r) (h : Q (.bool r) s) : wpAny (model prog w) A (compareOp .Gt (.str (S [a]) t) (.str (S [b]) u)) Q E s := by
  refine P.gt_str ?_
  have e : decide ((S [b]).cps.toList < (S [a]).cps.toList) = decide (b < a) := by
    show decide ([b] < [a]) = decide (b < a)
    have : ([b] < [a]) ↔ b < a := by simp [List.cons_lt_cons_iff]
    exact decide_eq_decide.mpr this
  first
    | (rw [hr] at e; exact (show Q (.bool (decide ((S [b]).cps.toList < (S [a]).cps.toList))) s from e ▸ h))
theorem set_2nd {D : Addr} {vs : List Value} {n : Nat} {k : Int} {t : Tok} {v : Value} {p₁ : Addr × Obj} {rest : List (Addr × Obj)} {Q : Unit → Shared → Prop} (F : Fr h₀ L s.heap m) (N : News h₀ L s.heap (p₁ :: (D, listOf vs.toArray n) :: rest)) (h1 : p₁.1 ≠ D) (hap : ∀ p ∈ rest, p.1 ≠ D) (h0 : 0 ≤ k) (hk : k < vs.length) (hz : k ≤ 1000)
    (h : ∀ h', Fr h₀ L h' m → News h₀ L h' (p₁ :: (D, listOf (vs.set k.toNat v).toArray n) :: rest) → Q () { s with heap := h' }) : wpAny (model prog w) A (setItem (.ref D) (.int k t) v) Q E s := by
  have z := N (D, listOf vs.toArray n) (.tail _ (.head _))
  refine ki_setAt z.1 h0 (by omega) (by simpa using hk) (h _ (F.change (Heap.SameBut.update ..) z.2.1 z.2.2) (ki_turn (pre := [p₁]) _ N (fun p hp => (List.mem_singleton.mp hp) ▸ h1) hap ?_ ?_))
  · show vs.toArray.setIfInBounds k.toNat v = (vs.set k.toNat v).toArray
    apply Array.toList_inj.mp
    simp
  · simp
end
end Mine
end

section
open PySem PySem.W PyProof.Rows
set_option maxRecDepth 100000
set_option maxHeartbeats 8000000
namespace Mine
/-- a contract whose call may make generators -/
noncomputable def SpecG (w : World) (f : Addr) (vs : List Value) (need : Nat) (news : List (Addr × Obj)) (Post : Value → List (Addr × Obj) → Prop) : Prop :=
  ∀ (dp un : Nat) (gd : Option (List Code)) (cn : Str) (cs : Scope) (a : Addr) (ccd : Value) (cl : List (Str × Addr)) (outer : List Env) (A₀ : Around) (base h₀ : Heap) (L : Addr) (m : Str → Option Value) (s : Shared)
    (p : Program) (loose : List Str) (mean : ExcName → Option Value) (mg mb : Str → Option Value) (Q E : Value → Shared → Prop),
    Below A₀ base outer h₀ → Fr h₀ L s.heap m → (mk.heap_1 w.params).In h₀ → News h₀ L s.heap news → Top p loose mean mg mb h₀ → cs.kind = .function → dp + need < recursionLimit → un + 8 * need < cLine → AllBare s.gens →
    (∀ r news' s', Fr h₀ L s'.heap m → News h₀ L s'.heap news' → Post r news' → s'.os = s.os → AllBare s'.gens → Q r s') →
    wpAny (model PySem.Challenge.rw_in0279_01.row.toRowW.prog w) (ktrTop dp un gd cn cs L a ccd cl outer) (call (.ref f) vs) Q E s
theorem SpecG.use {w : World} {f : Addr} {vs : List Value} {need : Nat} {news : List (Addr × Obj)} {Post : Value → List (Addr × Obj) → Prop} (S : SpecG w f vs need news Post)
    {dp un : Nat} {gd : Option (List Code)} {cn : Str} {cs : Scope} {a : Addr} {ccd : Value} {cl : List (Str × Addr)} {outer : List Env} {A₀ : Around} {base h₀ : Heap} {L : Addr} {m : Str → Option Value} {s : Shared}
    {p : Program} {loose : List Str} {mean : ExcName → Option Value} {mg mb : Str → Option Value} {Q E : Value → Shared → Prop}
    (B : Below A₀ base outer h₀) (F : Fr h₀ L s.heap m) (X : (mk.heap_1 w.params).In h₀) (N : News h₀ L s.heap news) (T : Top p loose mean mg mb h₀) (hk : cs.kind = .function) (hd : dp + need < recursionLimit) (hu : un + 8 * need < cLine) (hg : AllBare s.gens)
    (ret : ∀ r news' s', Fr h₀ L s'.heap m → News h₀ L s'.heap news' → Post r news' → s'.os = s.os → AllBare s'.gens → Q r s') :
    wpAny (model PySem.Challenge.rw_in0279_01.row.toRowW.prog w) (ktrTop dp un gd cn cs L a ccd cl outer) (call (.ref f) vs) Q E s :=
  S _ _ _ _ _ _ _ _ _ _ _ _ _ _ _ _ _ _ _ _ _ _ B F X N T hk hd hu hg ret
/-- a place of a pattern -/
inductive Pl
  | sign (c : Nat)
  | any
  | rng (neg : Bool) (a b : Nat)
noncomputable def Pl.ok : Pl → Prop
  | .sign c => 97 ≤ c
  | .any => True
  | .rng _ a b => 97 ≤ a ∧ 97 ≤ b
noncomputable def negL (b : Bool) : List Nat := if b then [33] else []
noncomputable def Pl.pat : Pl → List Nat
  | .sign c => [c]
  | .any => [63]
  | .rng n a b => 91 :: (negL n ++ [a, 45, b, 93])
noncomputable def Pl.tr : Pl → List Nat
  | .sign c => escP c
  | .any => [46]
  | .rng n a b => if a ≤ b then 91 :: ((if n then [94] else []) ++ esc [a, 45, b] ++ [93]) else if n then [46] else [40, 63, 33, 41]
noncomputable def flatP (ps : List Pl) : List Nat := ps.flatMap Pl.pat
theorem getApp_N {prog : Program} {w : World} {A : Around} {E : Value → Shared → Prop} {s : Shared} {h₀ : Heap} {L a : Addr} {m : Str → Option Value} {news : List (Addr × Obj)} {its : Array Value} {n : Nat} {Q : Value → Shared → Prop}
    (F : Fr h₀ L s.heap m) (N : News h₀ L s.heap news) (hm : (a, listOf its n) ∈ news) (h : ∀ u h' tk, Fr h₀ L h' m → News h₀ L h' ((u, bndO a) :: news) → (∀ p ∈ news, p.1 < u) → Q (.ref u) { s with heap := h', toks := tk }) :
    wpAny (model prog w) A (getAttr (.ref a) "append" true) Q E s :=
  getApp (N _ hm).1 fun tk => h _ _ tk (F.push _) (News.push F N _) fun p hp => Heap.lt_size (N p hp).1
theorem BndAt.of {h₀ h : Heap} {L u l : Addr} {news : List (Addr × Obj)} (N : News h₀ L h news) (hm : (u, bndO l) ∈ news) : BndAt u l h := (N _ hm).1

/-- append through the bound method, the list right behind it on the ledger -/
theorem call_bndL {prog : Program} {w : World} {A : Around} {E : Value → Shared → Prop} {h₀ : Heap} {s : Shared} {L u l : Addr} {m : Str → Option Value} {Q : Value → Shared → Prop} {pre post : List (Addr × Obj)} {vs : List Value} {n : Nat} {v : Value} (F : Fr h₀ L s.heap m) (N : News h₀ L s.heap (pre ++ (u, bndO l) :: (l, listOf vs.toArray n) :: post)) (hp : ∀ p ∈ pre, p.1 ≠ l) (hu : u ≠ l) (hq : ∀ p ∈ post, p.1 ≠ l)
    (h : ∀ h', Fr h₀ L h' m → News h₀ L h' (pre ++ (u, bndO l) :: (l, listOf (vs ++ [v]).toArray (n + 1)) :: post) → Q .none { s with heap := h' }) (hsz : vs.length ≤ 1000) :
    wpAny (model prog w) A (call (.ref u) [v]) Q E s := by
  have ap : ∀ {pre : List (Addr × Obj)} {r r' : List (Addr × Obj)} {o o' : Obj}, Upd l o o' r r' → (∀ p ∈ pre, p.1 ≠ l) → Upd l o o' (pre ++ r) (pre ++ r') := by
    intro pre
    induction pre with
    | nil => intro _ _ _ _ U _; exact U
    | cons q pre ih => intro _ _ _ _ U h; exact .tail (h q (.head _)) (ih U fun p hp => h p (.tail _ hp))
  refine call_bnd F N (List.mem_append_right _ (.head _)) (ap (.tail hu (.head hq)) hp) (fun h' F' N' => ?_) (by unfold sizeLine; simp; omega)
  have e : vs.toArray.push v = (vs ++ [v]).toArray := by simp
  rw [e] at N'
  exact h h' F' N'
section
variable {prog : Program} {w : World} {A : Around} {E : Value → Shared → Prop} {s : Shared} {Q : Value → Shared → Prop}
theorem sub_S {value slice : PySem.Expr} {l : List Nat} {i : Int} {c : Nat} {t u : Tok} (h0 : 0 ≤ i) (hc : l[i.toNat]? = some c) (hz : l.length ≤ 1000) (h : ∀ t' k, Q (.str (S [c]) t') { s with toks := k })
    (hs : subscripted slice false (.str (S l) t) (.int i u) = operate [.str (S l) t, .int i u] (getItem (.str (S l) t) (.int i u)) := by with_unfolding_all rfl) :
    wpAny (model prog w) A (subscriptTail value slice (.str (S l) t) (.int i u)) Q E s :=
  tail_any (typeIs_str _ _ _) PyProof.Rows.slot_str_getitem.lookup (item_S h0 hc hz h) hs
theorem sub_S_last {value slice : PySem.Expr} {l : List Nat} {c : Nat} {t u : Tok} (hc : l[l.length - 1]? = some c) (hz : l.length ≤ 1000) (h : ∀ t' k, Q (.str (S [c]) t') { s with toks := k })
    (hs : subscripted slice false (.str (S l) t) (.int (-1) u) = operate [.str (S l) t, .int (-1) u] (getItem (.str (S l) t) (.int (-1) u)) := by with_unfolding_all rfl) :
    wpAny (model prog w) A (subscriptTail value slice (.str (S l) t) (.int (-1) u)) Q E s :=
  tail_any (typeIs_str _ _ _) PyProof.Rows.slot_str_getitem.lookup (item_S_last hc hz h) hs
theorem len_S {l : List Nat} {t : Tok} (hz : l.length ≤ 1000) (h : ∀ t' k, Q (.int l.length t') { s with toks := k }) : wpAny (model prog w) A (call (.builtin "len") [.str (S l) t]) Q E s :=
  len_str (by rw [S_len]; omega) (by rw [S_len]; exact h _ _)
theorem eq_no {a b : List Nat} {y : Str} {t u : Tok} (hy : y = S b) (hn : a ≠ b) (hq : Q (.bool false) s) : wpAny (model prog w) A (compareOp .Eq (.str (S a) t) (.str y u)) Q E s := by
  refine eq_str ?_
  rw [hy, S_eq, beq_false_of_ne hn]; exact hq
theorem eq_yes {a b : List Nat} {y : Str} {t u : Tok} (hy : y = S b) (hn : a = b) (hq : Q (.bool true) s) : wpAny (model prog w) A (compareOp .Eq (.str (S a) t) (.str y u)) Q E s := by
  refine eq_str ?_
  rw [hy, S_eq, hn, beq_self_eq_true]; exact hq
theorem ne_no {a b : List Nat} {y : Str} {t u : Tok} (hy : y = S b) (hn : a ≠ b) (hq : Q (.bool true) s) : wpAny (model prog w) A (compareOp .NotEq (.str (S a) t) (.str y u)) Q E s := by
  refine ne_str ?_
  rw [hy, bne, S_eq, beq_false_of_ne hn]; exact hq
theorem ne_yes {a b : List Nat} {y : Str} {t u : Tok} (hy : y = S b) (hn : a = b) (hq : Q (.bool false) s) : wpAny (model prog w) A (compareOp .NotEq (.str (S a) t) (.str y u)) Q E s := by
  refine ne_str ?_
  rw [hy, bne, S_eq, hn, beq_self_eq_true]; exact hq
theorem one_ne {a b : Nat} (h : a ≠ b) : [a] ≠ [b] := fun e => h (by injection e)

theorem at_idx {l : List Nat} {i j : Int} {c : Nat} (h : l[i.toNat]? = some c) (e : j = i) : l[j.toNat]? = some c := e ▸ h

end
@[irreducible] noncomputable def NextJ (J : Nat → Shared → Prop) (n : Nat) (s : Shared) : Prop := ∃ n', n' < n ∧ J n' s
theorem NextJ.mk {J : Nat → Shared → Prop} {n n' : Nat} {s : Shared} (h : n' < n) (hJ : J n' s) : NextJ J n s := by unfold NextJ; exact ⟨n', h, hJ⟩

theorem While_nx {prog : Program} {w : World} {A : Around} {E : Value → Shared → Prop} {Q : Flow → Shared → Prop} {s : Shared} {env : Env} {test : PySem.Expr} {body : List Stmt} {pos : Pos} (J : Nat → Shared → Prop) {n₀ : Nat} (hJ : J n₀ s)
    (turn : ∀ n s', J n s' → wpAny (model prog w) A (isTrue test env (eval test env)) (fun b s₂ =>
        if b = true then wpAny (model prog w) A (execs body env) (fun f s₃ => match f with | .next | .cont => NextJ J n s₃ | .brk => Q .next s₃ | .ret v => Q (.ret v) s₃) E s₂ else Q .next s₂) E s')
    (hE : PassesOwn (model prog w) A env E := by passes_own) :
    wpAny (model prog w) A (exec (.While test body [] pos) env) Q E s := by
  refine While_own J hJ (fun n s' h => wpAny_mono (turn n s' h) (fun b s₂ h₂ => ?_) fun _ _ e => e) hE
  split at h₂
  · rename_i hb
    rw [if_pos hb]
    refine wpAny_mono h₂ (fun f s₃ h₃ => ?_) fun _ _ e => e
    unfold NextJ at h₃
    cases f <;> exact h₃
  · rename_i hb
    rw [if_neg hb]; exact h₂
end Mine
end

section
open PySem PySem.W PyProof.Rows PySem.Calls PySem.Spec
set_option maxRecDepth 100000
set_option maxHeartbeats 8000000
namespace Mine
section
variable {prog : Program} {w : World} {A : Around} {E : Value → Shared → Prop} {s : Shared} {h₀ : Heap} {L l c P : Addr} {m mg mb : Str → Option Value} {news news' : List (Addr × Obj)} {p : Program} {loose : List Str} {mean : ExcName → Option Value}
  {ts : List Str} {vs : List Value} {n : Nat} {cn : Str} {cs : Scope} {a : Addr}
/-- what the code of the genexp costs: the table may grow, and the ledger with it -/
noncomputable def CodeGen (prog : Program) (w : World) (A : Around) (env : Env) (pos : Pos) (scope : Scope) (h₀ : Heap) (L P : Addr) (m : Str → Option Value) (news : List (Addr × Obj)) (Tp : List (Addr × Obj) → Prop) : Prop :=
  ∀ (E : Value → Shared → Prop) (s₂ : Shared) (Q : Value → Shared → Prop), Fr h₀ L s₂.heap m → News h₀ L s₂.heap news →
    (∀ c' h₃ tk₃ news', Fr h₀ L h₃ m → News h₀ L h₃ news' → Tp news' → (∀ q ∈ news', ∃ r ∈ news, r.1 = q.1) → (∀ b o, b ≠ P → s₂.heap.get? b = some o → h₃.get? b = some o) → s₂.heap.objs.size ≤ h₃.objs.size → Q (.ref c') { s₂ with heap := h₃, toks := tk₃ }) →
    wpAny (model prog w) A (genexprCode env pos (env.qual ++ "<genexpr>") scope) Q E s₂
theorem codeGen_new {env : Env} {pos : Pos} {scope : Scope} {ps : Array Value} {pre post : List (Addr × Obj)} {Tp : List (Addr × Obj) → Prop} (hc : env.code = .ref c) (C : CodeHd h₀ c P) (hne : news = pre ++ (P, tabObj ps) :: post) (h1 : ∀ q ∈ pre, q.1 ≠ P) (h2 : ∀ q ∈ post, q.1 ≠ P) (ht : TriplesOk ps.toList) (hnf : codeAmong pos ps.toList = none)
    (hT : ∀ c' : Addr, Tp (pre ++ (P, tabObj (ps ++ #[rawInt pos.line, rawInt pos.col, .ref c'])) :: post)) : CodeGen prog w A env pos scope h₀ L P m news Tp := by
  subst hne
  intro E s₂ Q F N h
  have hm := N (P, tabObj ps) (List.mem_append_right _ (.head _))
  refine wpAny_genexprCodeX hc ((C.keeps F.keep).code hm.1 ht) ((C.keeps F.keep).tab hm.1) hnf fun c' h' tk hx hge hlt hcode hrec htab _ => ?_
  refine h c' h' tk (pre ++ (P, tabObj (ps ++ #[rawInt pos.line, rawInt pos.col, .ref c'])) :: post) ⟨F.ns.extBut hx hm.2.1.symm, fun b o e => hx b o (fun q => by rw [q, hm.2.2] at e; cases e) (F.keep b o e), F.above⟩ (fun q hq => ?_) (hT c') (fun q hq => ?_) hx (Nat.le_trans hge (Nat.le_of_lt hlt))
  · rcases List.mem_append.mp hq with hq | hq
    · have k := N q (List.mem_append_left _ hq)
      exact ⟨hx _ _ (h1 q hq) k.1, k.2⟩
    · rcases List.mem_cons.mp hq with rfl | hq
      · exact ⟨htab.2, hm.2⟩
      · have k := N q (List.mem_append_right _ (.tail _ hq))
        exact ⟨hx _ _ (h2 q hq) k.1, k.2⟩
  · rcases List.mem_append.mp hq with hq | hq
    · exact ⟨q, List.mem_append_left _ hq, rfl⟩
    · rcases List.mem_cons.mp hq with rfl | hq
      · exact ⟨(P, tabObj ps), List.mem_append_right _ (.head _), rfl⟩
      · exact ⟨q, List.mem_append_right _ (.tail _ hq), rfl⟩
theorem codeGen_hit {env : Env} {pos : Pos} {scope : Scope} {ps : Array Value} {c' : Addr} {Tp : List (Addr × Obj) → Prop} (hc : env.code = .ref c) (C : CodeHd h₀ c P) (hmem : (P, tabObj ps) ∈ news) (ht : TriplesOk ps.toList) (hf : codeAmong pos ps.toList = some (.ref c'))
    (hT : Tp news) : CodeGen prog w A env pos scope h₀ L P m news Tp := by
  intro E s₂ Q F N h
  have hm := N _ hmem
  exact wpAny_genexprCode_hit hc ((C.keeps F.keep).code hm.1 ht) hf (h c' s₂.heap s₂.toks news F N hT (fun q hq => ⟨q, hq, rfl⟩) (fun _ _ _ e => e) (Nat.le_refl _))
/-- a generator over the list of texts that gives them back as they are -/
theorem gen_L {env : Env} {elt : PySem.Expr} {y x : Str} {py px : Pos} {scope : Scope} {pos : Pos} {Q : Value → Shared → Prop} {Tp : List (Addr × Obj) → Prop}
    (F : Fr h₀ L s.heap m) (N : News h₀ L s.heap news) (T : Top p loose mean mg mb h₀) (hge0 : env.globals = mainGlobals) (hP : ∃ ps, (P, tabObj ps) ∈ news) (C : CodeGen prog w A env pos scope h₀ L P m news Tp) (hg : AllBare s.gens)
    (hh : A.handled = none) (hco : scope.isCoroutine = false) (hclos : closureFor scope env = pure []) (hcell : ∀ y ∈ scope.names, y.2 ≠ .cell) (h0 : scope.names.lookup (".0" : Str) = some NameKind.local)
    (hx : scope.names.lookup x = some .local) (hkind : scope.kind = .function) (hroom : A.depth < recursionLimit)
    (hiter : ∀ Q' : Value → Shared → Prop, Q' (.ref l) s → wpAny (model prog w) A (eval (.Name y py) env) Q' E s) (hl : (l, listOf vs.toArray n) ∈ news) (hi : StrsAre vs ts)
    (helt : ∀ (A' : Around) E' (C : Addr) (c' : Addr) (x' : Str) (t : Tok) (u : Shared) m₂, x' ∈ ts → u.heap.Ns C m₂ → m₂ x = some (.str x' t) → wpAny (model prog w) A' (eval elt (genEnv scope [] C (.ref c') builtinsNs env)) (fun y s₃ => (∃ t', y = .str x' t') ∧ Keeps u s₃) E' u)
    (hQ : ∀ a s₅ K news', Fr h₀ L s₅.heap m → News h₀ L s₅.heap news' → Tp news' → (∀ q ∈ news', q.1 ≤ K) → L ≤ K → AllBare s₅.gens → s₅.os = s.os → Gen prog w A K a ts.length (fun j v => ∃ u, v = .str (ts.getD j "") u) s₅ → Q (.ref a) s₅)
    (hs : ∀ v, genFold (.Name y py) env v = pure v) :
    wpAny (model prog w) A (eval (.GeneratorExp elt [⟨.Name x px, .Name y py, [], 0⟩] scope pos) env) Q E s := by
  have hL := N _ hl
  have hll : s.heap.IsList l vs.toArray := ⟨_, hL.1, rfl, n, rfl⟩
  have hlt : l < s.heap.objs.size := Heap.lt_size hL.1
  obtain ⟨K, hK⟩ : ∃ K, K + 1 = s.heap.objs.size := ⟨s.heap.objs.size - 1, Nat.succ_pred_eq_of_pos (Nat.lt_of_le_of_lt (Nat.zero_le _) hlt)⟩
  have hLK : L ≤ K := Nat.le_of_lt_succ (by rw [Nat.succ_eq_add_one, hK]; exact F.ns.lt)
  have hsz : vs.toArray.size = ts.length := by have := hi.length; simpa using this
  obtain ⟨psP, hPm⟩ := hP
  have hPP := N _ hPm
  have hlim : s.heap.NoLimit := T.nolimit.keeps F.keep
  refine wpAny_GeneratorExp_walksQD hh hco hclos hcell h0 hx hkind hroom (hiter _ ?_) hs
  refine wpAny_pyIter_list hll ?_
  refine ⟨hlim.push _, C _ _ _ (F.push _) (fun q hq => ⟨Heap.get?_push_of_some _ (N q hq).1, (N q hq).2⟩) fun c' h₃ tk₃ news' F₃ N₃ hTp hsub hx₃ hsz₃ => ?_⟩
  have hI3 : s.heap.objs.size < h₃.objs.size := by
    refine Nat.lt_of_lt_of_le ?_ hsz₃
    show s.heap.objs.size < (s.heap.push _).objs.size
    rw [Heap.size_push]; exact Nat.lt_succ_self _
  have hI : h₃.get? s.heap.objs.size = some _ := hx₃ _ _ (Nat.ne_of_gt (Heap.lt_size hPP.1)) (Heap.get?_push_size _ rfl)
  have hlP : l ≠ P := fun e => by
    have h1 := hL.1
    rw [e, hPP.1] at h1; cases h1
  have hl3 : h₃.get? l = some (listOf vs.toArray n) := hx₃ _ _ hlP (Heap.get?_push_of_some _ hL.1)
  have hlim3 : h₃.NoLimit := T.nolimit.keeps F₃.keep
  obtain ⟨bm, ob, b1, b2, b3, b4, b5, b6⟩ := T.bmain
  have hgs := T.g.keeps F₃.keep
  refine wpAny_builtinsFor (hge0 ▸ hgs) b1 b2 (F₃.keep _ _ b3) b4 b5 b6 ?_
  have hcw : cStatics ∉ [s.heap.objs.size] := fun hm => by
    obtain ⟨mc, hn, _⟩ := hlim
    have e := List.mem_singleton.mp hm
    exact absurd hn.lt (by rw [e]; exact Nat.lt_irrefl _)
  have hIl : l ≠ s.heap.objs.size := Nat.ne_of_lt hlt
  refine ⟨s.heap.objs.size, [s.heap.objs.size, l], [s.heap.objs.size], vs.toArray.size, _, _, (fun _ => true), (fun j v => ∃ u, v = .str (ts.getD j "") u), rfl, (fun A' hA => Walks.list hA _ _ hIl vs.toArray), ⟨⟨_, hI, rfl, rfl⟩, ⟨_, hl3, rfl, n, rfl⟩⟩, ?_, hlim3, hcw, ?_, ?_⟩
  · intro b hb
    rcases List.mem_cons.mp hb with rfl | hb
    · exact hI3
    · rcases List.mem_cons.mp hb with rfl | hb
      · exact Nat.lt_trans hlt hI3
      · cases hb
  · intro href hkeep
    refine ⟨fun A' E' i v s₂ m₂ _ _ _ _ _ _ _ => ?_, fun A' E' i v s₂ m₂ _ _ _ hv _ hns hmx _ => ?_⟩
    · exact wpAny_pure ⟨rfl, _, _, rfl, fun _ _ e => e⟩
    · have hv' : vs[i]? = some v := by simpa using hv
      have hlt' : i < ts.length := by rw [← hi.length]; exact (List.getElem?_eq_some_iff.mp hv').1
      obtain ⟨t, ht⟩ := hi.get i ts[i] (List.getElem?_eq_getElem hlt')
      rw [hv'] at ht
      have ev : v = .str ts[i] t := Option.some.inj ht
      refine wpAny_mono (helt A' E' _ c' ts[i] t s₂ m₂ (List.getElem_mem _) hns (ev ▸ hmx)) (fun y s₃ r => ⟨?_, r.2⟩) fun _ _ e => e
      obtain ⟨t', e⟩ := r.1
      exact ⟨t', by rw [e]; simp [List.getD_eq_getElem?_getD, hlt']⟩
  · intro a h₅ tk gs hgb hag hsz₅ hk₅ W hat
    have hpass : passing (fun _ => true) vs.toArray.size 0 = List.range ts.length := by
      rw [hsz]; simp [passing]
    have hpl : (passing (fun _ => true) vs.toArray.size 0).length = ts.length := by rw [hpass]; simp
    refine hQ a _ K news' (F₃.keeps hk₅) (fun q hq => ⟨hk₅ _ _ (N₃ q hq).1, (N₃ q hq).2⟩) hTp (fun q hq => ?_) hLK (hg.push hgb) rfl ?_
    · obtain ⟨r, hr, e⟩ := hsub q hq
      have := Heap.lt_size (N r hr).1
      rw [← e]
      exact Nat.le_of_lt_succ (by rw [Nat.succ_eq_add_one, hK]; exact this)
    · have X : Gen prog w A K a (passing (fun _ => true) vs.toArray.size 0).length (fun j y => ∃ i, (passing (fun _ => true) vs.toArray.size 0)[j]? = some i ∧ ∃ u, y = .str (ts.getD i "") u) { s with heap := h₅, gens := s.gens.push gs, toks := tk } := by
        refine ⟨_, _, _, _, W, hat, (fun i s' st => st.1.typeIs), List.mem_cons_self, ?_, ?_⟩
        · intro b hb
          show b < h₅.objs.size
          rw [hsz₅]
          rcases List.mem_cons.mp hb with rfl | hb
          · exact Nat.lt_succ_self _
          · rcases List.mem_cons.mp hb with rfl | hb
            · exact Nat.lt_succ_of_lt hag
            · exact Nat.lt_succ_of_lt (Nat.lt_trans (List.mem_range.mp hb) hag)
        · intro b hb
          rcases List.mem_cons.mp hb with rfl | hb
          · exact Nat.lt_trans (Nat.lt_of_succ_le (Nat.le_of_eq hK)) hI3
          · rcases List.mem_cons.mp hb with rfl | hb
            · exact Nat.lt_of_succ_le (Nat.le_of_eq hK)
            · cases hb
      rw [hpl] at X
      refine X.imp fun j y hy => ?_
      obtain ⟨i, hi', u, e⟩ := hy
      rw [hpass] at hi'
      have hj : j < ts.length := by
        have := (List.getElem?_eq_some_iff.mp hi').1
        simpa using this
      have : i = j := by
        rw [List.getElem?_range hj] at hi'
        exact (Option.some.inj hi').symm
      exact ⟨u, by rw [e, this]⟩
theorem join_L {sep : Str} {t : Tok} {Q : Value → Shared → Prop} {K : Addr} (F : Fr h₀ L s.heap m) (N : News h₀ L s.heap news) (hN : ∀ q ∈ news, q.1 ≤ K) (hLK : L ≤ K) (hg : AllBare s.gens) (X : Gen prog w A K a ts.length (fun j v => ∃ u, v = .str (ts.getD j "") u) s)
    (hok : JoinOk sep ts = true) (hz : ts.length ≤ sizeLine) (hQ : ∀ s' t', Fr h₀ L s'.heap m → News h₀ L s'.heap news → AllBare s'.gens → s'.os = s.os → Q (.str (Txt.join sep ts) t') s') : wpAny (model prog w) A (call (.builtin "str.join") [.str sep t, .ref a]) Q E s := by
  have e : (List.range ts.length).map (fun j => ts.getD j "") = ts := range_getD ts ""
  refine join_rowsK F hg X hLK (fun j => ts.getD j "") (fun j v h => h) (by rw [e]; exact hok) (fun s' t' F' G' hos hk => ?_) hz
  rw [e]
  exact hQ s' t' F' (fun q hq => ⟨hk _ _ (hN q hq) (N q hq).1, (N q hq).2⟩) G' hos
end
end Mine
end

section
open PySem PySem.W PyProof.Rows PySem.Calls PySem.Spec
set_option maxRecDepth 100000
set_option maxHeartbeats 8000000
namespace Mine
noncomputable def posOfGen : PySem.Expr → Pos
  | .GeneratorExp _ _ _ p => p
  | _ => ⟨0, 0, 0, 0⟩
noncomputable def eltOfGen : PySem.Expr → PySem.Expr
  | .GeneratorExp e _ _ _ => e
  | e => e
noncomputable def scOfGen : PySem.Expr → Scope
  | .GeneratorExp _ _ sc _ => sc
  | _ => { kind := .function, names := [], isGenerator := false, isCoroutine := false }
noncomputable def callArg : PySem.Expr → PySem.Expr
  | .Call _ (a :: _) _ _ => a
  | e => e
noncomputable def asgVal : Stmt → PySem.Expr
  | .Assign _ v _ => v
  | _ => .Name ⟨#[]⟩ ⟨0, 0, 0, 0⟩
/-- the statements under `else` of `if '-' not in stuff` -/
noncomputable def chunkS : List Stmt := elseL (nthS rangeS 1)
noncomputable def genE : PySem.Expr := callArg (asgVal (nthS chunkS 6))
theorem lit_bs : Str.ofString "\\" = S [92] := by decide +kernel

theorem lit_da : Str.ofString "-" = S [45] := by decide +kernel

theorem replace_noL {prog : Program} {w : World} {A : Around} {E : Value → Shared → Prop} {s : Shared} {Q : Value → Shared → Prop} {l : List Nat} {c : Nat} {x y : Str} {t u v : Tok} (hx : x = S [c]) (h : c ∉ l) (hz : l.length ≤ 1000) (hq : Q (.str (S l) t) s) : wpAny (model prog w) A (call (.builtin "str.replace") [.str (S l) t, .str x u, .str y v]) Q E s := by
  subst hx; exact replace_no h hz hq
section
theorem elt_id {prog : Program} {w : World} {A : Around} {E : Value → Shared → Prop} {u : Shared} {env : Env} {C c' : Addr} {l : List Nat} {t : Tok} {m : Str → Option Value} (el : PySem.Expr) (sc : Scope) (he : el = eltOfGen genE) (hs : sc = scOfGen genE) (h1 : 92 ∉ l) (h2 : 45 ∉ l) (hz : l.length ≤ 1000) (hn : u.heap.Ns C m) (hm : m "s" = some (.str (S l) t)) :
    wpAny (model prog w) A (eval el (genEnv sc [] C (.ref c') builtinsNs env)) (fun y s₃ => (∃ t', y = .str (S l) t') ∧ Keeps u s₃) E u := by
  conv at he => rhs; whnf
  conv at hs => rhs; whnf
  subst he hs
  k_with_none
  w_top off
  k_with "om" => (first | decide | (with_reducible first | (refine neN ?_; first | (refine Nat.ne_of_lt ?_; first | ((repeat (first | assumption | exact om_k1 | refine Nat.lt_succ_of_lt ?_)); done) | (apply And.left; (iterate 18 (first | done | assumption | apply And.right)); done)) | (refine Nat.ne_of_gt ?_; first | ((repeat (first | assumption | exact om_k1 | refine Nat.lt_succ_of_lt ?_)); done) | (apply And.left; (iterate 18 (first | done | assumption | apply And.right)); done)) | (refine Ne.symm ?_; assumption) | (refine om_s ?_; omega)) | exact om_le (by assumption) rfl | exact om_ll (by assumption) rfl | exact om_lt (by assumption) rfl | exact om_lg (by assumption) rfl | exact om_r1 (by assumption) rfl | exact om_r2 (by assumption) rfl | exact om_r3 (by assumption) rfl | exact om_il (by assumption) rfl | exact om_ig (by assumption) rfl | exact om_tn (by assumption) rfl | exact om_tl (by assumption) rfl | exact om_nc (by assumption) rfl | exact Int.natCast_nonneg _ | exact Int.le_of_lt (by assumption)) | (law_clear; lia))
  k_with "execs cons" => ((first | (k_here; k_gentoks) | (refine wpAny_execs_cons ?_; k_fold; (try k_extra "mlet"))))
  k_with "stp" => (repeat' (first | (k_unfold; (try dsimp only)) | (k_end; wrow_close) | (walk1; (all_goals (try dsimp only))) | (dsimp only; walk1) | (leave1; walk_say "STEP leave1"; try dsimp only) | fail "no step"))
  k_with "spliced" => (k_dflt (first | ((with_reducible show wpAny _ _ (spliced (backTo _ (starEach [_] _))) _ _ _); refine sp1 ?_) | ((with_reducible show wpAny _ _ (spliced (backTo _ (starEach [_, _] _))) _ _ _); refine sp2 ?_) | ((with_reducible show wpAny _ _ (spliced (backTo _ (starEach [_, _, _] _))) _ _ _); refine sp3 ?_)))
  k_with "eval Name" => ((k_dflt (refine' ldG ?w9a ?w9b ?_ ?w9c ?w9d ?w9e; (case w9a => with_reducible assumption); (case w9b => with_reducible assumption); (case w9c => rfl); (case w9d => rfl); (case w9e => decide))))
  k_with "call builtin:str.replace" => ((k_dflt (first | (refine replace_noL lit_bs (by assumption) (by omega) ?_) | (refine replace_noL lit_da (by assumption) (by omega) ?_))))
  k_fill
  k_extra "stp"
  exact ⟨_, _, rfl, fun _ _ e => e⟩
end
end Mine
end

section
open PySem PySem.W PyProof.Rows
set_option maxRecDepth 100000
set_option maxHeartbeats 8000000
namespace Mine
noncomputable def posG : Pos := posOfGen genE
noncomputable def posL : Pos := (lamOf (nthS rangeS 2)).2.2.2
/-- the code table of _translate between two turns -/
inductive T2 : List (Addr × Obj) → Prop
  | fresh : T2 [(106, tabObj #[])]
  | made {cg : Addr} {c' : Addr} {oc : Obj} {vs : Array Value} {t : Tok} : oc.data = .fields vs → vs[1]? = some (.str lamQ t) → (106 : Nat) < c' →
      T2 [(106, tabObj #[rawInt posG.line, rawInt posG.col, .ref cg, rawInt posL.line, rawInt posL.col, .ref c']), (c', oc)]
structure TM (m : Str → Option Value) (l : List Nat) (St R U : Addr) (i : Nat) : Prop where
  pat : ∃ t, m "pat" = some (.str (S l) t)
  star : m "STAR" = some (.ref St)
  qm : ∃ t, m "QUESTION_MARK" = some (.str (S [46]) t)
  res : m "res" = some (.ref R)
  add : m "add" = some (.ref U)
  i : ∃ t, m "i" = some (.int i t)
  n : ∃ t, m "n" = some (.int l.length t)
@[irreducible] noncomputable def brS : List Stmt := thenL (nthS (elseL (nthS (elseL (nthS (thenL (subStmt 18 3)) 2)) 0)) 0)
@[irreducible] noncomputable def whT : Stmt := subStmt 18 3
inductive TJ (g' : Heap) (L' : Addr) (os : OsState) (l : List Nat) (St R U : Addr) (news : List (Addr × Obj)) (i : Nat) (res : List (List Nat)) (s' : Shared) : Prop
  | mk (m vs c tl) (zz0 : Fr g' L' s'.heap m) (zz1 : TM m l St R U i) (zz2 : News g' L' s'.heap ((U, bndO R) :: (R, listOf vs.toArray c) :: (tl ++ news))) (zz3 : T2 tl) (zz4 : StrsAre vs (res.map S)) (zz5 : s'.os = os) (zz6 : AllBare s'.gens) (zz7 : U ≠ R) (zz8 : (∀ p ∈ tl ++ news, p.1 ≠ R)) (zz9 : (106 : Nat) < R) (zz10 : (106 : Nat) < U) : TJ g' L' os l St R U news i res s'
theorem lit_star : Str.ofString "*" = S [42] := by decide +kernel

theorem lit_q : Str.ofString "?" = S [63] := by decide +kernel

theorem lit_br : Str.ofString "[" = S [91] := by decide +kernel

theorem lit_ex : Str.ofString "!" = S [33] := by decide +kernel

theorem lit_cl : Str.ofString "]" = S [93] := by decide +kernel

theorem flatP_len : ∀ ps : List Pl, ps.length ≤ (flatP ps).length
  | [] => Nat.le_refl _
  | p :: ps => by
    have h := flatP_len ps
    have h1 : 1 ≤ p.pat.length := by cases p <;> simp [Pl.pat]
    have h2 : (flatP (p :: ps)).length = p.pat.length + (flatP ps).length := by simp [flatP]
    simp only [List.length_cons]
    omega
/-- the table behind the genexp -/
inductive T12 : List (Addr × Obj) → Prop
  | gen {cg : Addr} : T12 [(106, tabObj #[rawInt posG.line, rawInt posG.col, .ref cg])]
  | made {cg : Addr} {c' : Addr} {oc : Obj} {vs : Array Value} {t : Tok} : oc.data = .fields vs → vs[1]? = some (.str lamQ t) → (106 : Nat) < c' →
      T12 [(106, tabObj #[rawInt posG.line, rawInt posG.col, .ref cg, rawInt posL.line, rawInt posL.col, .ref c']), (c', oc)]
theorem T2.mem {tl : List (Addr × Obj)} (h : T2 tl) : ∃ o, (106, o) ∈ tl := by cases h <;> exact ⟨_, .head _⟩

theorem T12.mem {tl : List (Addr × Obj)} (h : T12 tl) : ∃ ps, (106, tabObj ps) ∈ tl := by cases h <;> exact ⟨_, .head _⟩

theorem pos_ne : ¬ (posG.line = posL.line ∧ posG.col = posL.col) := by decide +kernel

theorem among_L0 (cg : Value) : codeAmong posL (#[rawInt posG.line, rawInt posG.col, cg] : Array Value).toList = none := by
  have h : ((posG.line : Int) == posL.line) = false := by decide +kernel
  simp [codeAmong, rawInt, h]
theorem among_L1 (cg : Value) (c' : Addr) : codeAmong posL (#[rawInt posG.line, rawInt posG.col, cg, rawInt posL.line, rawInt posL.col, .ref c'] : Array Value).toList = some (.ref c') := by
  have h : ((posG.line : Int) == posL.line) = false := by decide +kernel
  simp [codeAmong, rawInt, h]
theorem among_G (c' : Addr) (r : List Value) : codeAmong posG (rawInt posG.line :: rawInt posG.col :: .ref c' :: r) = some (.ref c') := by
  simp [codeAmong, rawInt]
theorem UpdF_pre {d : Addr} {o : Obj} {r : List (Addr × Obj)} (h2 : ∀ q ∈ r, q.1 ≠ d) : ∀ {pre : List (Addr × Obj)}, (∀ p ∈ pre, p.1 ≠ d) → UpdF d o (pre ++ (d, o) :: r) (fun o' => pre ++ (d, o') :: r)
  | [], _ => .head h2
  | q :: _, h => .tail (h q (.head _)) (UpdF_pre h2 fun p hp => h p (.tail _ hp))
section
variable {M : Model} {A : Around} {E : Value → Shared → Prop} {s : Shared} {h₀ : Heap} {L a c : Addr} {m mg mb : Str → Option Value} {cn : Str} {cs : Scope} {cl : List (Str × Addr)} {pre tl news : List (Addr × Obj)}
  {p : Program} {loose : List Str} {mean : ExcName → Option Value} {iP : Arguments} {iE : PySem.Expr} {iS : Scope} {firstLine : Nat}
theorem make_lam {Q : Value → Shared → Prop} (hiP : iP = (lamOf (nthS rangeS 2)).1) (hiE : iE = (lamOf (nthS rangeS 2)).2.1) (hiS : iS = (lamOf (nthS rangeS 2)).2.2.1)
    (F : Fr h₀ L s.heap m) (N : News h₀ L s.heap (pre ++ (tl ++ news))) (T : Top p loose mean mg mb h₀) (C : CodeHd h₀ c 106) (t1 : T12 tl) (hpre : ∀ p ∈ pre, (106 : Nat) < p.1) (hoff : ∀ q ∈ news, q.1 ≠ 106) (hcl : closureFor iS (envX cn cs L a (.ref c) cl) = pure [])
    (h : ∀ f fo tl' h' tk, Fr h₀ L h' m → News h₀ L h' ((f, fo) :: (pre ++ (tl' ++ news))) → T2 tl' → fo.cls = .type "function" → Lam f iP iE iS ((f, fo) :: (pre ++ (tl' ++ news))) → (∀ p ∈ pre ++ (tl' ++ news), p.1 < f) → (∀ r : Addr, (∀ q ∈ tl ++ news, q.1 ≠ r) → (∃ p ∈ pre, p.1 = r) → ∀ q ∈ tl' ++ news, q.1 ≠ r) → Q (.ref f) { s with heap := h', toks := tk }) :
    wpAny M A (makeFunction "<lambda>" lamQ iP (.expr iE) iS (envX cn cs L a (.ref c) cl) [] [] [] posL firstLine) Q E s := by
  cases t1 with
  | @gen cg =>
    refine kla_nest F N T C rfl (UpdF_pre hoff fun p hp => Nat.ne_of_gt (hpre p hp)) trivial (among_L0 (.ref cg)) hcl fun f c' oc vs t ctv h' tk F' N' hd hv l1 l2 => ?_
    have hsub : ∀ q ∈ (pre ++ ([(106, tabObj #[rawInt posG.line, rawInt posG.col, .ref cg, rawInt posL.line, rawInt posL.col, .ref c']), (c', oc)] ++ news)), q ∈ (c', oc) :: (pre ++ (106, tabObj (#[rawInt posG.line, rawInt posG.col, .ref cg] ++ #[rawInt posL.line, rawInt posL.col, .ref c'])) :: news) := by
      intro q hq
      rcases List.mem_append.mp hq with hq | hq
      · exact .tail _ (List.mem_append_left _ hq)
      · rcases List.mem_cons.mp hq with rfl | hq
        · exact .tail _ (List.mem_append_right _ (.head _))
        · rcases List.mem_cons.mp hq with rfl | hq
          · exact .head _
          · exact .tail _ (List.mem_append_right _ (.tail _ hq))
    have hlt : ∀ q ∈ (pre ++ ([(106, tabObj #[rawInt posG.line, rawInt posG.col, .ref cg, rawInt posL.line, rawInt posL.col, .ref c']), (c', oc)] ++ news)), q.1 ≤ c' := by
      intro q hq
      rcases List.mem_append.mp hq with hq | hq
      · exact Nat.le_of_lt (l1 q (List.mem_append_left _ hq))
      · rcases List.mem_cons.mp hq with rfl | hq
        · exact Nat.le_of_lt (l1 (106, tabObj #[rawInt posG.line, rawInt posG.col, .ref cg]) (List.mem_append_right _ (.head _)))
        · rcases List.mem_cons.mp hq with rfl | hq
          · exact Nat.le_refl _
          · exact Nat.le_of_lt (l1 q (List.mem_append_right _ (.tail _ hq)))
    refine h f (kla_obj "<lambda>" lamQ iP iE iS [] ((mg "__name__").getD .none) c' ctv) _ h' tk F' (cb_drop N' fun q hq => ?_) (.made hd hv (l1 (106, tabObj #[rawInt posG.line, rawInt posG.col, .ref cg]) (List.mem_append_right _ (.head _)))) rfl
      ⟨hiP, hiE, hiS, _, c', _, oc, vs, t, .head _, .tail _ (List.mem_append_right _ (.tail _ (.head _))), hd, hv⟩ (fun q hq => Nat.lt_of_le_of_lt (hlt q hq) l2) fun r hr hrp q hq => ?_
    · rcases List.mem_cons.mp hq with rfl | hq
      · exact .head _
      · exact .tail _ (hsub q hq)
    · rcases List.mem_cons.mp hq with rfl | hq
      · exact hr (106, tabObj #[rawInt posG.line, rawInt posG.col, .ref cg]) (.head _)
      · rcases List.mem_cons.mp hq with rfl | hq
        · obtain ⟨p, hp, rfl⟩ := hrp
          exact Nat.ne_of_gt (l1 p (List.mem_append_left _ hp))
        · exact hr q (.tail _ hq)
  | @made cg c' oc vs t hd hv hbg =>
    refine kla_hit (c' := c') F N T C rfl (List.mem_append_right _ (.head _)) trivial (among_L1 (.ref cg) c') hcl fun f ctv h' tk F' N' l1 => ?_
    exact h f (kla_obj "<lambda>" lamQ iP iE iS [] ((mg "__name__").getD .none) c' ctv) _ h' tk F' N' (.made hd hv hbg) rfl ⟨hiP, hiE, hiS, _, c', _, oc, vs, t, .head _, .tail _ (List.mem_append_right _ (.tail _ (.head _))), hd, hv⟩ l1 fun r hr _ => hr
end
end Mine
end

section
open PySem PySem.W PyProof.Rows
set_option maxRecDepth 100000
set_option maxHeartbeats 8000000
namespace Mine
noncomputable def scOfFd : Stmt → Scope
  | .FunctionDef _ _ _ _ _ _ sc .. => sc
  | _ => { kind := .function, names := [], isGenerator := false, isCoroutine := false }
noncomputable def topStmt (i : Nat) : Stmt := nthS PySem.Challenge.pw_in0279_01.main.body i
noncomputable def scT : Scope := scOfFd (topStmt 18)
@[irreducible] noncomputable def r6S : List Stmt := rangeS.drop 2
noncomputable def core (neg : Bool) (a b : Nat) : List Nat := if a ≤ b then negL neg ++ [a, 45, b] else negL neg
theorem lit_hat : Str.ofString "^" = S [94] := by decide +kernel

theorem lit_dot : Str.ofString "." = S [46] := by decide +kernel

theorem lit_fail : Str.ofString "(?!)" = S [40, 63, 33, 41] := by decide +kernel

theorem getm_sub {prog : Program} {w : World} {A : Around} {E : Value → Shared → Prop} {s : Shared} {pl : Sem Bool} {Q : Value × List Value → Shared → Prop} (e5 : s.heap.get? 85 = some patO) (h : Q (.builtin "re.Pattern.sub", [.ref 85]) s) : wpAny (model prog w) A (getMethod (.ref 85) "sub" pl) Q E s := by
  have hT : s.TypeIs (.ref 85) "re.Pattern" := ⟨_, e5, rfl⟩
  with_reducible exact getMethod_builtin hT plainAttrs_pat slot_sub type_sub (fun x e => by cases e; exact ⟨_, e5, rfl⟩) h
theorem sub_stuff {w : World} {dp un : Nat} {gd : Option (List Code)} {cn : Str} {cs : Scope} {ac : Addr} {ccd : Value} {cl : List (Str × Addr)} {outer : List Env} {A₀ : Around} {base h₀ : Heap} {L f : Addr} {m : Str → Option Value} {p : Program} {loose : List Str} {mean : ExcName → Option Value} {mg mb : Str → Option Value} {Q E : Value → Shared → Prop}
    {txt : List Nat} {tt : Tok} {rest : List (Addr × Obj)} {s : Shared} {fo : Obj} {iP : Arguments} {iE : PySem.Expr} {iS : Scope} (B : Below A₀ base outer h₀) (F : Fr h₀ L s.heap m) (X : (mk.heap_1 w.params).In h₀) (N : News h₀ L s.heap rest) (T : Top p loose mean mg mb h₀) (hk : cs.kind = .function) (hd : dp + 3 < recursionLimit) (hu : un + 8 * 3 + 1 < cLine) (hz : txt.length ≤ 1000)
    (hf : (f, fo) ∈ rest) (hfc : fo.cls = .type "function") (I : Lam f iP iE iS rest)
    (hQ : ∀ t h' tk', Fr h₀ L h' m → News h₀ L h' rest → Q (.str (S (esc txt)) t) { s with heap := h', toks := tk' }) :
    wpAny (model PySem.Challenge.rw_in0279_01.row.toRowW.prog w) (ktrTop dp un gd cn cs L ac ccd cl outer) (call (.builtin "re.Pattern.sub") [.ref 85, .ref f, .str (S txt) tt]) Q E s := by
  refine sub_call (need := 3) B F X N T hk hd hu (by simpa [S] using hz) hf hfc (fun P hP i hi _ a b vs c => lam1 w f iP iE iS rest I (S txt) tt i hi a b P vs c) fun t h' tk' F' N' => ?_
  exact hQ t h' tk' F' N'
theorem core_len (neg : Bool) (a b : Nat) : (core neg a b).length ≤ 4 := by unfold core negL; split <;> split <;> simp

theorem esc_cases {neg : Bool} {a b : Nat} (ha : 97 ≤ a) (hb : 97 ≤ b) : (esc (core neg a b)).length ≤ 8 ∧
    ((esc (core neg a b) = [] ∧ (Pl.rng neg a b).tr = [40, 63, 33, 41]) ∨ (esc (core neg a b) = [33] ∧ (Pl.rng neg a b).tr = [46]) ∨
    (∃ x r, esc (core neg a b) = x :: r ∧ x ≠ 33 ∧ x ≠ 94 ∧ x ≠ 91 ∧ (Pl.rng neg a b).tr = [91] ++ (x :: r) ++ [93]) ∨ (∃ r, esc (core neg a b) = 33 :: r ∧ r ≠ [] ∧ (Pl.rng neg a b).tr = [91] ++ ([94] ++ r) ++ [93])) := by
  have hlen := esc_len (core neg a b)
  have hcl := core_len neg a b
  refine ⟨by omega, ?_⟩
  have hx : ∃ x r, esc [a, 45, b] = x :: r ∧ x ≠ 33 ∧ x ≠ 94 ∧ x ≠ 91 := by
    by_cases h : hit a = true
    · exact ⟨92, a :: esc [45, b], by simp [esc, h], by decide, by decide, by decide⟩
    · exact ⟨a, esc [45, b], by simp [esc, h], by omega, by omega, by omega⟩
  have h33 : ∀ r, esc (33 :: r) = 33 :: esc r := fun r => by simp [esc, hit]
  obtain ⟨x, r, hx, h1, h2, h3⟩ := hx
  by_cases hab : a ≤ b
  · cases neg with
    | false => exact .inr (.inr (.inl ⟨x, r, by simp [core, hab, negL, hx], h1, h2, h3, by simp [Pl.tr, hab, hx]⟩))
    | true => exact .inr (.inr (.inr ⟨x :: r, by simp [core, hab, negL, h33, hx], by simp, by simp [Pl.tr, hab, hx]⟩))
  · cases neg with
    | false => exact .inl ⟨by simp [core, hab, negL, esc], by simp [Pl.tr, hab]⟩
    | true => exact .inr (.inl ⟨by (rw [show core true a b = 33 :: [] by simp [core, hab, negL], h33]; rfl), by simp [Pl.tr, hab]⟩)
theorem truthy_nil {prog : Program} {w : World} {A : Around} {E : Value → Shared → Prop} {s : Shared} {t : Tok} {Q : Bool → Shared → Prop} (h : ∀ k, Q false { s with toks := k }) : wpAny (model prog w) A (truthy (.str (S []) t)) Q E s :=
  P.truthy_str (by decide) (h _)
theorem truthy_cons {prog : Program} {w : World} {A : Around} {E : Value → Shared → Prop} {s : Shared} {x : Nat} {l : List Nat} {t : Tok} {Q : Bool → Shared → Prop} (hz : (x :: l).length ≤ 1000) (h : ∀ k, Q true { s with toks := k }) : wpAny (model prog w) A (truthy (.str (S (x :: l)) t)) Q E s := by
  refine P.truthy_str (by rw [S_len]; omega) ?_
  have e : (((S (x :: l)).length : Int) != 0) = true := by rw [S_len]; simp; omega
  rw [e]; exact h _
theorem hd_ne {x y : Nat} {r r' : List Nat} (h : x ≠ y) : x :: r ≠ y :: r' := fun e => h (by injection e)

theorem tl_ne {x : Nat} {r : List Nat} (h : r ≠ []) : x :: r ≠ [x] := fun e => h (by injection e)

section
theorem any_no {x : Nat} (h2 : x ≠ 94) (h3 : x ≠ 91) : ([Str.ofString "^", Str.ofString "["].any fun y => y == S [x]) = false := by
  rw [lit_hat, lit_br]
  simp [S_eq]
  exact ⟨fun e => h2 e.symm, fun e => h3 e.symm⟩
theorem in_tup_no {prog : Program} {w : World} {A : Around} {E : Value → Shared → Prop} {s : Shared} {l : Addr} {xs : List Str} {x : Str} {t : Tok} {Q : Value → Shared → Prop} {its : Array Value} (hl : IsTup s.heap l its) (hi : StrsAre its.toList xs) (hb : (xs.any fun y => y == x) = false) (h : Q (.bool false) s) : wpAny (model prog w) A (compareOp .In (.str x t) (.ref l)) Q E s := by
  refine in_tuple_strs hl hi ?_
  rw [hb]; exact h
theorem br6 (w : World) {dp un : Nat} {gd : Option (List Code)} {cn : Str} {cs : Scope} {ac : Addr} {ccd : Value} {cl : List (Str × Addr)} {outer : List Env} {base g' : Heap} {L L' : Addr} {m : Str → Option Value} {s : Shared}
    {p : Program} {loose : List Str} {mean : ExcName → Option Value} {mg mb : Str → Option Value} {E : Value → Shared → Prop} {Qf : Flow → Shared → Prop} {sc : Scope} (hsc : sc = scT)
    {l : List Nat} {St R U : Addr} {i e : Nat} {news tl : List (Addr × Obj)} {vs : List Value} {c : Nat} {res : List (List Nat)} {neg : Bool} {a b : Nat}
    (B' : Below (ktrTop dp un gd cn cs L ac ccd cl outer) base (envX cn cs L ac ccd cl :: outer) g') (X' : (mk.heap_1 w.params).In g') (T' : Top p loose mean mg mb g') (hd : dp + 30 < recursionLimit) (hu : un + 8 * 30 < cLine)
    (F : Fr g' L' s.heap m) (M : TM m l St R U i) (hj : ∃ t, m "j" = some (.int e t)) (hst : ∃ t, m "stuff" = some (.str (S (core neg a b)) t))
    (N : News g' L' s.heap ((U, bndO R) :: (R, listOf vs.toArray c) :: (tl ++ news))) (hT : T12 tl) (hV : StrsAre vs (res.map S)) (hg : AllBare s.gens) (hUR : U ≠ R) (hR : ∀ p ∈ tl ++ news, p.1 ≠ R) (hR1 : (106 : Nat) < R) (hU1 : (106 : Nat) < U) (hoff : ∀ q ∈ news, q.1 ≠ 106)
    (ha : 97 ≤ a) (hb : 97 ≤ b) (hz : l.length ≤ 500) (hrl : res.length ≤ 500)
    (hQ : ∀ s', TJ g' L' s.os l St R U news (e + 1) (res ++ [(Pl.rng neg a b).tr]) s' → Qf .next s') :
    wpAny (model PySem.Challenge.rw_in0279_01.row.toRowW.prog w) ((ktrTop dp un gd cn cs L ac ccd cl outer).deeper (envOf "_translate" sc L' 111 (.ref 110))) (execs r6S (envOf "_translate" sc L' 111 (.ref 110))) Qf
      (fun e s' => wpAny (model PySem.Challenge.rw_in0279_01.row.toRowW.prog w) ((ktrTop dp un gd cn cs L ac ccd cl outer).deeper (envOf "_translate" sc L' 111 (.ref 110))) (leaving (envOf "_translate" sc L' 111 (.ref 110)) e) (fun _ s'' => E e s'') (fun e' s'' => E e' s'') s') s := by
  conv at hsc => rhs; whnf
  subst hsc
  unfold r6S
  have hb6 : rangeS.drop 2 = rangeS.drop 2 := rfl
  conv at hb6 => rhs; whnf
  rw [hb6]
  clear hb6
  k_with_none
  w_top off
  k_with "om" => (first | decide | (with_reducible first | (refine neN ?_; first | (refine Nat.ne_of_lt ?_; first | ((repeat (first | assumption | exact om_k1 | refine Nat.lt_succ_of_lt ?_)); done) | (apply And.left; (iterate 18 (first | done | assumption | apply And.right)); done)) | (refine Nat.ne_of_gt ?_; first | ((repeat (first | assumption | exact om_k1 | refine Nat.lt_succ_of_lt ?_)); done) | (apply And.left; (iterate 18 (first | done | assumption | apply And.right)); done)) | (refine Ne.symm ?_; assumption) | (refine om_s ?_; omega)) | exact om_le (by assumption) rfl | exact om_ll (by assumption) rfl | exact om_lt (by assumption) rfl | exact om_lg (by assumption) rfl | exact om_r1 (by assumption) rfl | exact om_r2 (by assumption) rfl | exact om_r3 (by assumption) rfl | exact om_il (by assumption) rfl | exact om_ig (by assumption) rfl | exact om_tn (by assumption) rfl | exact om_tl (by assumption) rfl | exact om_nc (by assumption) rfl | exact Int.natCast_nonneg _ | exact Int.le_of_lt (by assumption)) | (law_clear; lia))
  k_with "execs cons" => ((first | (k_here; k_gentoks) | (refine wpAny_execs_cons ?_; k_fold; (try k_extra "mlet"))))
  k_with "stp" => (repeat' (first | (k_unfold; (try dsimp only)) | (k_end; wrow_close) | (walk1; (all_goals (try dsimp only))) | (dsimp only; walk1) | (leave1; walk_say "STEP leave1"; try dsimp only) | fail "no step"))
  k_with "spliced" => (k_dflt (first | ((with_reducible show wpAny _ _ (spliced (backTo _ (starEach [_] _))) _ _ _); refine sp1 ?_) | ((with_reducible show wpAny _ _ (spliced (backTo _ (starEach [_, _] _))) _ _ _); refine sp2 ?_) | ((with_reducible show wpAny _ _ (spliced (backTo _ (starEach [_, _, _] _))) _ _ _); refine sp3 ?_)))
  k_with "eval Name" => ((k_dflt (refine' ld ?w9k1 ?w9k2 ?_; (case w9k1 => k_asm); (case w9k2 => first | with_reducible assumption | exact rfl | assumption); k_whole)))
  k_with "eval Lambda" => ((k_dflt (refine' kla_eval ?w9d0 ?_; (case w9d0 => exact rfl))))
  k_with "callWith ref" => ((k_dflt (refine' callWith_bnd ?w9k1 ?_; (case w9k1 => exact BndAt.of (by k_asm) (by k_memK)); k_whole)))
  k_with "And" => (((with_reducible show BndAt _ _ _ ∧ _); k_dflt (refine ⟨BndAt.of (by k_asm) (by k_memK), ?_⟩); (try dsimp only [List.nil_append, List.cons_append])))
  k_with "getMethod ref" => (((with_reducible show wpAny _ _ (getMethod (Value.ref 85) _ _) _ _ _); k_dflt (refine' getm_sub ?w9e ?_; (case w9e => exact (Frag.In.keeps (by k_asm) (Fr.keep (by k_asm))) 85 patO (by kernel_rfl)))))
  k_with "truthy str" => ((first | (with_reducible refine truthy_nil ?_; intro kW9') | (with_reducible refine truthy_cons (by omega) ?_; intro kW9')))
  k_with "compareOp Eq str str" => ((k_dflt (first | (refine eq_yes lit_ex rfl ?_) | (refine eq_no lit_ex (hd_ne (by assumption)) ?_) | (refine eq_no lit_ex (tl_ne (by assumption)) ?_))))
  k_with "subscriptTail Name Constant str int" => ((k_dflt (refine' sub_S ?w9a ?w9b ?w9z ?_ ?w9e; (case w9a => decide); (case w9b => exact rfl); (case w9z => omega); (case w9e => with_unfolding_all rfl)); intro tW9' kW9'))
  k_with "formatField str" => ((k_dflt (refine field_S (by first | omega | (simp only [List.length_append, List.length_cons, List.length_nil] at *; omega)) ?_); intro tW9' kW9'))
  k_with "And" => (((with_reducible show Str.length _ ≤ sizeLine ∧ _); refine ⟨by (simp only [S_empty, lit_br, lit_cl, S_app]; exact S_fits (by simp only [List.length_append, List.length_cons, List.length_nil] at *; omega)), ?_⟩))
  k_with "compareOp In str ref" => ((with_unfolding_all refine' in_tup_no ?w9k1 ?w9k2 (any_no (by assumption) (by assumption)) ?_; (case w9k1 => exact News.isTup (by k_asm) (by news_mem)); (case w9k2 => kde_strs); k_whole))
  k_with "subscriptTail Name Slice str ref" => (k_dflt (refine' slice_S_sn (r := r) (s := ⟨_, _, _, _, _⟩) ?qr ?qF ?qN ?qa ?qb ?qz ?_ ?hs ?ht; (case qr => exact rfl); (case qF => k_asm); (case qN => k_asm); (case qa => decide); (case qb => (simp only [List.length_cons] at *; omega)); (case qz => omega); (case hs => with_unfolding_all rfl); (case ht => (intro _; with_unfolding_all rfl))); intro h' t' k' F' N')
  k_with "call ref" => (k_dflt (first
    | (refine' call_bndL (pre := []) ?qF ?qN (fun _ h => nomatch h) hUR hR2 ?_ hvl; (case qF => k_asm); (case qN => k_asm); intro h9 F9 N9)
    | (refine' call_bndL (pre := [_]) ?qF ?qN ?qp hUR hR2 ?_ hvl; (case qF => k_asm); (case qN => k_asm); (case qp => (intro q hq; cases List.mem_singleton.mp hq; have hq' := ‹_ ∧ R < _ ∧ AllLt _ _›; exact Nat.ne_of_gt hq'.2.1)); intro h9 F9 N9; replace N9 := cb_drop N9 (fun q hq => .tail _ hq))); dsimp only)
  k_with "binaryOp Add str str" => (k_dflt (refine add_S (b := r) lit_hat rfl (by decide) (by simp only [List.length_cons] at *; omega) ?_); intro t' k')
  k_with "joinParts" => (k_dflt (first | (refine join_S (l := [91] ++ (x :: r) ++ [93]) (by rw [S_empty, lit_br, lit_cl, S_app, S_app, S_app]; rfl) (by have hlq := hlen; simp only [List.length_append, List.length_cons, List.length_nil] at hlq ⊢; omega) ?_) | (refine join_S (l := [91] ++ ([94] ++ r) ++ [93]) (by rw [S_empty, lit_br, lit_cl, S_app, S_app, S_app]; rfl) (by have hlq := hlen; simp only [List.length_append, List.length_cons, List.length_nil] at hlq ⊢; omega) ?_)); intro t' k')
  revert X'
  k_fill
  intro X'
  have C0 : CodeHd g' 110 106 := codeHd_of_K X' (by kernel_rfl)
  obtain ⟨⟨tp, mpat⟩, mstar, ⟨tq, mqm⟩, mres, madd, ⟨ti, mi⟩, ⟨tn, mn⟩⟩ := M
  obtain ⟨tj, mj⟩ := hj
  obtain ⟨tst, mst⟩ := hst
  k_extra "stp"
  k_dflt (refine' make_lam (pre := [_, _]) ?p ?e ?s F N T' C0 hT ?pre hoff ?cl ?_; (case p => exact rfl); (case e => exact rfl); (case s => exact rfl);(case cl => exact rfl); (case pre => (intro q hq; simp only [List.mem_cons, List.not_mem_nil, or_false] at hq; rcases hq with rfl | rfl <;> assumption)))
  intro f fo tl' h1 tk1 F1 N1 hT1 hfc I1 hlt1 hR1'
  (try dsimp only)
  k_extra "stp"
  have hcl := core_len neg a b
  k_dflt (refine' sub_stuff ?B F1 X' N1 T' ?k ?d ?u ?z (.head _) hfc I1 ?_; (case B => k_asm); (case k => exact rfl); (case d => ktr_room); (case u => ktr_units); (case z => omega))
  intro t2 h2 tk2 F2 N2
  (try dsimp only)
  obtain ⟨hlen, hcs⟩ := esc_cases (neg := neg) ha hb
  generalize esc (core neg a b) = ce at hlen hcs ⊢
  have N2 : News g' L' h2 ((U, bndO R) :: (R, listOf vs.toArray c) :: (tl' ++ news)) := cb_drop N2 fun q hq => .tail _ hq
  have hR2 := hR1' R hR ⟨_, .tail _ (.head _), rfl⟩
  have hvl : vs.length ≤ 1000 := by
    have h1 := hV.length
    simp only [List.length_map] at h1
    omega
  rcases hcs with ⟨rfl, htr⟩ | ⟨rfl, htr⟩ | ⟨x, r, rfl, hx1, hx2, hx3, htr⟩ | ⟨r, rfl, hr, htr⟩
  · k_extra "stp"
    refine hQ _ ⟨_, vs ++ [_], _, tl', F9, ⟨⟨_, by assumption⟩, by assumption, ⟨_, by assumption⟩, by assumption, by assumption, ⟨_, rfl⟩, ⟨_, by assumption⟩⟩, N9, hT1, ?_, rfl, hg, hUR, hR2, hR1, hU1⟩
    rw [List.map_append, List.map_cons, List.map_nil, htr]
    exact strs_app hV (by first | exact .cons _ _ .nil | (rw [← lit_fail]; exact .cons _ _ .nil))
  · k_extra "stp"
    refine hQ _ ⟨_, vs ++ [_], _, tl', F9, ⟨⟨_, by assumption⟩, by assumption, ⟨_, by assumption⟩, by assumption, by assumption, ⟨_, rfl⟩, ⟨_, by assumption⟩⟩, N9, hT1, ?_, rfl, hg, hUR, hR2, hR1, hU1⟩
    rw [List.map_append, List.map_cons, List.map_nil, htr]
    exact strs_app hV (by first | exact .cons _ _ .nil | (rw [← lit_dot]; exact .cons _ _ .nil))
  · k_extra "stp"
    refine hQ _ ⟨_, vs ++ [_], _, tl', F9, ⟨⟨_, by assumption⟩, by assumption, ⟨_, by assumption⟩, by assumption, by assumption, ⟨_, rfl⟩, ⟨_, by assumption⟩⟩, N9, hT1, ?_, rfl, hg, hUR, hR2, hR1, hU1⟩
    rw [List.map_append, List.map_cons, List.map_nil, htr]
    exact strs_app hV (.cons _ _ .nil)
  · k_extra "stp"
    refine hQ _ ⟨_, vs ++ [_], _, tl', F9, ⟨⟨_, by assumption⟩, by assumption, ⟨_, by assumption⟩, by assumption, by assumption, ⟨_, rfl⟩, ⟨_, by assumption⟩⟩, N9, hT1, ?_, rfl, hg, hUR, hR2, hR1, hU1⟩
    rw [List.map_append, List.map_cons, List.map_nil, htr]
    exact strs_app hV (.cons _ _ .nil)
end
end Mine
end

section
open PySem PySem.W PyProof.Rows
set_option maxRecDepth 100000
set_option maxHeartbeats 8000000
namespace Mine
@[irreducible] noncomputable def joS : Stmt := nthS chunkS 6
noncomputable def itNm : PySem.Expr → PySem.Expr
  | .GeneratorExp _ (⟨_, it, _, _⟩ :: _) _ _ => it
  | e => e
theorem codeGen_T2 {prog : Program} {w : World} {A : Around} {env : Env} {sc : Scope} {h₀ : Heap} {L D : Addr} {m : Str → Option Value} {o1 o2 o3 : Obj} {U R : Addr} {news tl : List (Addr × Obj)} (hc : env.code = .ref 110) (C : CodeHd h₀ 110 106) (hT : T2 tl) (hoff : ∀ q ∈ news, q.1 ≠ 106) (hD : (106 : Nat) < D) (hU : (106 : Nat) < U) (hR : (106 : Nat) < R) :
    CodeGen prog w A env posG sc h₀ L 106 m ((D, o1) :: (U, o2) :: (R, o3) :: (tl ++ news)) (fun nw => ∃ tl', nw = (D, o1) :: (U, o2) :: (R, o3) :: (tl' ++ news) ∧ T12 tl' ∧ ∀ r : Addr, (∀ q ∈ tl ++ news, q.1 ≠ r) → ∀ q ∈ tl' ++ news, q.1 ≠ r) := by
  cases hT with
  | fresh =>
    refine codeGen_new (pre := [(D, o1), (U, o2), (R, o3)]) (ps := #[]) (post := news) hc C rfl (fun q hq => ?_) hoff trivial rfl fun c' => ⟨[(106, tabObj #[rawInt posG.line, rawInt posG.col, .ref c'])], rfl, .gen, fun r hr q hq => ?_⟩
    · simp only [List.mem_cons, List.not_mem_nil, or_false] at hq
      rcases hq with rfl | rfl | rfl
      · exact Nat.ne_of_gt hD
      · exact Nat.ne_of_gt hU
      · exact Nat.ne_of_gt hR
    · rcases List.mem_cons.mp hq with rfl | hq
      · exact hr (106, tabObj #[]) (.head _)
      · exact hr q (.tail _ hq)
  | @made cg c' oc vs t hd hv hbg =>
    refine codeGen_hit (ps := #[rawInt posG.line, rawInt posG.col, .ref cg, rawInt posL.line, rawInt posL.col, .ref c']) (c' := cg) hc C (.tail _ (.tail _ (.tail _ (.head _)))) trivial (among_G cg _) ⟨_, rfl, .made hd hv hbg, fun _ h => h⟩
section
theorem joT (w : World) {dp un : Nat} {gd : Option (List Code)} {cn : Str} {cs : Scope} {ac : Addr} {ccd : Value} {cl : List (Str × Addr)} {outer : List Env} {base g' : Heap} {L L' : Addr} {m : Str → Option Value} {s : Shared}
    {p : Program} {loose : List Str} {mean : ExcName → Option Value} {mg mb : Str → Option Value} {E : Value → Shared → Prop} {Qf : Flow → Shared → Prop} {sc : Scope} (hsc : sc = scT)
    {U R D : Addr} {news tl : List (Addr × Obj)} {vs cvs : List Value} {c cD : Nat} {ch : List (List Nat)}
    (B' : Below (ktrTop dp un gd cn cs L ac ccd cl outer) base (envX cn cs L ac ccd cl :: outer) g') (X' : (mk.heap_1 w.params).In g') (T' : Top p loose mean mg mb g') (hd : dp + 30 < recursionLimit)
    (F : Fr g' L' s.heap m) (hmch : m "chunks" = some (.ref D))
    (N : News g' L' s.heap ((D, listOf cvs.toArray cD) :: (U, bndO R) :: (R, listOf vs.toArray c) :: (tl ++ news))) (hT : T2 tl) (hV : StrsAre cvs (ch.map S)) (hg : AllBare s.gens) (hD1 : (106 : Nat) < D) (hR1 : (106 : Nat) < R) (hU1 : (106 : Nat) < U) (hoff : ∀ q ∈ news, q.1 ≠ 106)
    (hch : ∀ x ∈ ch, 92 ∉ x ∧ 45 ∉ x ∧ x.length ≤ 1000) (hok : JoinOk (Str.ofString "-") (ch.map S) = true) (hcl : ch.length ≤ 1000)
    (hQ : ∀ s' tl' t, Fr g' L' s'.heap (fun y => if y = Str.ofString "stuff" then some (.str (Txt.join (Str.ofString "-") (ch.map S)) t) else m y) → News g' L' s'.heap ((D, listOf cvs.toArray cD) :: (U, bndO R) :: (R, listOf vs.toArray c) :: (tl' ++ news)) → T12 tl' → (∀ r : Addr, (∀ q ∈ tl ++ news, q.1 ≠ r) → ∀ q ∈ tl' ++ news, q.1 ≠ r) → AllBare s'.gens → s'.os = s.os → Qf .next s') :
    wpAny (model PySem.Challenge.rw_in0279_01.row.toRowW.prog w) ((ktrTop dp un gd cn cs L ac ccd cl outer).deeper (envOf "_translate" sc L' 111 (.ref 110))) (exec joS (envOf "_translate" sc L' 111 (.ref 110))) Qf E s := by
  conv at hsc => rhs; whnf
  subst hsc
  have hbJ : joS = joS := rfl
  conv at hbJ => rhs; unfold joS; whnf
  rw [hbJ]
  clear hbJ
  k_with_none
  w_top off
  k_with "om" => (first | decide | (with_reducible first | (refine neN ?_; first | (refine Nat.ne_of_lt ?_; first | ((repeat (first | assumption | exact om_k1 | refine Nat.lt_succ_of_lt ?_)); done) | (apply And.left; (iterate 18 (first | done | assumption | apply And.right)); done)) | (refine Nat.ne_of_gt ?_; first | ((repeat (first | assumption | exact om_k1 | refine Nat.lt_succ_of_lt ?_)); done) | (apply And.left; (iterate 18 (first | done | assumption | apply And.right)); done)) | (refine Ne.symm ?_; assumption) | (refine om_s ?_; omega)) | exact om_le (by assumption) rfl | exact om_ll (by assumption) rfl | exact om_lt (by assumption) rfl | exact om_lg (by assumption) rfl | exact om_r1 (by assumption) rfl | exact om_r2 (by assumption) rfl | exact om_r3 (by assumption) rfl | exact om_il (by assumption) rfl | exact om_ig (by assumption) rfl | exact om_tn (by assumption) rfl | exact om_tl (by assumption) rfl | exact om_nc (by assumption) rfl | exact Int.natCast_nonneg _ | exact Int.le_of_lt (by assumption)) | (law_clear; lia))
  k_with "execs cons" => ((first | (k_here; k_gentoks) | (refine wpAny_execs_cons ?_; k_fold; (try k_extra "mlet"))))
  k_with "stp" => (repeat' (first | (k_unfold; (try dsimp only)) | (k_end; wrow_close) | (walk1; (all_goals (try dsimp only))) | (dsimp only; walk1) | (leave1; walk_say "STEP leave1"; try dsimp only) | fail "no step"))
  k_with "spliced" => (k_dflt (first | ((with_reducible show wpAny _ _ (spliced (backTo _ (starEach [_] _))) _ _ _); refine sp1 ?_) | ((with_reducible show wpAny _ _ (spliced (backTo _ (starEach [_, _] _))) _ _ _); refine sp2 ?_) | ((with_reducible show wpAny _ _ (spliced (backTo _ (starEach [_, _, _] _))) _ _ _); refine sp3 ?_)))
  k_with "eval Name" => ((k_dflt (refine' ld ?w9k1 ?w9k2 ?_; (case w9k1 => k_asm); (case w9k2 => first | with_reducible assumption | exact rfl | assumption); k_whole)))
  revert X'
  k_fill
  intro X'
  have C0 : CodeHd g' 110 106 := codeHd_of_K X' (by kernel_rfl)
  k_extra "stp"
  obtain ⟨ps9, hm9⟩ : ∃ ps, (106, tabObj ps) ∈ tl := by cases hT <;> exact ⟨_, .head _⟩
  have helt : ∀ (A' : Around) (E' : Value → Shared → Prop) (C c' : Addr) (x' : Str) (t : Tok) (u : Shared) (m₂ : Str → Option Value), x' ∈ ch.map S → u.heap.Ns C m₂ → m₂ "s" = some (.str x' t) →
      wpAny (model PySem.Challenge.rw_in0279_01.row.toRowW.prog w) A' (eval (eltOfGen genE) (genEnv (scOfGen genE) [] C (.ref c') builtinsNs (envOf "_translate" scT L' 111 (.ref 110)))) (fun y s₃ => (∃ t', y = .str x' t') ∧ Keeps u s₃) E' u := by
    intro A' E' C c' x' t u m₂ hx hn hm
    obtain ⟨l, hl, rfl⟩ := List.mem_map.mp hx
    obtain ⟨h1, h2, h3⟩ := hch l hl
    exact elt_id _ _ rfl rfl h1 h2 h3 hn hm
  k_dflt (refine' gen_L (ts := ch.map S) F N T' ?ge ⟨ps9, ?mm⟩ ?cg hg ?hh ?co ?clos ?cell ?h0 ?hx ?hk ?room ?iter (.head _) hV ?elt ?_ ?hs)
  case ge => exact rfl
  case cg => exact codeGen_T2 rfl C0 hT hoff hD1 hU1 hR1
  case mm => exact .tail _ (.tail _ (.tail _ (List.mem_append_left _ hm9)))
  case hh => exact rfl
  case co => exact rfl
  case clos => exact rfl
  case cell => decide
  case h0 => exact rfl
  case hx => exact rfl
  case hk => exact rfl
  case room => ktr_room
  case iter => intro Q' hq; exact ld F hmch hq
  case elt => exact helt
  case hs => intro _; exact rfl
  rintro a s5 K news' F5 N5 ⟨tl', rfl, hT5, hR5⟩ hK hLK hg5 hos5 hX
  (try dsimp only)
  k_extra "stp"
  refine join_L (ts := ch.map S) F5 N5 hK hLK hg5 hX hok (by rw [List.length_map]; unfold sizeLine; omega) fun s6 t6 F6 N6 hg6 hos6 => ?_
  k_extra "stp"
  exact hQ _ tl' _ (by k_asm) (by k_asm) hT5 hR5 hg6 (hos6.trans hos5)
end
end Mine
end

section
open PySem PySem.W PyProof.Rows
set_option maxRecDepth 100000
set_option maxHeartbeats 8000000
namespace Mine
@[irreducible] noncomputable def r5S : List Stmt := chunkS.drop 2
@[irreducible] noncomputable def foS : Stmt := nthS chunkS 5
@[irreducible] noncomputable def wtS : Stmt := nthS chunkS 2
theorem join_two (x y : List Nat) : Txt.join (Str.ofString "-") [S x, S y] = S (x ++ [45] ++ y) := by
  rw [lit_da]
  show Builtin.Str.glued (S [45]) [S x, S y] = _
  simp [Builtin.Str.glued, S]
theorem join_one (x : List Nat) : Txt.join (Str.ofString "-") [S x] = S x := by
  rw [lit_da]
  show Builtin.Str.glued (S [45]) [S x] = _
  simp [Builtin.Str.glued, S]
theorem ok_two {x y : List Nat} (hx : x.length ≤ 1000) (hy : y.length ≤ 1000) : JoinOk (Str.ofString "-") [S x, S y] = true := by
  rw [lit_da]
  unfold JoinOk Builtin.Str.tooLong sizeLine
  simp [S_len]
  omega
theorem ok_one {x : List Nat} (hx : x.length ≤ 1000) : JoinOk (Str.ofString "-") [S x] = true := by
  rw [lit_da]
  unfold JoinOk Builtin.Str.tooLong sizeLine
  simp [S_len]
  omega
section
theorem find4L {prog : Program} {w : World} {A : Around} {E : Value → Shared → Prop} {s : Shared} {Q : Value → Shared → Prop} {l : List Nat} {c : Nat} {x : Str} {i j : Int} {t u v z : Tok} {r : Int} (hx : x = S [c]) (h0 : 0 ≤ i) (hj0 : 0 ≤ j) (hj : j ≤ l.length)
    (hr : (∃ k : Nat, r = k ∧ i ≤ k ∧ (k : Int) < j ∧ l[k]? = some c ∧ ∀ n : Nat, i ≤ n → n < k → l[n]? ≠ some c) ∨ (r = -1 ∧ ∀ n : Nat, i ≤ n → (n : Int) < j → l[n]? ≠ some c))
    (hq : ∀ t' k, Q (.int r t') { s with toks := k }) : wpAny (model prog w) A (call (.builtin "str.find") [.str (S l) t, .str x u, .int i v, .int j z]) Q E s := by
  subst hx; exact find4 h0 hj0 hj hr hq
theorem last_neg (neg : Bool) (a : Nat) : (negL neg ++ [a])[(negL neg ++ [a]).length - 1]? = some a := by cases neg <;> rfl

theorem neg_len (neg : Bool) : (negL neg).length ≤ 1 := by cases neg <;> simp [negL]

theorem take_neg (neg : Bool) (a : Nat) : (negL neg ++ [a]).take ((negL neg ++ [a]).length - 1) = negL neg := by cases neg <;> rfl

theorem neg_len1 (neg : Bool) (a : Nat) : 1 ≤ (negL neg ++ [a]).length := by simp

theorem neg_len2 (neg : Bool) (a : Nat) : (negL neg ++ [a]).length ≤ 1000 := by have := neg_len neg; simp; omega

theorem br5 (w : World) {dp un : Nat} {gd : Option (List Code)} {cn : Str} {cs : Scope} {ac : Addr} {ccd : Value} {cl : List (Str × Addr)} {outer : List Env} {base g' : Heap} {L L' : Addr} {m : Str → Option Value} {s : Shared}
    {p : Program} {loose : List Str} {mean : ExcName → Option Value} {mg mb : Str → Option Value} {E : Value → Shared → Prop} {Qf : Flow → Shared → Prop} {sc : Scope} (hsc : sc = scT)
    {l : List Nat} {St R U D : Addr} {i k0 : Nat} {news tl : List (Addr × Obj)} {vs : List Value} {c cD : Nat} {res : List (List Nat)} {neg : Bool} {a b : Nat}
    (B' : Below (ktrTop dp un gd cn cs L ac ccd cl outer) base (envX cn cs L ac ccd cl :: outer) g') (X' : (mk.heap_1 w.params).In g') (T' : Top p loose mean mg mb g') (hd : dp + 30 < recursionLimit) (hu : un + 8 * 30 < cLine)
    (F : Fr g' L' s.heap m) (M : TM m l St R U i) (hj : ∃ t, m "j" = some (.int (k0 + 3 : Nat) t)) (hk : ∃ t, m "k" = some (.int (k0 + 1 : Nat) t)) (hch : m "chunks" = some (.ref D))
    (N : News g' L' s.heap ((D, listOf #[] cD) :: (U, bndO R) :: (R, listOf vs.toArray c) :: (tl ++ news))) (hT : T2 tl) (hV : StrsAre vs (res.map S)) (hg : AllBare s.gens) (hUR : U ≠ R) (hR : ∀ p ∈ tl ++ news, p.1 ≠ R) (hR1 : (106 : Nat) < R) (hU1 : (106 : Nat) < U) (hoff : ∀ q ∈ news, q.1 ≠ 106)
    (hDl : ∀ p ∈ (U, bndO R) :: (R, listOf vs.toArray c) :: (tl ++ news), p.1 < D)
    (ha : 97 ≤ a) (hb : 97 ≤ b) (hz : l.length ≤ 500) (hrl : res.length ≤ 500) (hik : i ≤ k0) (hkl : k0 + 4 ≤ l.length) (h45 : l[k0 + 1]? = some 45) (hs1 : (l.drop i).take (k0 + 1 - i) = negL neg ++ [a]) (hs2 : (l.drop (k0 + 2)).take 1 = [b])
    (hQ : ∀ s' m' tl' t i', Fr g' L' s'.heap m' → TM m' l St R U i' → (∃ t, m' "j" = some (.int (k0 + 3 : Nat) t)) → m' "stuff" = some (.str (S (core neg a b)) t) → News g' L' s'.heap ((U, bndO R) :: (R, listOf vs.toArray c) :: (tl' ++ news)) → T12 tl' → (∀ p ∈ tl' ++ news, p.1 ≠ R) → AllBare s'.gens → s'.os = s.os → Qf .next s') :
    wpAny (model PySem.Challenge.rw_in0279_01.row.toRowW.prog w) ((ktrTop dp un gd cn cs L ac ccd cl outer).deeper (envOf "_translate" sc L' 111 (.ref 110))) (execs r5S (envOf "_translate" sc L' 111 (.ref 110))) Qf
      (fun e s' => wpAny (model PySem.Challenge.rw_in0279_01.row.toRowW.prog w) ((ktrTop dp un gd cn cs L ac ccd cl outer).deeper (envOf "_translate" sc L' 111 (.ref 110))) (leaving (envOf "_translate" sc L' 111 (.ref 110)) e) (fun _ s'' => E e s'') (fun e' s'' => E e' s'') s') s := by
  conv at hsc => rhs; whnf
  subst hsc
  unfold r5S
  have hb5 : chunkS.drop 2 = chunkS.drop 2 := rfl
  conv at hb5 => rhs; whnf
  rw [hb5]
  clear hb5
  have hbJ : joS = joS := rfl
  conv at hbJ => rhs; unfold joS; whnf
  rw [← hbJ]
  have hbF : foS = foS := rfl
  conv at hbF => rhs; unfold foS; whnf
  rw [← hbF]
  have hch2 : ∀ x ∈ [negL neg ++ [a], [b]], 92 ∉ x ∧ 45 ∉ x ∧ x.length ≤ 1000 := by
    intro x hx
    have hn := neg_len neg
    simp only [List.mem_cons, List.not_mem_nil, or_false] at hx
    rcases hx with rfl | rfl
    · refine ⟨?_, ?_, by simp; omega⟩ <;> (cases neg <;> simp [negL] <;> omega)
    · refine ⟨?_, ?_, by simp⟩ <;> (simp; omega)
  have hch1 : ∀ x ∈ [negL neg], 92 ∉ x ∧ 45 ∉ x ∧ x.length ≤ 1000 := by
    intro x hx
    have hn := neg_len neg
    simp only [List.mem_cons, List.not_mem_nil, or_false] at hx
    subst hx
    refine ⟨?_, ?_, by omega⟩ <;> (cases neg <;> simp [negL])
  have key1 : ∀ t, StrsAre [Value.str (S (negL neg ++ [])) t] [S (negL neg)] := fun t => by rw [List.append_nil]; exact .cons _ _ .nil
  have hD1 : (106 : Nat) < D := Nat.lt_trans hU1 (hDl _ (.head _))
  have hDn : ∀ p ∈ (U, bndO R) :: (R, listOf vs.toArray c) :: (tl ++ news), p.1 ≠ D := fun p hp => Nat.ne_of_lt (hDl p hp)
  k_with_none
  w_top off
  k_with "om" => (first | decide | (with_reducible first | (refine neN ?_; first | (refine Nat.ne_of_lt ?_; first | ((repeat (first | assumption | exact om_k1 | refine Nat.lt_succ_of_lt ?_)); done) | (apply And.left; (iterate 18 (first | done | assumption | apply And.right)); done)) | (refine Nat.ne_of_gt ?_; first | ((repeat (first | assumption | exact om_k1 | refine Nat.lt_succ_of_lt ?_)); done) | (apply And.left; (iterate 18 (first | done | assumption | apply And.right)); done)) | (refine Ne.symm ?_; assumption) | (refine om_s ?_; omega)) | exact om_le (by assumption) rfl | exact om_ll (by assumption) rfl | exact om_lt (by assumption) rfl | exact om_lg (by assumption) rfl | exact om_r1 (by assumption) rfl | exact om_r2 (by assumption) rfl | exact om_r3 (by assumption) rfl | exact om_il (by assumption) rfl | exact om_ig (by assumption) rfl | exact om_tn (by assumption) rfl | exact om_tl (by assumption) rfl | exact om_nc (by assumption) rfl | exact Int.natCast_nonneg _ | exact Int.le_of_lt (by assumption)) | (law_clear; lia))
  k_with "execs cons" => ((first | (k_here; k_gentoks) | (refine wpAny_execs_cons ?_; k_fold; (try k_extra "mlet"))))
  k_with "stp" => (repeat' (first | (k_unfold; (try dsimp only)) | (k_end; wrow_close) | (walk1; (all_goals (try dsimp only))) | (dsimp only; walk1) | (leave1; walk_say "STEP leave1"; try dsimp only) | fail "no step"))
  k_with "spliced" => (k_dflt (first | ((with_reducible show wpAny _ _ (spliced (backTo _ (starEach [_] _))) _ _ _); refine sp1 ?_) | ((with_reducible show wpAny _ _ (spliced (backTo _ (starEach [_, _] _))) _ _ _); refine sp2 ?_) | ((with_reducible show wpAny _ _ (spliced (backTo _ (starEach [_, _, _] _))) _ _ _); refine sp3 ?_)))
  k_with "eval Name" => ((k_dflt (refine' ld ?w9k1 ?w9k2 ?_; (case w9k1 => k_asm); (case w9k2 => first | with_reducible assumption | exact rfl | assumption); k_whole)))
  k_with "truthy str" => ((first | (with_reducible refine truthy_nil ?_; intro kW9') | (with_reducible refine truthy_cons (by (simp only [List.length_cons, List.length_nil]; omega)) ?_; intro kW9')))
  k_with "getMethod ref" => (((with_reducible show wpAny _ _ (getMethod (Value.ref _) (PySem.Str.ofString "append") _) _ _ _); k_dflt (refine' kl_method ?w9N ?w9m PySem.F.slot_list_append PySem.F.type_list_append ?_; (case w9N => k_asm); (case w9m => k_memK))))
  k_with "subscriptTail Name BinOp ref int" => ((k_dflt (refine' sub_L ?w9qN ?w9qm ?w9qa ?w9qb ?w9qz ?_ ?w9qs; (case w9qN => k_asm); (case w9qm => k_memK); (case w9qa => decide); (case w9qb => exact rfl); (case w9qz => decide); (case w9qs => with_unfolding_all rfl))))
  k_with "subscriptTail Name Name ref int" => ((k_dflt (refine' sub_L ?w9qN ?w9qm ?w9qa ?w9qb ?w9qz ?_ ?w9qs; (case w9qN => k_asm); (case w9qm => k_memK); (case w9qa => decide); (case w9qb => exact rfl); (case w9qz => decide); (case w9qs => with_unfolding_all rfl))))
  k_with "subscriptTail" => (((with_reducible show wpAny _ _ (subscriptTail _ _ (Value.str (S (negL _ ++ [_])) _) (Value.int (-1) _)) _ _ _); k_dflt (refine' sub_S_last (last_neg _ _) ?w9qz ?_ ?w9qs; (case w9qz => (simp only [List.length_append, List.length_cons, List.length_nil]; have := neg_len; first | omega | exact Nat.le_trans (Nat.add_le_add_right (neg_len _) 1) (by decide))); (case w9qs => with_unfolding_all rfl)); intro tW9' kW9'))
  k_with "subscriptTail" => (((with_reducible show wpAny _ _ (subscriptTail _ _ (Value.str (S [_]) _) (Value.int _ _)) _ _ _); k_dflt (refine' sub_S ?w9qa ?w9qb ?w9qz ?_ ?w9qs; (case w9qa => decide); (case w9qb => exact rfl); (case w9qz => (simp only [List.length_cons, List.length_nil]; decide)); (case w9qs => with_unfolding_all rfl)); intro tW9' kW9'))
  k_with "subscriptTail Name Constant str int" => (((with_reducible show wpAny _ _ (subscriptTail _ _ (Value.str (S [_]) _) (Value.int _ _)) _ _ _); k_dflt (refine' sub_S ?w9qa ?w9qb ?w9qz ?_ ?w9qs; (case w9qa => decide); (case w9qb => exact rfl); (case w9qz => (simp only [List.length_cons, List.length_nil]; decide)); (case w9qs => with_unfolding_all rfl)); intro tW9' kW9'))
  k_with "UnrEnd" => ((k_dflt (refine' UnrEnd.intro ?w9qF ?w9qN _ (fun p hp => hp) ?w9qo ?_; (case w9qF => k_asm); (case w9qN => k_asm); (case w9qo => exact allLt_ne (by assumption))); k_dflt (refine KrsRest.zero ?_); intro hW9' tkW9' FW9' NW9'))
  k_with "compareOp Gt str str" => ((k_dflt (first | (refine gt_S (decide_eq_false (by omega)) ?_) | (refine gt_S (decide_eq_true (by omega)) ?_))))
  k_with "subscriptTail" => (((with_reducible show wpAny _ _ (subscriptTail _ (PySem.Expr.Slice none (some _) none _) (Value.str (S (negL _ ++ [_])) _) (Value.ref _)) _ _ _); k_dflt (refine' slice_S_ns1 (s := ⟨_, _, _, _, _⟩) (take_neg _ _) ?w9qF ?w9qN ?w9qa ?w9qz ?_ ?w9qs ?w9qt; (case w9qF => k_asm); (case w9qN => k_asm); (case w9qa => exact (neg_len1 _ _)); (case w9qz => exact (neg_len2 _ _)); (case w9qs => with_unfolding_all rfl); (case w9qt => (intro _; with_unfolding_all rfl))); intro hW9' tW9' kW9' FW9' NW9'))
  k_with "subscriptTail" => (((with_reducible show wpAny _ _ (subscriptTail _ (PySem.Expr.Slice (some _) none none _) (Value.str (S [_]) _) (Value.ref _)) _ _ _); k_dflt (refine' slice_S_sn (r := []) (s := ⟨_, _, _, _, _⟩) ?w9qr ?w9qF ?w9qN ?w9qa ?w9qb ?w9qz ?_ ?w9qs ?w9qt; (case w9qr => exact rfl); (case w9qF => k_asm); (case w9qN => k_asm); (case w9qa => decide); (case w9qb => (simp only [List.length_cons, List.length_nil]; decide)); (case w9qz => (simp only [List.length_cons, List.length_nil]; decide)); (case w9qs => with_unfolding_all rfl); (case w9qt => (intro _; with_unfolding_all rfl))); intro hW9' tW9' kW9' FW9' NW9'))
  k_with "binaryOp Add str str" => ((k_dflt (refine add_S (b := []) rfl rfl (Nat.le_trans (neg_len _) (by decide)) (by decide) ?_); intro tW9' kW9'))
  k_with "setItem ref int" => ((k_dflt (refine' set_2nd ?w9qF ?w9qN ?w9q1 ?w9qh ?w9q0 ?w9qk ?w9qz ?_; (case w9qF => k_asm); (case w9qN => k_asm); (case w9qh => assumption); (case w9q1 => (have hqW9 := ‹_ < _ ∧ _ < _ ∧ _ < _ ∧ AllLt _ _›; exact Nat.ne_of_gt hqW9.1)); (case w9q0 => decide); (case w9qk => (simp only [List.length_cons, List.length_nil]; decide)); (case w9qz => decide)); intro hW9' FW9' NW9'))
  k_with "delItem ref int" => ((k_dflt (refine' delItem_second ?w9qF ?w9qN ?w9q1 ?w9qh ?w9q0 ?w9qk ?_ ?w9qz; (case w9qF => k_asm); (case w9qN => k_asm); (case w9qh => assumption); (case w9q1 => (have hqW9 := ‹_ < _ ∧ _ < _ ∧ _ < _ ∧ AllLt _ _›; exact Nat.ne_of_gt hqW9.1)); (case w9q0 => decide); (case w9qk => exact rfl); (case w9qz => (unfold sizeLine; simp))); intro hW9' FW9' NW9'))
  k_with "call builtin:str.find" => (k_dflt (first
    | (refine find4L lit_da (by omega) (by omega) (by omega) (.inl ⟨k0 + 1, rfl, by omega, by omega, h45, fun n a b => by omega⟩) ?_)
    | (refine find4L lit_da (by omega) (by omega) (by omega) (.inr ⟨rfl, fun n a b => by omega⟩) ?_)); intro t' k')
  k_with "subscriptTail Name Slice str ref" => (k_dflt (first
    | (refine' slice_S_ss (r := negL neg ++ [a]) (s := ⟨_, _, _, _, _⟩) ?qr ?qF ?qN ?qa ?qb ?qc ?qz ?_ ?hs ?ht; (case qr => exact (by rw [← hs1]; congr 1; omega)); (case qF => k_asm); (case qN => k_asm); (case qa => omega); (case qb => omega); (case qc => omega); (case qz => omega); (case hs => with_unfolding_all rfl); (case ht => (intro _; with_unfolding_all rfl)))
    | (refine' slice_S_ss (r := [b]) (s := ⟨_, _, _, _, _⟩) ?qr ?qF ?qN ?qa ?qb ?qc ?qz ?_ ?hs ?ht; (case qr => exact (by rw [← hs2]; congr 1 <;> omega)); (case qF => k_asm); (case qN => k_asm); (case qa => omega); (case qb => omega); (case qc => omega); (case qz => omega); (case hs => with_unfolding_all rfl); (case ht => (intro _; with_unfolding_all rfl)))); intro h' t' k' F' N')
  k_with "call builtin:list.append" => (k_dflt (refine' app_H ?qF ?qN hDn ?qz ?_; (case qF => k_asm); (case qN => k_asm); (case qz => (unfold sizeLine; simp only [List.length_append, List.length_cons, List.length_nil]; omega))); intro h' F' N')
  revert X'
  k_fill
  intro X'
  obtain ⟨⟨tp, mpat⟩, mstar, ⟨tq, mqm⟩, mres, madd, ⟨ti, mi⟩, ⟨tn, mn⟩⟩ := M
  obtain ⟨tj, mj⟩ := hj
  obtain ⟨tkk, mkk⟩ := hk
  k_extra "stp"
  rename News _ _ _ _ => N9
  rename Fr _ _ _ _ => F9
  simp only [List.nil_append, List.cons_append] at N9
  rw [hbF]
  clear hbF hDl
  by_cases hab : a ≤ b
  · k_extra "stp"
    rename Fr _ _ _ _ => F5
    rename News _ _ _ _ => N5
    have F5 : Fr g' L' _ _ := F5
    refine joT w rfl B' X' T' hd F5 ?_ (ch := [negL neg ++ [a], [b]]) N5 hT (.cons _ _ (.cons _ _ .nil)) hg hD1 hR1 hU1 hoff hch2 (ok_two (neg_len2 _ _) (by simp)) (by simp) fun s6 tl6 t6 F6 N6 hT6 hR6 hg6 hos6 => ?_
    · assumption
    · k_extra "stp"
      refine hQ s6 _ tl6 t6 (k0 + 1 + 1) F6 ⟨⟨_, by assumption⟩, by assumption, ⟨_, by assumption⟩, by assumption, by assumption, ⟨_, rfl⟩, ⟨_, by assumption⟩⟩ ⟨_, by assumption⟩ ?_ (cb_drop N6 fun q hq => .tail _ hq) hT6 (hR6 R hR) hg6 hos6
      · show some _ = some _
        rw [List.map_cons, List.map_cons, List.map_nil, join_two]
        exact congrArg (fun z => some (Value.str z t6)) (congrArg S (by simp [core, hab]))
  · k_extra "stp"
    rename Fr _ _ _ _ => F5
    rename News _ _ _ _ => N5
    have F5 : Fr g' L' _ _ := F5
    refine joT w rfl B' X' T' hd F5 ?_ (ch := [negL neg]) N5 hT (key1 _) hg hD1 hR1 hU1 hoff hch1 (ok_one (Nat.le_trans (neg_len _) (by decide))) (by simp) fun s6 tl6 t6 F6 N6 hT6 hR6 hg6 hos6 => ?_
    · assumption
    · k_extra "stp"
      refine hQ s6 _ tl6 t6 (k0 + 1 + 1) F6 ⟨⟨_, by assumption⟩, by assumption, ⟨_, by assumption⟩, by assumption, by assumption, ⟨_, rfl⟩, ⟨_, by assumption⟩⟩ ⟨_, by assumption⟩ ?_ (cb_drop N6 fun q hq => .tail _ hq) hT6 (hR6 R hR) hg6 hos6
      · show some _ = some _
        rw [List.map_cons, List.map_nil, join_one]
        exact congrArg (fun z => some (Value.str z t6)) (congrArg S (by simp [core, hab]))
end
end Mine
end

section
open PySem PySem.W PyProof.Rows
set_option maxRecDepth 100000
set_option maxHeartbeats 8000000
namespace Mine
@[irreducible] noncomputable def whI : Stmt := nthS (thenL (nthS (elseL (nthS (elseL (nthS (thenL (subStmt 18 3)) 2)) 0)) 0)) 3
theorem allLt_of' {d : Addr} : ∀ {l : List (Addr × Obj)}, AllLt d l → ∀ p ∈ l, p.1 < d
  | [], _, _, hp => nomatch hp
  | q :: r, h, p, hp => by
    rcases List.mem_cons.mp hp with rfl | hp
    · exact h.1
    · exact allLt_of' h.2 p hp
theorem at_app (P r : List Nat) (j : Nat) : (P ++ r)[P.length + j]? = r[j]? := by rw [List.getElem?_append_right (Nat.le_add_right ..), Nat.add_sub_cancel_left]

theorem pos_facts {l pre post nl : List Nat} {a b i k0 : Nat} (hpl : l = pre ++ (nl ++ [a, 45, b, 93]) ++ post) (hpi : pre.length = i) (hk0 : k0 = i + nl.length) :
    l[(k0 : Int).toNat]? = some a ∧ l[k0 + 1]? = some 45 ∧ l[k0 + 2]? = some b ∧ l[k0 + 3]? = some 93 ∧ (l.drop i).take (k0 + 3 - i) = nl ++ [a, 45, b] ∧ (l.drop i).take (k0 + 1 - i) = nl ++ [a] ∧ (l.drop (k0 + 2)).take 1 = [b] := by
  have e : l = (pre ++ nl) ++ ([a, 45, b, 93] ++ post) := by rw [hpl]; simp
  have e2 : l = pre ++ ((nl ++ [a, 45, b, 93]) ++ post) := by rw [hpl]; simp
  have hP : (pre ++ nl).length = k0 := by rw [List.length_append, hpi, hk0]
  refine ⟨?_, ?_, ?_, ?_, ?_, ?_, ?_⟩
  · rw [Int.toNat_natCast, e, ← hP, ← Nat.add_zero (pre ++ nl).length, at_app]; rfl
  · rw [e, ← hP, at_app]; rfl
  · rw [e, ← hP, at_app]; rfl
  · rw [e, ← hP, at_app]; rfl
  · rw [e2, ← hpi, List.drop_left, show k0 + 3 - pre.length = nl.length + 3 by omega, List.append_assoc, List.take_length_add_append]; rfl
  · rw [e2, ← hpi, List.drop_left, show k0 + 1 - pre.length = nl.length + 1 by omega, List.append_assoc, List.take_length_add_append]; rfl
  · rw [e, ← hP, List.drop_length_add_append]; rfl
section
inductive BrJ (g' : Heap) (L' : Addr) (s : Shared) (l : List Nat) (St R U : Addr) (i k0 : Nat) (vs : List Value) (c : Nat) (rest : List (Addr × Obj)) (n : Nat) (s' : Shared) : Prop
  | mk (q : Nat) (h2 : Heap) (tk2 : Nat) (m2 : Str → Option Value) (t : Tok) (zz0 : n + q = 3) (zz1 : s' = { s with heap := h2, toks := tk2 }) (zz2 : Fr g' L' h2 m2) (zz3 : TM m2 l St R U i) (zz4 : m2 "j" = some (.int ((k0 + q : Nat) : Int) t)) (zz5 : News g' L' h2 ((U, bndO R) :: (R, listOf vs.toArray c) :: rest)) : BrJ g' L' s l St R U i k0 vs c rest n s'
theorem br_turn (w : World) {dp un : Nat} {gd : Option (List Code)} {cn : Str} {cs : Scope} {ac : Addr} {ccd : Value} {cl : List (Str × Addr)} {outer : List Env} {base g' : Heap} {L L' : Addr} {m : Str → Option Value} {s : Shared}
    {p : Program} {loose : List Str} {mean : ExcName → Option Value} {mg mb : Str → Option Value} {E : Value → Shared → Prop} {Qf : Flow → Shared → Prop} {sc : Scope} (hsc : sc = scT)
    {l : List Nat} {St R U : Addr} {i : Nat} {news tl : List (Addr × Obj)} {vs : List Value} {c : Nat} {res : List (List Nat)} {neg : Bool} {a b : Nat}
    (B' : Below (ktrTop dp un gd cn cs L ac ccd cl outer) base (envX cn cs L ac ccd cl :: outer) g') (X' : (mk.heap_1 w.params).In g') (T' : Top p loose mean mg mb g') (hd : dp + 30 < recursionLimit) (hu : un + 8 * 30 < cLine)
    (F : Fr g' L' s.heap m) (M : TM m l St R U i)
    (N : News g' L' s.heap ((U, bndO R) :: (R, listOf vs.toArray c) :: (tl ++ news))) (hT : T2 tl) (hV : StrsAre vs (res.map S)) (hg : AllBare s.gens) (hUR : U ≠ R) (hR : ∀ p ∈ tl ++ news, p.1 ≠ R) (hR1 : (106 : Nat) < R) (hU1 : (106 : Nat) < U) (hoff : ∀ q ∈ news, q.1 ≠ 106)
    (ha : 97 ≤ a) (hb : 97 ≤ b) (hz : l.length ≤ 500) (hrl : res.length ≤ 500) (hl : ∃ pre post, l = pre ++ (negL neg ++ [a, 45, b, 93]) ++ post ∧ pre.length = i)
    (hQ : ∀ s', TJ g' L' s.os l St R U news (i + (negL neg).length + 4) (res ++ [(Pl.rng neg a b).tr]) s' → Qf .next s') :
    wpAny (model PySem.Challenge.rw_in0279_01.row.toRowW.prog w) ((ktrTop dp un gd cn cs L ac ccd cl outer).deeper (envOf "_translate" sc L' 111 (.ref 110))) (execs brS (envOf "_translate" sc L' 111 (.ref 110))) Qf
      (fun e s' => wpAny (model PySem.Challenge.rw_in0279_01.row.toRowW.prog w) ((ktrTop dp un gd cn cs L ac ccd cl outer).deeper (envOf "_translate" sc L' 111 (.ref 110))) (leaving (envOf "_translate" sc L' 111 (.ref 110)) e) (fun _ s'' => E e s'') (fun e' s'' => E e' s'') s') s := by
  obtain ⟨pre, post, hpl, hpi⟩ := hl
  have hlz : l.length = i + (negL neg).length + 4 + post.length := by rw [hpl, ← hpi]; simp; omega
  conv at hsc => rhs; whnf
  subst hsc
  have hb0 : brS = brS := rfl
  conv at hb0 => rhs; unfold brS; whnf
  rw [hb0]
  clear hb0
  have hbW : whI = whI := rfl
  conv at hbW => rhs; unfold whI; whnf
  rw [← hbW]
  have hb5 : r5S = r5S := rfl
  conv at hb5 => rhs; unfold r5S; whnf
  rw [← hb5]
  have hb6 : r6S = r6S := rfl
  conv at hb6 => rhs; unfold r6S; whnf
  rw [← hb6]
  clear hb5 hb6
  k_with_none
  w_top off
  k_with "om" => (first | decide | (with_reducible first | (refine neN ?_; first | (refine Nat.ne_of_lt ?_; first | ((repeat (first | assumption | exact om_k1 | refine Nat.lt_succ_of_lt ?_)); done) | (apply And.left; (iterate 18 (first | done | assumption | apply And.right)); done)) | (refine Nat.ne_of_gt ?_; first | ((repeat (first | assumption | exact om_k1 | refine Nat.lt_succ_of_lt ?_)); done) | (apply And.left; (iterate 18 (first | done | assumption | apply And.right)); done)) | (refine Ne.symm ?_; assumption) | (refine om_s ?_; omega)) | exact om_le (by assumption) rfl | exact om_ll (by assumption) rfl | exact om_lt (by assumption) rfl | exact om_lg (by assumption) rfl | exact om_r1 (by assumption) rfl | exact om_r2 (by assumption) rfl | exact om_r3 (by assumption) rfl | exact om_il (by assumption) rfl | exact om_ig (by assumption) rfl | exact om_tn (by assumption) rfl | exact om_tl (by assumption) rfl | exact om_nc (by assumption) rfl | exact Int.natCast_nonneg _ | exact Int.le_of_lt (by assumption)) | (law_clear; lia))
  k_with "execs cons" => ((first | (k_here; k_gentoks) | (refine wpAny_execs_cons ?_; k_fold; (try k_extra "mlet"))))
  k_with "stp" => (repeat' (first | (k_unfold; (try dsimp only)) | (k_end; wrow_close) | (walk1; (all_goals (try dsimp only))) | (dsimp only; walk1) | (leave1; walk_say "STEP leave1"; try dsimp only) | fail "no step"))
  k_with "spliced" => (k_dflt (first | ((with_reducible show wpAny _ _ (spliced (backTo _ (starEach [_] _))) _ _ _); refine sp1 ?_) | ((with_reducible show wpAny _ _ (spliced (backTo _ (starEach [_, _] _))) _ _ _); refine sp2 ?_) | ((with_reducible show wpAny _ _ (spliced (backTo _ (starEach [_, _, _] _))) _ _ _); refine sp3 ?_)))
  k_with "eval Name" => ((k_dflt (refine' ld ?w9k1 ?w9k2 ?_; (case w9k1 => k_asm); (case w9k2 => first | with_reducible assumption | exact rfl | assumption); k_whole)))
  k_with "compareOp Eq str str" => ((k_dflt (first | (refine eq_yes lit_ex rfl ?_) | (refine eq_no lit_ex (one_ne (by omega)) ?_) | (refine eq_no lit_cl (one_ne (by omega)) ?_))))
  k_with "compareOp NotEq str str" => ((k_dflt (first | (refine ne_yes lit_cl rfl ?_) | (refine ne_no lit_cl (one_ne (by omega)) ?_))))
  k_with "compareOp NotIn str str" => ((k_dflt (refine notIn_S lit_da (b := false) (by simp) ?_)))
  k_with "subscriptTail Name Name str int" => (k_dflt (first
    | (refine' sub_S (by omega) (at_idx c0 (by omega)) (by omega) ?_ ?qe; (case qe => with_unfolding_all rfl))
    | (refine' sub_S (by omega) (at_idx d0 (by omega)) (by omega) ?_ ?qe; (case qe => with_unfolding_all rfl))
    | (refine' sub_S (by omega) (at_idx dq (by omega)) (by omega) ?_ ?qe; (case qe => with_unfolding_all rfl))); intro t' k')
  k_with "subscriptTail Name Slice str ref" => (k_dflt (first
    | (refine' slice_S_ss (r := negL true ++ [a, 45, b]) (s := ⟨_, _, _, _, _⟩) ?qr ?qF ?qN ?qa ?qb ?qc ?qz ?_ ?hs ?ht; (case qr => exact (by rw [← hs0]; congr 1; omega)); (case qF => k_asm); (case qN => k_asm); (case qa => omega); (case qb => omega); (case qc => omega); (case qz => omega); (case hs => with_unfolding_all rfl); (case ht => (intro _; with_unfolding_all rfl)))
    | (refine' slice_S_ss (r := negL false ++ [a, 45, b]) (s := ⟨_, _, _, _, _⟩) ?qr ?qF ?qN ?qa ?qb ?qc ?qz ?_ ?hs ?ht; (case qr => exact (by rw [← hs0]; congr 1; omega)); (case qF => k_asm); (case qN => k_asm); (case qa => omega); (case qb => omega); (case qc => omega); (case qz => omega); (case hs => with_unfolding_all rfl); (case ht => (intro _; with_unfolding_all rfl)))); intro h' t' k' F' N')
  revert X'
  k_fill
  intro X'
  obtain ⟨⟨tp, mpat⟩, mstar, ⟨tq, mqm⟩, mres, madd, ⟨ti, mi⟩, ⟨tn, mn⟩⟩ := M
  obtain ⟨k0, hk0⟩ : ∃ k0, k0 = i + (negL neg).length := ⟨_, rfl⟩
  obtain ⟨d0, d1, d2, d3, hs0, hs1, hs2⟩ := pos_facts hpl hpi hk0
  rw [← hk0] at hlz hQ
  cases neg with
  | false =>
    have c0 : l[(i : Int).toNat]? = some a := by rw [hpl, ← hpi]; simp [negL]
    have hk1 : k0 = i := hk0
    k_extra "stp"
    rename Fr _ _ _ _ => F9
    rename News _ _ _ _ => N9
    rw [hbW]
    clear hbW
    refine (let JW9 : Nat → Shared → Prop := BrJ g' L' s l St R U i k0 vs c (tl ++ news); While_nx JW9
      (n₀ := 3) ⟨0, _, _, _, _, rfl, rfl, F9, ⟨⟨_, by assumption⟩, by assumption, ⟨_, by assumption⟩, by assumption, by assumption, ⟨_, by assumption⟩, ⟨_, by assumption⟩⟩, by rw [show ((k0 + 0 : Nat) : Int) = i by omega]; exact rfl, N9⟩ ?_)
    rintro n s' ⟨q, h2, tk2, m2, t9, hnq, rfl, F2, ⟨⟨tp, mpat⟩, mstar, ⟨tq, mqm⟩, mres, madd, ⟨ti, mi⟩, ⟨tn, mn⟩⟩, mj, N2⟩
    clear F9 N9
    (try dsimp only)
    by_cases hq3 : q = 3
    · subst hq3
      have dq : l[(((k0 + 3 : Nat) : Int)).toNat]? = some 93 := by rw [Int.toNat_natCast]; exact d3
      k_extra "stp"
      rename Fr _ _ _ _ => F9
      rename News _ _ _ _ => N9
      rename U < _ ∧ R < _ ∧ AllLt _ _ => lD
      refine br5 w rfl B' X' T' hd hu F9 ⟨⟨_, by assumption⟩, by assumption, ⟨_, by assumption⟩, by assumption, by assumption, ⟨_, by assumption⟩, ⟨_, by assumption⟩⟩ (k0 := k0) ⟨_, by assumption⟩ ⟨_, by rw [show ((k0 + 1 : Nat) : Int) = i + 1 by omega]; exact rfl⟩ rfl N9 hT hV hg hUR hR hR1 hU1 hoff (allLt_of' lD) ha hb hz hrl (by omega) (by omega) d1 hs1 hs2 fun s6 m6 tl6 t6 i6 F6 M6 hj6 hst6 N6 hT6 hR6 hg6 hos6 => ?_
      (try dsimp only)
      refine br6 w rfl B' X' T' hd hu F6 M6 hj6 ⟨_, hst6⟩ N6 hT6 hV hg6 hUR hR6 hR1 hU1 hoff ha hb hz hrl fun s7 h7 => ?_
      rw [hos6] at h7
      k_extra "stp"
      exact hQ _ h7
    · obtain ⟨x, dq, hx⟩ : ∃ x, l[(((k0 + q : Nat) : Int)).toNat]? = some x ∧ x ≠ 93 := by
        rw [Int.toNat_natCast]
        rcases (show q = 0 ∨ q = 1 ∨ q = 2 by omega) with rfl | rfl | rfl
        · exact ⟨a, by rw [Int.toNat_natCast] at d0; exact d0, by omega⟩
        · exact ⟨45, d1, by omega⟩
        · exact ⟨b, d2, by omega⟩
      k_extra "stp"
      refine NextJ.mk (n' := n - 1) (by omega) ⟨q + 1, _, _, _, _, by omega, rfl, by k_asm, ⟨⟨_, by assumption⟩, by assumption, ⟨_, by assumption⟩, by assumption, by assumption, ⟨_, by assumption⟩, ⟨_, by assumption⟩⟩, by rw [show ((k0 + (q + 1) : Nat) : Int) = ((k0 + q : Nat) : Int) + 1 by omega]; exact rfl, by k_asm⟩
  | true =>
    have c0 : l[(i : Int).toNat]? = some 33 := by rw [hpl, ← hpi]; simp [negL]
    have hk1 : k0 = i + 1 := hk0
    k_extra "stp"
    rename Fr _ _ _ _ => F9
    rename News _ _ _ _ => N9
    rw [hbW]
    clear hbW
    refine (let JW9 : Nat → Shared → Prop := BrJ g' L' s l St R U i k0 vs c (tl ++ news); While_nx JW9
      (n₀ := 3) ⟨0, _, _, _, _, rfl, rfl, F9, ⟨⟨_, by assumption⟩, by assumption, ⟨_, by assumption⟩, by assumption, by assumption, ⟨_, by assumption⟩, ⟨_, by assumption⟩⟩, by rw [show ((k0 + 0 : Nat) : Int) = i + 1 by omega]; exact rfl, N9⟩ ?_)
    rintro n s' ⟨q, h2, tk2, m2, t9, hnq, rfl, F2, ⟨⟨tp, mpat⟩, mstar, ⟨tq, mqm⟩, mres, madd, ⟨ti, mi⟩, ⟨tn, mn⟩⟩, mj, N2⟩
    clear F9 N9
    (try dsimp only)
    by_cases hq3 : q = 3
    · subst hq3
      have dq : l[(((k0 + 3 : Nat) : Int)).toNat]? = some 93 := by rw [Int.toNat_natCast]; exact d3
      k_extra "stp"
      rename Fr _ _ _ _ => F9
      rename News _ _ _ _ => N9
      rename U < _ ∧ R < _ ∧ AllLt _ _ => lD
      refine br5 w rfl B' X' T' hd hu F9 ⟨⟨_, by assumption⟩, by assumption, ⟨_, by assumption⟩, by assumption, by assumption, ⟨_, by assumption⟩, ⟨_, by assumption⟩⟩ (k0 := k0) ⟨_, by assumption⟩ ⟨_, by rw [show ((k0 + 1 : Nat) : Int) = i + 2 by omega]; exact rfl⟩ rfl N9 hT hV hg hUR hR hR1 hU1 hoff (allLt_of' lD) ha hb hz hrl (by omega) (by omega) d1 hs1 hs2 fun s6 m6 tl6 t6 i6 F6 M6 hj6 hst6 N6 hT6 hR6 hg6 hos6 => ?_
      (try dsimp only)
      refine br6 w rfl B' X' T' hd hu F6 M6 hj6 ⟨_, hst6⟩ N6 hT6 hV hg6 hUR hR6 hR1 hU1 hoff ha hb hz hrl fun s7 h7 => ?_
      rw [hos6] at h7
      k_extra "stp"
      exact hQ _ h7
    · obtain ⟨x, dq, hx⟩ : ∃ x, l[(((k0 + q : Nat) : Int)).toNat]? = some x ∧ x ≠ 93 := by
        rw [Int.toNat_natCast]
        rcases (show q = 0 ∨ q = 1 ∨ q = 2 by omega) with rfl | rfl | rfl
        · exact ⟨a, by rw [Int.toNat_natCast] at d0; exact d0, by omega⟩
        · exact ⟨45, d1, by omega⟩
        · exact ⟨b, d2, by omega⟩
      k_extra "stp"
      refine NextJ.mk (n' := n - 1) (by omega) ⟨q + 1, _, _, _, _, by omega, rfl, by k_asm, ⟨⟨_, by assumption⟩, by assumption, ⟨_, by assumption⟩, by assumption, by assumption, ⟨_, by assumption⟩, ⟨_, by assumption⟩⟩, by rw [show ((k0 + (q + 1) : Nat) : Int) = ((k0 + q : Nat) : Int) + 1 by omega]; exact rfl, by k_asm⟩
end
end Mine
end

section
open PySem PySem.W PyProof.Rows
set_option maxRecDepth 100000
set_option maxHeartbeats 8000000
namespace Mine
section
theorem translateL (w : World) (ps : List Pl) (hok : ∀ p ∈ ps, p.ok) (hz : (flatP ps).length ≤ 500) (t t2 : Tok) (St : Addr) (tl news) (hT : T2 tl) (hoff : ∀ q ∈ news, q.1 ≠ 106) :
    SpecG w 111 [.str (S (flatP ps)) t, .ref St, .str (S [46]) t2] 30 (tl ++ news) (fun r nw => ∃ R vs c tl', r = .ref R ∧ nw = (R, listOf vs.toArray c) :: (tl' ++ news) ∧ T2 tl' ∧ StrsAre vs ((ps.map Pl.tr).map S)) := by
  unfold SpecG
  k_with_none
  w_top off
  k_with "om" => (first | decide | (with_reducible first | (refine neN ?_; first | (refine Nat.ne_of_lt ?_; first | ((repeat (first | assumption | exact om_k1 | refine Nat.lt_succ_of_lt ?_)); done) | (apply And.left; (iterate 18 (first | done | assumption | apply And.right)); done)) | (refine Nat.ne_of_gt ?_; first | ((repeat (first | assumption | exact om_k1 | refine Nat.lt_succ_of_lt ?_)); done) | (apply And.left; (iterate 18 (first | done | assumption | apply And.right)); done)) | (refine Ne.symm ?_; assumption) | (refine om_s ?_; omega)) | exact om_le (by assumption) rfl | exact om_ll (by assumption) rfl | exact om_lt (by assumption) rfl | exact om_lg (by assumption) rfl | exact om_r1 (by assumption) rfl | exact om_r2 (by assumption) rfl | exact om_r3 (by assumption) rfl | exact om_il (by assumption) rfl | exact om_ig (by assumption) rfl | exact om_tn (by assumption) rfl | exact om_tl (by assumption) rfl | exact om_nc (by assumption) rfl | exact Int.natCast_nonneg _ | exact Int.le_of_lt (by assumption)) | (law_clear; lia))
  k_with "execs cons" => ((first | (k_here; k_gentoks) | (refine wpAny_execs_cons ?_; k_fold; (try k_extra "mlet"))))
  k_with "stp" => (repeat' (first | (k_unfold; (try dsimp only)) | (k_end; wrow_close) | (walk1; (all_goals (try dsimp only))) | (dsimp only; walk1) | (leave1; walk_say "STEP leave1"; try dsimp only) | fail "no step"))
  k_with "spliced" => (k_dflt (first | ((with_reducible show wpAny _ _ (spliced (backTo _ (starEach [_] _))) _ _ _); refine sp1 ?_) | ((with_reducible show wpAny _ _ (spliced (backTo _ (starEach [_, _] _))) _ _ _); refine sp2 ?_) | ((with_reducible show wpAny _ _ (spliced (backTo _ (starEach [_, _, _] _))) _ _ _); refine sp3 ?_)))
  k_with "getAttr ref" => (((with_reducible show wpAny _ _ (getAttr _ (PySem.Str.ofString "append") _) _ _ _); k_dflt (refine' getApp_N ?w9F ?w9N ?w9m ?_; (case w9F => k_asm); (case w9N => k_asm); (case w9m => k_memK)); intro uW9' hW9' tkW9' FW9' NW9' l1W9; (try k_lt l1W9)))
  k_with "call builtin:len" => (((with_reducible show wpAny _ _ (call (Value.builtin "len") [Value.str _ _]) _ _ _); k_dflt (refine' len_S ?w9z ?_; (case w9z => omega)); intro tW9' kW9'))
  k_with "subscriptTail Name Name str int" => (((with_reducible show wpAny _ _ (subscriptTail _ _ (Value.str _ _) (Value.int _ _)) _ _ _); k_dflt (refine' sub_S ?w9a ?w9b ?w9z ?_ ?w9e; (case w9a => omega); (case w9b => first | assumption | exact at_idx (by assumption) (by omega)); (case w9z => omega); (case w9e => with_unfolding_all rfl)); intro tW9' kW9'))
  k_with "compareOp Eq str str" => ((k_dflt (first | (refine eq_no lit_star (one_ne (by omega)) ?_) | (refine eq_yes lit_q rfl ?_) | (refine eq_no lit_q (one_ne (by omega)) ?_) | (refine eq_yes lit_br rfl ?_) | (refine eq_no lit_br (one_ne (by omega)) ?_))))
  k_with "eval Name" => ((k_dflt (refine' ld ?w9k1 ?w9k2 ?_; (case w9k1 => k_asm); (case w9k2 => first | with_reducible assumption | exact rfl | assumption); k_whole)))
  k_with "callWith ref" => ((k_dflt (refine' callWith_bnd ?w9k1 ?_; (case w9k1 => exact BndAt.of (by k_asm) (by k_memK)); k_whole)))
  k_with "And" => (((with_reducible show BndAt _ _ _ ∧ _); k_dflt (refine ⟨BndAt.of (by k_asm) (by k_memK), ?_⟩); (try dsimp only [List.nil_append, List.cons_append])))
  k_with "call ref" => (((with_reducible show wpAny _ _ (call (Value.ref 104) _) _ _ _); k_dflt (refine' Spec.use (escape1 _ _ _ _ ?w9h9) ?w9B ?w9F ?w9X ?w9N ?w9T ?w9k ?w9d ?w9u ?_; (case w9h9 => assumption); (case w9B => k_asm); (case w9F => k_asm); (case w9X => k_asm); (case w9N => k_asm); (case w9T => k_asm); (case w9k => first | exact rfl | assumption); (case w9d => ktr_room); (case w9u => ktr_units)); rotate_right; intro rW9' nwW9' hW9' tkW9' FW9' NW9' hPW9'; obtain ⟨tW9'⟩ := hPW9'; (try dsimp only)))
  k_fill
  intro dp un gd cn cs ac ccd cl outer A₀ base h₀ L m s p loose mean mg mb Q E B F X N T hk hd hu hg hret
  have C0 : CodeHd h₀ 110 106 := codeHd_of_K X (by kernel_rfl)
  refine wpAny_call ?_
  k_dflt ktr_enter
  have hb : whT = whT := rfl
  conv at hb => rhs; unfold whT; whnf
  rw [← hb]
  k_extra "stp"
  rename Fr _ _ _ _ => F9
  rename News _ _ _ _ => N9
  rename (∀ p ∈ tl ++ news, p.1 < _) => lA
  rename (_ < _ ∧ AllLt _ _) => lB
  rw [hb]
  clear hb
  have qUR := Nat.ne_of_gt lB.1
  have q1R : (106 : Nat) < _ := (by obtain ⟨o, ho⟩ := hT.mem; exact lA _ (List.mem_append_left _ ho))
  have q1U : (106 : Nat) < _ := Nat.lt_trans q1R lB.1
  have qR : ∀ p ∈ tl ++ news, p.1 ≠ _ := fun p hp => Nat.ne_of_lt (lA p hp)
  refine (let JW9 : Nat → Shared → Prop := fun n s' => ∃ done rest, ps = done ++ rest ∧ n = rest.length ∧ TJ _ _ s.os (flatP ps) St _ _ news (flatP done).length (done.map Pl.tr) s'; While_nx JW9
    (n₀ := ps.length) ⟨[], ps, rfl, rfl, _, [], 0, tl, F9, ⟨⟨_, rfl⟩, rfl, ⟨_, rfl⟩, rfl, rfl, ⟨_, rfl⟩, ⟨_, rfl⟩⟩, cb_drop N9 (fun q hq => .tail _ hq), hT, .nil, rfl, hg, qUR, qR, q1R, q1U⟩ ?_)
  rintro n s' ⟨done, rest, hps, hn, m9, vs9, c9, tl9, F9, M9, N9, hT9, hV9, hos9, hg9, hUR, hR, hR1, hU1⟩
  clear lA lB hT qUR qR q1R q1U
  obtain ⟨⟨tp, mpat⟩, mstar, ⟨tq, mqm⟩, mres, madd, ⟨ti, mi⟩, ⟨tn, mn⟩⟩ := M9
  have hlen : (flatP ps).length = (flatP done).length + (flatP rest).length := by rw [hps]; simp [flatP]
  cases rest with
  | nil =>
    have hil : (flatP done).length = (flatP ps).length := by simpa [flatP] using hlen.symm
    k_extra "stp"
    · exact hret _ _ _ (by k_asm) (cb_drop (by k_asm) fun q hq => .tail _ hq) ⟨_, vs9, c9, tl9, rfl, rfl, hT9, by rw [hps, List.append_nil]; exact hV9⟩ hos9 hg9
    all_goals (exfalso; omega)
  | cons pl rest =>
    have hpl : pl.ok := hok pl (by rw [hps]; exact List.mem_append_right _ (.head _))
    cases pl with
    | sign c =>
      have h97 : 97 ≤ c := hpl
      have hc0 : (flatP ps)[((flatP done).length : Int).toNat]? = some c := by rw [hps]; simp [flatP, Pl.pat]
      have hvl : vs9.length ≤ 1000 := by
        have h1 := hV9.length
        simp only [List.length_map] at h1
        have h2 : done.length ≤ (flatP done).length := flatP_len done
        omega
      have hlt : (flatP done).length < (flatP ps).length := by rw [hlen]; simp [flatP, Pl.pat]
      k_extra "stp"
      k_dflt (refine' call_bndL (pre := []) ?F ?N (fun _ h => nomatch h) hUR hR ?_ ?z; (case F => k_asm); (case N => k_asm); (case z => omega))
      intro h' F' N'
      (try dsimp only)
      k_extra "stp"
      have ei : ((flatP (done ++ [.sign c])).length : Int) = (flatP done).length + 1 := by simp [flatP, Pl.pat]
      refine NextJ.mk (n' := rest.length) (by rw [hn]; exact Nat.lt_succ_self _) ⟨done ++ [.sign c], rest, by rw [hps]; simp, rfl, _, vs9 ++ [_], _, tl9, F', ⟨⟨_, by assumption⟩, by assumption, ⟨_, by assumption⟩, by assumption, by assumption, ⟨_, by rw [ei]; exact rfl⟩, ⟨_, by assumption⟩⟩, N', hT9, ?_, hos9, hg9, hUR, hR, hR1, hU1⟩
      rw [List.map_append, List.map_append]
      exact strs_app hV9 (.cons _ _ .nil)
    | any =>
      have hc0 : (flatP ps)[((flatP done).length : Int).toNat]? = some 63 := by rw [hps]; simp [flatP, Pl.pat]
      have hvl : vs9.length ≤ 1000 := by
        have h1 := hV9.length
        simp only [List.length_map] at h1
        have h2 : done.length ≤ (flatP done).length := flatP_len done
        omega
      have hlt : (flatP done).length < (flatP ps).length := by rw [hlen]; simp [flatP, Pl.pat]
      k_extra "stp"
      k_dflt (refine' call_bndL (pre := []) ?F ?N (fun _ h => nomatch h) hUR hR ?_ ?z; (case F => k_asm); (case N => k_asm); (case z => omega))
      intro h' F' N'
      (try dsimp only)
      k_extra "stp"
      have ei : ((flatP (done ++ [.any])).length : Int) = (flatP done).length + 1 := by simp [flatP, Pl.pat]
      refine NextJ.mk (n' := rest.length) (by rw [hn]; exact Nat.lt_succ_self _) ⟨done ++ [.any], rest, by rw [hps]; simp, rfl, _, vs9 ++ [_], _, tl9, F', ⟨⟨_, by assumption⟩, by assumption, ⟨_, by assumption⟩, by assumption, by assumption, ⟨_, by rw [ei]; exact rfl⟩, ⟨_, by assumption⟩⟩, N', hT9, ?_, hos9, hg9, hUR, hR, hR1, hU1⟩
      rw [List.map_append, List.map_append]
      exact strs_app hV9 (.cons _ _ .nil)
    | rng neg a b =>
      have hc0 : (flatP ps)[((flatP done).length : Int).toNat]? = some 91 := by rw [hps]; simp [flatP, Pl.pat]
      have hlt : (flatP done).length < (flatP ps).length := by rw [hlen]; simp [flatP, Pl.pat]
      have hb : brS = brS := rfl
      conv at hb => rhs; unfold brS; whnf
      rw [← hb]
      k_extra "stp"
      rename Fr _ _ _ _ => F8
      rename News _ _ _ _ => N8
      have hrl : (done.map Pl.tr).length ≤ 500 := by
        rw [List.length_map]
        have h2 : done.length ≤ (flatP done).length := flatP_len done
        omega
      have ei : (flatP (done ++ [.rng neg a b])).length = (flatP done).length + 1 + (negL neg).length + 4 := by simp [flatP, Pl.pat]; omega
      have el : flatP ps = (flatP done ++ [91]) ++ (negL neg ++ [a, 45, b, 93]) ++ flatP rest := by
        have e1 : flatP (Pl.rng neg a b :: rest) = (91 :: (negL neg ++ [a, 45, b, 93])) ++ flatP rest := by simp [flatP, Pl.pat]
        have e2 : flatP (done ++ Pl.rng neg a b :: rest) = flatP done ++ flatP (Pl.rng neg a b :: rest) := by simp [flatP]
        rw [hps, e2, e1]
        simp only [List.append_assoc, List.cons_append, List.nil_append]
      refine br_turn w rfl ‹_› ‹_› ‹_› hd hu F8 (i := (flatP done).length + 1) ⟨⟨_, by assumption⟩, by assumption, ⟨_, by assumption⟩, by assumption, by assumption, ⟨_, rfl⟩, ⟨_, by assumption⟩⟩ N8 hT9 hV9 hg9 hUR hR hR1 hU1 hoff hpl.1 hpl.2 hz hrl ⟨flatP done ++ [91], flatP rest, el, by simp⟩ fun s7 h7 => ?_
      k_extra "stp"
      refine NextJ.mk (n' := rest.length) (by rw [hn]; exact Nat.lt_succ_self _) ⟨done ++ [.rng neg a b], rest, by rw [hps]; simp, rfl, ?_⟩
      rw [ei, List.map_append, ← hos9]
      exact h7
end
end Mine
end

section
open PySem PySem.W PyProof.Rows
set_option maxRecDepth 100000
set_option maxHeartbeats 8000000
namespace Mine
@[irreducible] noncomputable def jwS : Stmt := nthS (fdBody (topStmt 19)) 3
theorem lit_none : Str.ofString "" = S [] := by decide +kernel

theorem lit_f1 : Str.ofString "(?s:" = S [40, 63, 115, 58] := by decide +kernel

theorem lit_f2 : Str.ofString ")\\Z" = S [41, 92, 90] := by decide +kernel

theorem join_two0 (x y : List Nat) : Txt.join (Str.ofString "") [S x, S y] = S (x ++ y) := by
  rw [lit_none]
  show Builtin.Str.glued (S []) [S x, S y] = _
  simp [Builtin.Str.glued, S]
theorem join_pair {prog : Program} {w : World} {A : Around} {E : Value → Shared → Prop} {s : Shared} {h₀ : Heap} {L D : Addr} {news : List (Addr × Obj)} {x1 x2 : List Nat} {t1 t2 t : Tok} {n : Nat} {Q : Value → Shared → Prop} (N : News h₀ L s.heap news) (hm : (D, listOf [.str (S x1) t1, .str (S x2) t2].toArray n) ∈ news)
    (h1 : x1.length ≤ 100) (h2 : x2.length ≤ 100) (h : ∀ t' k, Q (.str (S (x1 ++ x2)) t') { s with toks := k }) : wpAny (model prog w) A (call (.builtin "str.join") [.str (Str.ofString "") t, .ref D]) Q E s := by
  have hl := News.isList N hm
  refine join_listW (ys := [S x1, S x2]) hl (.cons _ _ (.cons _ _ .nil)) (by rw [lit_none, S_len]; decide) (by simp only [List.map_cons, List.map_nil, S_len, List.sum_cons, List.sum_nil, List.length_cons, List.length_nil]; omega) fun t' k => ?_
  rw [join_two0]; exact h t' k
section
theorem joinL (w : World) (x1 x2 : List Nat) (h1 : x1.length ≤ 100) (h2 : x2.length ≤ 100) (I St : Addr) (t1 t2 : Tok) (c : Nat) (news : List (Addr × Obj)) :
    Spec w 118 [.ref I, .ref St] 5 ((I, listOf #[.str (S x1) t1, .str (S x2) t2] c) :: news) (PoStr (S ([40, 63, 115, 58] ++ (x1 ++ x2) ++ [41, 92, 90])) news) := by
  unfold Spec
  k_with_none
  w_top off
  k_with "om" => (first | decide | (with_reducible first | (refine neN ?_; first | (refine Nat.ne_of_lt ?_; first | ((repeat (first | assumption | exact om_k1 | refine Nat.lt_succ_of_lt ?_)); done) | (apply And.left; (iterate 18 (first | done | assumption | apply And.right)); done)) | (refine Nat.ne_of_gt ?_; first | ((repeat (first | assumption | exact om_k1 | refine Nat.lt_succ_of_lt ?_)); done) | (apply And.left; (iterate 18 (first | done | assumption | apply And.right)); done)) | (refine Ne.symm ?_; assumption) | (refine om_s ?_; omega)) | exact om_le (by assumption) rfl | exact om_ll (by assumption) rfl | exact om_lt (by assumption) rfl | exact om_lg (by assumption) rfl | exact om_r1 (by assumption) rfl | exact om_r2 (by assumption) rfl | exact om_r3 (by assumption) rfl | exact om_il (by assumption) rfl | exact om_ig (by assumption) rfl | exact om_tn (by assumption) rfl | exact om_tl (by assumption) rfl | exact om_nc (by assumption) rfl | exact Int.natCast_nonneg _ | exact Int.le_of_lt (by assumption)) | (law_clear; lia))
  k_with "execs cons" => ((first | (k_here; k_gentoks) | (refine wpAny_execs_cons ?_; k_fold; (try k_extra "mlet"))))
  k_with "stp" => (repeat' (first | (k_unfold; (try dsimp only)) | (k_end; wrow_close) | (walk1; (all_goals (try dsimp only))) | (dsimp only; walk1) | (leave1; walk_say "STEP leave1"; try dsimp only) | fail "no step"))
  k_with "spliced" => (k_dflt (first | ((with_reducible show wpAny _ _ (spliced (backTo _ (starEach [_] _))) _ _ _); refine sp1 ?_) | ((with_reducible show wpAny _ _ (spliced (backTo _ (starEach [_, _] _))) _ _ _); refine sp2 ?_) | ((with_reducible show wpAny _ _ (spliced (backTo _ (starEach [_, _, _] _))) _ _ _); refine sp3 ?_)))
  k_with "getAttr ref" => (((with_reducible show wpAny _ _ (getAttr _ (PySem.Str.ofString "append") _) _ _ _); k_dflt (refine' getApp_N ?w9F ?w9N ?w9m ?_; (case w9F => k_asm); (case w9N => k_asm); (case w9m => k_memK)); intro uW9' hW9' tkW9' FW9' NW9' l1W9; (try k_lt l1W9)))
  k_with "callWith ref" => ((k_dflt (refine' callWith_bnd ?w9k1 ?_; (case w9k1 => exact BndAt.of (by k_asm) (by k_memK)); k_whole)))
  k_with "And" => (((with_reducible show BndAt _ _ _ ∧ _); k_dflt (refine ⟨BndAt.of (by k_asm) (by k_memK), ?_⟩); (try dsimp only [List.nil_append, List.cons_append])))
  k_with "compareOp IsNot" => (((with_reducible show wpAny _ _ (compareOp _ (Value.str _ _) (Value.ref _)) _ _ _); refine wpAny_isNot_other (by rfl) (by intro eW9; cases eW9) ?_))
  k_with "subscriptTail Name Name ref int" => ((k_dflt (refine' sub_L ?w9qN ?w9qm ?w9qa ?w9qb ?w9qz ?_ ?w9qs; (case w9qN => k_asm); (case w9qm => k_memK); (case w9qa => decide); (case w9qb => exact rfl); (case w9qz => decide); (case w9qs => with_unfolding_all rfl))))
  k_with "call ref" => ((k_dflt (refine' call_bndL (pre := []) ?w9qF ?w9qN (fun _ h => nomatch h) ?w9qu ?w9qr ?_ ?w9qz; (case w9qF => k_asm); (case w9qN => k_asm); (case w9qu => assumption); (case w9qr => assumption); (case w9qz => (simp only [List.length_append, List.length_cons, List.length_nil]; decide))); intro h9W9 F9W9 N9W9; (try dsimp only)))
  k_with "call builtin:str.join" => ((k_dflt (refine' join_pair ?w9qN ?w9qm ?w9q1 ?w9q2 ?_; (case w9qN => k_asm); (case w9qm => k_memK); (case w9q1 => assumption); (case w9q2 => assumption)); intro tW9' kW9'))
  k_with "formatField str" => ((k_dflt (refine field_S (by simp only [List.length_append]; omega) ?_); intro tW9' kW9'))
  k_with "And" => (((with_reducible show Str.length _ ≤ sizeLine ∧ _); refine ⟨by (simp only [S_empty, lit_f1, lit_f2, S_app]; exact S_fits (by simp only [List.length_append, List.length_cons, List.length_nil] at *; omega)), ?_⟩))
  k_with "joinParts" => (k_dflt (refine join_S (l := [40, 63, 115, 58] ++ (x1 ++ x2) ++ [41, 92, 90]) (by rw [S_empty, lit_f1, lit_f2, S_app, S_app, S_app]; rfl) (by simp only [List.length_append, List.length_cons, List.length_nil]; omega) ?_); intro t' k')
  k_fill
  intro dp un gd cn cs ac ccd cl outer A₀ base h₀ L m s p loose mean mg mb Q E B F X N T hk hd hu hret
  refine wpAny_call ?_
  k_dflt ktr_enter
  have hb : jwS = jwS := rfl
  conv at hb => rhs; unfold jwS; whnf
  rw [← hb]
  k_extra "stp"
  rename Fr _ _ _ _ => F9
  rename News _ _ _ _ => N9
  rename _ < _ ∧ _ < _ ∧ _ < _ ∧ AllLt _ _ => lD
  rename _ < _ ∧ _ < _ ∧ AllLt _ _ => lU
  replace N9 := cb_drop N9 (fun q hq => .tail _ hq)
  rename I < _ ∧ AllLt _ _ => lR
  have qU := Nat.ne_of_gt lU.1
  have qR : ∀ p ∈ (I, listOf #[.str (S x1) t1, .str (S x2) t2] c) :: news, p.1 ≠ _ := allLt_ne lR
  clear lD lU lR
  rw [hb]
  clear hb
  k_extra "stp"
  exact hret _ _ _ _ (by k_asm) (cb_drop (by k_asm) fun q hq => .tail _ (.tail _ (.tail _ hq))) ⟨_⟩
end
end Mine
end

section
open PySem PySem.W PyProof.Rows PySem.Calls
set_option maxRecDepth 100000
set_option maxHeartbeats 8000000
namespace Mine
open PySem.Builtin
noncomputable def objO : Obj := { cls := .type "object", data := .plain }
theorem mro_object : mroOf (.type "object") = pure [.type "object"] := by rw [mroOf_type]; kernel_rfl

theorem lookup_object_new : typeLookup (.type "object") "__new__" = pure (some (.builtin "object.__new__")) := by rw [typeLookup_type, builtinLookup_eq_fast]; kernel_rfl

theorem made_object : Bind.madeBy (.type "object") = pure (some "object.__new__") := madeBy_type mro_object lookup_object_new (by decide +kernel)

theorem called_object : TypeCalled "object" "object.__new__" "object.__init__" :=
  ⟨by decide +kernel, by decide +kernel, ⟨_, _, mro_object⟩, made_object, by decide +kernel, by rw [isSubtype_type]; kernel_rfl, PySem.F.slot_object_init⟩
theorem typeCall_object : checkTypeCall "object" ⟨[], []⟩ = pure () := by kernel_rfl

theorem newCall_object : checkBuiltinCall "object.__new__" ⟨[.type "object"], []⟩ = pure () := by kernel_rfl

theorem base_object : Bind.staticBase (.type "object") = pure (.type "object") := by first | rfl | kernel_rfl

theorem here_object : Bind.madeHere "object.__new__" (.type "object") = pure () := by
  unfold Bind.madeHere
  rw [base_object]
  show (do let m ← Bind.madeBy (.type "object"); _) = _
  rw [made_object]
  kernel_rfl
theorem initArgs_object (a : Value) : argsOk "object.__init__" ⟨[a], []⟩ := by unfold argsOk; kernel_rfl

theorem new_object : Meets (Builtin.«object.__new__» ⟨[.type "object"], []⟩) (fun _ R s => R (.ok (.ret (.ref s.heap.objs.size))) { s with heap := s.heap.push objO }) :=
  .of_wp fun prog w A R s h => by
    unfold Builtin.«object.__new__»
    refine wpAny_bind (wpAny_pure ?_)
    rw [if_neg (by decide)]
    (try dsimp only)
    rw [if_neg (by decide +kernel)]
    rw [here_object]
    refine wpAny_bind (wpAny_pure ?_)
    rw [if_neg (by decide)]
    rw [if_neg (by decide +kernel)]
    refine wpAny_bind (wpAny_pure ?_)
    refine wpAny_bind (wpAny_newObj_type ?_)
    rw [if_neg (by decide +kernel)]
    exact wpAny_pure ⟨_, rfl, h⟩
theorem init_object (a : Value) : Meets (Builtin.«object.__init__» ⟨[a], []⟩) (fun _ R s => R (.ok (.ret .none)) s) :=
  .of_wp fun prog w A R s h => by
    unfold Builtin.«object.__init__»
    exact wpAny_pure ⟨_, rfl, h⟩
section
variable {prog : Program} {w : World} {A : Around} {E : Value → Shared → Prop} {s : Shared} {h₀ : Heap} {L : Addr} {m : Str → Option Value} {news : List (Addr × Obj)}
theorem object_call {Q : Value → Shared → Prop} (F : Fr h₀ L s.heap m) (N : News h₀ L s.heap news) (h : ∀ St h', Fr h₀ L h' m → News h₀ L h' ((St, objO) :: news) → (∀ p ∈ news, p.1 < St) → Q (.ref St) { s with heap := h' }) :
    wpAny (model prog w) A (call (.type "object") []) Q E s := by
  refine callType_meets (Q₁ := fun v s₁ => v = .ref s.heap.objs.size ∧ s₁ = { s with heap := s.heap.push objO }) called_object typeCall_object newCall_object PySem.F.entry_object_new PySem.F.entry_object_init new_object ⟨rfl, rfl⟩ fun obj s₁ ho => ?_
  obtain ⟨rfl, rfl⟩ := ho
  exact ⟨⟨_, Heap.get?_push_size _ rfl, rfl⟩, initArgs_object _, _, init_object _, rfl, h _ _ (F.push _) (News.push F N _) fun p hp => Heap.lt_size (N p hp).1⟩
end
end Mine
end

section
open PySem PySem.W PyProof.Rows
set_option maxRecDepth 100000
set_option maxHeartbeats 8000000
namespace Mine
noncomputable def trT (p q : Pl) : List Nat := [40, 63, 115, 58] ++ (p.tr ++ q.tr) ++ [41, 92, 90]
theorem tr_len : ∀ p : Pl, p.tr.length ≤ 20
  | .sign c => by simp only [Pl.tr, escP]; split <;> simp
  | .any => by simp [Pl.tr]
  | .rng n a b => by
    have h := esc_len [a, 45, b]
    simp only [List.length_cons, List.length_nil] at h
    simp only [Pl.tr]
    split
    · simp only [List.length_cons, List.length_append, List.length_nil]
      split <;> simp only [List.length_cons, List.length_nil] <;> omega
    · split <;> simp
theorem pat_len : ∀ p : Pl, p.pat.length ≤ 10
  | .sign c => by simp [Pl.pat]
  | .any => by simp [Pl.pat]
  | .rng n a b => by cases n <;> simp [Pl.pat, negL]
section
theorem translate2 (w : World) (a1 a2 : Pl) (hp : a1.ok) (hq : a2.ok) (t : Tok) (tl news) (hT : T2 tl) (hoff : ∀ q ∈ news, q.1 ≠ 106) :
    SpecG w 92 [.str (S (a1.pat ++ a2.pat)) t] 40 (tl ++ news) (fun r nw => ∃ t' tl', r = .str (S (trT a1 a2)) t' ∧ nw = tl' ++ news ∧ T2 tl') := by
  unfold SpecG
  k_with_none
  w_top off
  k_with "om" => (first | decide | (with_reducible first | (refine neN ?_; first | (refine Nat.ne_of_lt ?_; first | ((repeat (first | assumption | exact om_k1 | refine Nat.lt_succ_of_lt ?_)); done) | (apply And.left; (iterate 18 (first | done | assumption | apply And.right)); done)) | (refine Nat.ne_of_gt ?_; first | ((repeat (first | assumption | exact om_k1 | refine Nat.lt_succ_of_lt ?_)); done) | (apply And.left; (iterate 18 (first | done | assumption | apply And.right)); done)) | (refine Ne.symm ?_; assumption) | (refine om_s ?_; omega)) | exact om_le (by assumption) rfl | exact om_ll (by assumption) rfl | exact om_lt (by assumption) rfl | exact om_lg (by assumption) rfl | exact om_r1 (by assumption) rfl | exact om_r2 (by assumption) rfl | exact om_r3 (by assumption) rfl | exact om_il (by assumption) rfl | exact om_ig (by assumption) rfl | exact om_tn (by assumption) rfl | exact om_tl (by assumption) rfl | exact om_nc (by assumption) rfl | exact Int.natCast_nonneg _ | exact Int.le_of_lt (by assumption)) | (law_clear; lia))
  k_with "execs cons" => ((first | (k_here; k_gentoks) | (refine wpAny_execs_cons ?_; k_fold; (try k_extra "mlet"))))
  k_with "stp" => (repeat' (first | (k_unfold; (try dsimp only)) | (k_end; wrow_close) | (walk1; (all_goals (try dsimp only))) | (dsimp only; walk1) | (leave1; walk_say "STEP leave1"; try dsimp only) | fail "no step"))
  k_with "spliced" => (k_dflt (first | ((with_reducible show wpAny _ _ (spliced (backTo _ (starEach [_] _))) _ _ _); refine sp1 ?_) | ((with_reducible show wpAny _ _ (spliced (backTo _ (starEach [_, _] _))) _ _ _); refine sp2 ?_) | ((with_reducible show wpAny _ _ (spliced (backTo _ (starEach [_, _, _] _))) _ _ _); refine sp3 ?_)))
  k_with "call type:object" => ((k_dflt (refine' object_call ?w9qF ?w9qN ?_; (case w9qF => k_asm); (case w9qN => k_asm)); intro StW9' hW9' FW9' NW9' l1W9; (try dsimp only)))
  k_fill
  intro dp un gd cn cs ac ccd cl outer A₀ base h₀ L m s p loose mean mg mb Q E B F X N T hk hd hu hg hret
  refine wpAny_call ?_
  k_dflt ktr_enter
  k_extra "stp"
  rename Fr _ _ _ _ => F9
  rename News _ _ _ _ => N9
  rename Below _ _ _ _ => B9
  rename ∀ p ∈ tl ++ news, p.1 < _ => lS
  have hflat : a1.pat ++ a2.pat = flatP [a1, a2] := by simp [flatP]
  have hz : (flatP [a1, a2]).length ≤ 500 := by
    have h1 := pat_len a1
    have h2 := pat_len a2
    simp only [flatP, List.flatMap_cons, List.flatMap_nil, List.length_append, List.length_nil]
    omega
  have hS : (106 : Nat) < _ := (by obtain ⟨o, ho⟩ := hT.mem; exact lS _ (List.mem_append_left _ ho))
  have N9 : News _ _ _ (tl ++ ((_, objO) :: news)) := cb_drop N9 fun q hq => (by
    rcases List.mem_append.mp hq with hq | hq
    · exact .tail _ (List.mem_append_left _ hq)
    · rcases List.mem_cons.mp hq with rfl | hq
      · exact .head _
      · exact .tail _ (List.mem_append_right _ hq))
  rw [hflat, lit_dot]
  k_dflt (refine' SpecG.use (translateL w [a1, a2] ?ok hz _ _ _ _ _ hT ?off) ?B ?F ?X N9 ?T ?k ?d ?u hg ?_; (case B => k_asm); (case F => k_asm); (case X => k_asm); (case T => k_asm); (case k => first | exact rfl | assumption); (case d => ktr_room); (case u => ktr_units))
  case ok =>
    intro x hx
    simp only [List.mem_cons, List.not_mem_nil, or_false] at hx
    rcases hx with rfl | rfl <;> assumption
  case off =>
    intro x hx
    rcases List.mem_cons.mp hx with rfl | hx
    · exact Nat.ne_of_gt hS
    · exact hoff x hx
  rintro r nw s1 F1 N1 ⟨R, vs, c, tl', rfl, rfl, hT1, hV1⟩ hos1 hg1
  obtain ⟨t1, t2, rfl⟩ : ∃ t1 t2, vs = [.str (S a1.tr) t1, .str (S a2.tr) t2] := by
    cases hV1 with
    | cons _ t1 h => cases h with
      | cons _ t2 h => cases h; exact ⟨t1, t2, rfl⟩
  k_extra "stp"
  k_dflt (refine' Spec.use (joinL w a1.tr a2.tr (Nat.le_trans (tr_len _) (by decide)) (Nat.le_trans (tr_len _) (by decide)) _ _ t1 t2 c _) ?B ?F ?X ?N ?T ?k ?d ?u ?_; (case B => k_asm); (case F => k_asm); (case X => k_asm); (case N => k_asm); (case T => k_asm); (case k => first | exact rfl | assumption); (case d => ktr_room); (case u => ktr_units))
  rintro r nw h2 tk2 F2 N2 ⟨t'⟩
  (try dsimp only)
  k_extra "stp"
  refine hret _ _ _ (by k_asm) (cb_drop (by k_asm) fun q hq => ?_) ⟨_, tl', rfl, rfl, hT1⟩ hos1 hg1
  rcases List.mem_append.mp hq with hq | hq
  · exact List.mem_append_left _ hq
  · exact List.mem_append_right _ (.tail _ hq)
end
end Mine
end

section
open PySem PySem.W PyProof.Rows PyProof.Rows.LCg PyProof.Rows.LCt
set_option maxRecDepth 100000
set_option maxHeartbeats 8000000
namespace Mine
/-- the values that a comprehension gathers from its k last turns, the first of them the i-th -/
noncomputable def VAll (V : Nat → Value → Prop) (b : Nat → Bool) : Nat → Nat → List Value → Prop
  | 0, _, ys => ys = []
  | k + 1, i, ys => if b i = true then ∃ y r, ys = y :: r ∧ V i y ∧ VAll V b k (i + 1) r else VAll V b k (i + 1) ys
theorem VAll.ints {f : Nat → Int} {b : Nat → Bool} : ∀ {k i : Nat} {ys : List Value}, VAll (fun i y => ∃ t, y = .int (f i) t) b k i ys → IntsAre ys (((List.range' i k).filter b).map f)
  | 0, _, _, h => by cases h; exact .nil
  | k + 1, i, ys, h => by
    unfold VAll at h
    rw [List.range'_succ, List.filter_cons]
    split at h
    · rename_i hb
      obtain ⟨y, r, rfl, ⟨t, rfl⟩, h⟩ := h
      rw [if_pos hb]
      exact .cons _ _ (VAll.ints h)
    · rename_i hb
      rw [if_neg hb]
      exact VAll.ints h
theorem VAll.strs {f : Nat → Str} {b : Nat → Bool} : ∀ {k i : Nat} {ys : List Value}, VAll (fun i y => ∃ t, y = .str (f i) t) b k i ys → StrsAre ys (((List.range' i k).filter b).map f)
  | 0, _, _, h => by cases h; exact .nil
  | k + 1, i, ys, h => by
    unfold VAll at h
    rw [List.range'_succ, List.filter_cons]
    split at h
    · rename_i hb
      obtain ⟨y, r, rfl, ⟨t, rfl⟩, h⟩ := h
      rw [if_pos hb]
      exact .cons _ _ (VAll.strs h)
    · rename_i hb
      rw [if_neg hb]
      exact VAll.strs h
section
variable {prog : Program} {w : World} {A : Around} {s : Shared} {h₀ : Heap} {L : Addr} {m : Str → Option Value} {env : Env} {ct elt : PySem.Expr} {x : Str} {scope : Scope} {cl : List (Str × Addr)} {S : List (Addr × Obj) → Prop} {P : Nat → Value → Prop}
  {Fin : List Value → List (Addr × Obj) → Prop} {news : List (Addr × Obj)} {b : Nat → Bool} {V : Nat → Value → Prop} {M : Nat}
theorem restT (hS : S news)
    (turn : ∀ i v I oI C oC D ys m₂ h tk (E' : Value → Shared → Prop) (Q' : Bool → Shared → Prop), i < M → P i v → NsObj oC m₂ → m₂ x = some v → Fr h₀ L h m → News h₀ L h ((I, oI) :: (C, oC) :: (D, lst ys) :: news) →
      (∀ h' tk', Fr h₀ L h' m → News h₀ L h' ((I, oI) :: (C, oC) :: (D, lst ys) :: news) → Q' (b i) { s with heap := h', toks := tk' }) → wpAny (model prog w) A (isTrue ct (compEnvC scope cl C env) (eval ct (compEnvC scope cl C env))) Q' E' { s with heap := h, toks := tk })
    (el : ∀ i v I oI C oC D ys m₂ h tk (E' : Value → Shared → Prop) (Q' : Value → Shared → Prop), i < M → b i = true → P i v → NsObj oC m₂ → m₂ x = some v → Fr h₀ L h m → News h₀ L h ((I, oI) :: (C, oC) :: (D, lst ys) :: news) →
      (∀ y h' tk', V i y → Fr h₀ L h' m → News h₀ L h' ((I, oI) :: (C, oC) :: (D, lst ys) :: news) → Q' y { s with heap := h', toks := tk' }) → wpAny (model prog w) A (eval elt (compEnvC scope cl C env)) Q' E' { s with heap := h, toks := tk }) :
    ∀ n i ys, i + n ≤ M → (∀ ys', VAll V b n i ys' → Fin (ys ++ ys') news) → CompRestT prog w A h₀ L m env ct elt x scope cl s S P Fin n i ys news := by
  intro n
  induction n with
  | zero => intro i ys _ h; exact CompRestT.zero (by have := h [] rfl; rwa [List.append_nil] at this)
  | succ n ih =>
    intro i ys hM hfin
    refine CompRestT.succ fun v I oI C oC D m₂ h tk E' hP hN hm F N off ne => ?_
    refine turn i v I oI C oC D ys m₂ h tk E' _ (by omega) hP hN hm F N fun h' tk' F' N' => ?_
    cases hb : b i with
    | true =>
      rw [if_pos rfl]
      refine el i v I oI C oC D ys m₂ h' tk' E' _ (by omega) hb hP hN hm F' N' fun y h'' tk'' hV F'' N'' => ?_
      refine ⟨h'', tk'', news, rfl, F'', N'', off, hS, ih _ _ (by omega) fun ys' h => ?_⟩
      have := hfin (y :: ys') (by unfold VAll; rw [if_pos hb]; exact ⟨y, ys', rfl, hV, h⟩)
      rwa [List.append_assoc, List.singleton_append]
    | false =>
      rw [if_neg (by decide)]
      refine ⟨h', tk', news, rfl, F', N', off, hS, ih _ _ (by omega) fun ys' h => hfin ys' (by unfold VAll; rw [if_neg (by rw [hb]; decide)]; exact h)⟩
end
@[irreducible] noncomputable def Halt (p : Prop) : Prop := p
theorem Halt.of {p : Prop} (h : Halt p) : p := by unfold Halt at h; exact h

theorem Halt.to {p : Prop} (h : p) : Halt p := by unfold Halt; exact h

end Mine
end

section
open PySem PySem.W PyProof.Rows PyProof.Rows.LCg PyProof.Rows.LCt
set_option maxRecDepth 100000
set_option maxHeartbeats 8000000
namespace Mine
noncomputable def heldB (lo hi : Int) (i : Nat) : Bool := decide (lo ≤ (i : Int)) && decide ((i : Int) ≤ hi)
noncomputable def heldL (lo hi : Int) : List Int := ((List.range' 0 4).filter (heldB lo hi)).map fun i => ((i : Nat) : Int)
noncomputable def cLo (c : Int) : Int := c.fmod 4
noncomputable def cHi (c : Int) : Int := (c.fdiv 4).fmod 4
noncomputable def cKi (c : Int) : Int := (c.fdiv 16).fmod 4
noncomputable def heldN (lo hi : Int) : List Int := ((List.range' 0 4).filter (fun i => !heldB lo hi i)).map fun i => ((i : Nat) : Int)
noncomputable def plOf (c start : Int) : Pl := if cKi c = 0 then .sign (start + cLo c).toNat else if cKi c = 1 then .any else .rng (decide (cKi c ≠ 2)) (start + cLo c).toNat (start + cHi c).toNat
noncomputable def heldOf (c : Int) : List Int := if cKi c = 0 then [cLo c] else if cKi c = 1 then [0, 1, 2, 3] else if cKi c = 2 then heldL (cLo c) (cHi c) else heldN (cLo c) (cHi c)
theorem lit_qm : Str.ofString "?" = S [63] := by decide +kernel

theorem lit_b1 : Str.ofString "[" = S [91] := by decide +kernel

theorem lit_b2 : Str.ofString "[!" = S [91, 33] := by decide +kernel

theorem any_held {lo hi : Int} {i : Nat} (hi4 : i < 4) : (heldL lo hi).any (fun x => x == 0 + (i : Int)) = heldB lo hi i := by
  unfold heldL
  rw [List.any_map, List.any_filter, Bool.eq_iff_iff, List.any_eq_true]
  constructor
  · rintro ⟨j, _, hj⟩
    simp only [Function.comp, Bool.and_eq_true, beq_iff_eq] at hj
    have : j = i := by omega
    rw [← this]; exact hj.1
  · intro hb
    exact ⟨i, by simp [List.mem_range'_1]; exact hi4, by simp [hb]⟩
theorem news2 {h₀ h : Heap} {L : Addr} {a b : Addr × Obj} {more news : List (Addr × Obj)} (N : News h₀ L h (a :: b :: more)) (hs : ∀ q ∈ news, q ∈ more) : News h₀ L h (a :: b :: news) := cb_drop N fun q hq => by
  rcases List.mem_cons.mp hq with rfl | hq
  · exact .head _
  · rcases List.mem_cons.mp hq with rfl | hq
    · exact .tail _ (.head _)
    · exact .tail _ (.tail _ (hs q hq))
theorem off1_mem {D : Addr} {l : List (Addr × Obj)} (h : Off1 D l) : ∀ p ∈ l, p.1 ≠ D := by
  induction l with
  | nil => intro p hp; cases hp
  | cons x l ih =>
    intro p hp
    rcases List.mem_cons.mp hp with e | hp
    · rw [e]; exact h.1
    · exact ih h.2 p hp
section
inductive PoPl (pt : Str) (hs : List Int) (news : List (Addr × Obj)) : Value → List (Addr × Obj) → Prop
  | mk (x : Addr) (t : Tok) (D : Addr) (vs : List Value) (k : Nat) (pt' : Str) (zz2 : pt' = pt) (zz0 : IntsAre vs hs) (zz1 : ∀ p ∈ news, p.1 ≠ D) : PoPl pt hs news (.ref x) ((x, tup [.str pt' t, .ref D]) :: (D, listOf vs.toArray k) :: news)
theorem lawPlace (w : World) (cell start : Int) (tc ts : Tok) (news) (h0 : 0 ≤ cell) (hs : 97 ≤ start) (hs2 : start ≤ 60000) :
    Spec w 123 [.int cell tc, .int start ts] 5 news (PoPl (S (plOf cell start).pat) (heldOf cell) news) := by
  unfold Spec
  k_with_none
  w_top off
  k_with "om" => (first | decide | (with_reducible first | (refine neN ?_; first | (refine Nat.ne_of_lt ?_; first | ((repeat (first | assumption | exact om_k1 | refine Nat.lt_succ_of_lt ?_)); done) | (apply And.left; (iterate 18 (first | done | assumption | apply And.right)); done)) | (refine Nat.ne_of_gt ?_; first | ((repeat (first | assumption | exact om_k1 | refine Nat.lt_succ_of_lt ?_)); done) | (apply And.left; (iterate 18 (first | done | assumption | apply And.right)); done)) | (refine Ne.symm ?_; assumption) | (refine om_s ?_; omega)) | exact om_le (by assumption) rfl | exact om_ll (by assumption) rfl | exact om_lt (by assumption) rfl | exact om_lg (by assumption) rfl | exact om_r1 (by assumption) rfl | exact om_r2 (by assumption) rfl | exact om_r3 (by assumption) rfl | exact om_il (by assumption) rfl | exact om_ig (by assumption) rfl | exact om_tn (by assumption) rfl | exact om_tl (by assumption) rfl | exact om_nc (by assumption) rfl | exact Int.natCast_nonneg _ | exact Int.le_of_lt (by assumption)) | (law_clear; lia))
  k_with "execs cons" => ((first | (k_here; k_gentoks) | (refine wpAny_execs_cons ?_; k_fold; (try k_extra "mlet"))))
  k_with "stp" => (repeat' (first | (k_unfold; (try dsimp only)) | (k_end; wrow_close) | (walk1; (all_goals (try dsimp only))) | (dsimp only; walk1) | (leave1; walk_say "STEP leave1"; try dsimp only) | fail "no step"))
  k_with "spliced" => (k_dflt (first | ((with_reducible show wpAny _ _ (spliced (backTo _ (starEach [_] _))) _ _ _); refine sp1 ?_) | ((with_reducible show wpAny _ _ (spliced (backTo _ (starEach [_, _] _))) _ _ _); refine sp2 ?_) | ((with_reducible show wpAny _ _ (spliced (backTo _ (starEach [_, _, _] _))) _ _ _); refine sp3 ?_)))
  k_with "binaryOp Add str str" => ((k_dflt (first | (refine add_S rfl lit_da (by simp) (by simp) ?_) | (refine add_S rfl lit_cl (by simp) (by simp) ?_) | (refine add_S lit_b1 rfl (by simp) (by simp) ?_) | (refine add_S lit_b2 rfl (by simp) (by simp) ?_) | (refine add_S rfl rfl (by simp) (by simp) ?_)); intro tW9' kW9'))
  k_with "kall" => (first | assumption | exact off_lt (by assumption) (by omega))
  k_with "eval ListComp" => ((k_dflt (refine LCt.ListComp_T (F₀ := by k_asm) (by with_unfolding_all rfl) (by decide) (by rfl) (by decide) (by rfl) ?_)))
  k_with "CompSrcT" => ((k_dflt (refine LCt.CompSrcT.range (by rfl) (by k_asm) (by k_asm) (by assumption) (by first | decide | rfl) (by first | rfl | decide) (by first | decide | exact Nat.le_of_ble_eq_true rfl) ?_); intro gW9'; refine Halt.of ?_))
  k_with "eval Name" => (((with_reducible show wpAny _ _ (eval (PySem.Expr.Name _ _) (compEnvC _ _ _ _)) _ _ _); k_dflt (first
  | (refine LCgL.ld_own (by k_asm) (by k_memK) (by assumption) (by assumption) ?_)
  | (refine' lcf_cell ?w9N ?w9c ?w9m ?w9d ?_ ?w9a ?w9b; (case w9a => rfl); (case w9b => rfl); (case w9N => k_asm); (case w9c => rfl); (case w9m => k_memK); (case w9d => k_asm); k_whole)
  | (refine' lcf_free ?w9N ?w9c ?w9m ?w9d ?_ ?w9a ?w9b; (case w9a => rfl); (case w9b => rfl); (case w9N => k_asm); (case w9c => rfl); (case w9m => k_memK); (case w9d => k_asm); k_whole))))
  k_with "mlet" => ((have fW9 := ‹Fr _ _ _ _›); (refine (let mW9 : PySem.Str → Option PySem.Value := _; ((fun (_ : Fr _ _ _ mW9) => ?_) fW9))))
  k_fill
  intro dp un gd cn cs ac ccd cl outer A₀ base h₀ L m s p loose mean mg mb Q E B F X N T hk hd hu hret
  refine wpAny_call ?_
  k_dflt (refine' code_defC ?k1 ?k2 ?k3 ?k4 ?k5 ?kA ?kF ?kK ?k6 ?k7 ?k8 ?k9 ?kB ?kD ?_ ?c2 ?c3 ?c4; (case kA => exact rfl); (case kF => exact rfl); (case kK => assumption); (case k1 => k_asm); (case k2 => k_asm); (case k3 => k_asm); (case k4 => k_asm); (case k5 => k_asm); (case k6 => k_is); (case k7 => k_is); (case k8 => ktr_room); (case k9 => exact BindsTo.of_eq rfl); (case kB => exact rfl); (case kD => decide +kernel); (case c2 => exact rfl); (case c3 => exact rfl); (case c4 => exact rfl); k_whole; intro g' L' h' tk' cells' FG' F' N' Y' B' X' T' l1; (try k_lt l1); k_cells Y'; (try simp only [List.cons_append, List.nil_append] at N'); (try dsimp only); (try k_lift B'); (try k_fold))
  k_extra "stp"
  · have h : cKi cell = 0 := by assumption
    have e : (plOf cell start).pat = [(start + cell.fmod 4).toNat] := by unfold plOf; rw [if_pos h]; rfl
    refine hret _ _ _ _ (by k_asm) (news2 (by k_asm) (fun q hq => .tail _ (.tail _ (.tail _ (.tail _ hq))))) ⟨_, _, _, [_], 0, _, by rw [e], ?_, ?_⟩
    · unfold heldOf; rw [if_pos h]; exact .cons _ _ .nil
    · with_reducible rename (_ < _ ∧ _ < _ ∧ _ < _ ∧ _ < _ ∧ AllLt _ news) => q
      exact allLt_ne q.2.2.2.2
  · have h0 : ¬ cKi cell = 0 := by assumption
    have h : cKi cell = 1 := by assumption
    have e : (plOf cell start).pat = [63] := by unfold plOf; rw [if_neg h0, if_pos h]; rfl
    refine hret _ _ _ _ (by k_asm) (news2 (by k_asm) (fun q hq => .tail _ (.tail _ (.tail _ (.tail _ hq))))) ⟨_, _, _, [_, _, _, _], 0, _, by rw [e, ← lit_qm], ?_, ?_⟩
    · unfold heldOf; rw [if_neg h0, if_pos h]; exact .cons _ _ (.cons _ _ (.cons _ _ (.cons _ _ .nil)))
    · with_reducible rename (_ < _ ∧ _ < _ ∧ _ < _ ∧ _ < _ ∧ AllLt _ news) => q
      exact allLt_ne q.2.2.2.2
  refine Halt.to ?_
  have hf : ∀ i : Nat, heldB (cell.fmod 4) ((cell.fdiv 4).fmod 4) i = (decide (cell.fmod 4 ≤ (i : Int)) && decide ((i : Int) ≤ (cell.fdiv 4).fmod 4)) := fun _ => rfl
  refine restT (M := 4) (b := heldB (cell.fmod 4) ((cell.fdiv 4).fmod 4)) (V := fun i y => ∃ t, y = .int ((i : Nat) : Int) t) trivial ?_ ?_ _ _ _ (by decide) ?_
  · rintro i v I oI C oC D ys m2 h2 tk2 E' Q' hi4 ⟨t9, rfl⟩ hN hm F9 N9 hret9
    (try dsimp only)
    have hr := hret9 h2 tk2 F9 N9
    rw [hf] at hr
    k_extra "stp"
    · have h1 : cell.fmod 4 ≤ (i : Int) := by omega
      rw [decide_eq_true h1, Bool.true_and] at hr
      rw [Int.zero_add]; exact hr
    · have h1 : ¬ cell.fmod 4 ≤ (i : Int) := by omega
      rw [decide_eq_false h1, Bool.false_and] at hr
      exact hr
  · rintro i v I oI C oC D ys m2 h2 tk2 E' Q' hi4 hb ⟨t9, rfl⟩ hN hm F9 N9 hret9
    (try dsimp only)
    k_extra "stp"
    exact hret9 _ _ _ ⟨t9, by rw [Int.zero_add]⟩ F9 N9
  · intro ys' hys D9 h9 tk9 F9 N9 o9
    (try dsimp only)
    have hys : IntsAre ys' (heldL (cell.fmod 4) ((cell.fdiv 4).fmod 4)) := VAll.ints hys
    simp only [Off1] at o9
    k_extra "stp"
    · have h0 : ¬ cKi cell = 0 := by assumption
      have h1 : ¬ cKi cell = 1 := by assumption
      have h2 : cKi cell = 2 := by assumption
      have e : (plOf cell start).pat = [91, (start + cell.fmod 4).toNat, 45, (start + (cell.fdiv 4).fmod 4).toNat, 93] := by unfold plOf; rw [if_neg h0, if_neg h1, h2]; rfl
      refine hret _ _ _ _ (by k_asm) (news2 (by k_asm) (fun q hq => .tail _ (.tail _ (.tail _ (.tail _ hq))))) ⟨_, _, _, ys', ys'.length, _, by (rw [e]; try rfl), ?_, off1_mem o9.2.2.2.2⟩
      unfold heldOf; rw [if_neg h0, if_neg h1, if_pos h2]; exact hys
    · have h0 : ¬ cKi cell = 0 := by assumption
      have h1 : ¬ cKi cell = 1 := by assumption
      have h2 : ¬ cKi cell = 2 := by assumption
      have e : (plOf cell start).pat = [91, 33, (start + cell.fmod 4).toNat, 45, (start + (cell.fdiv 4).fmod 4).toNat, 93] := by unfold plOf; rw [if_neg h0, if_neg h1, decide_eq_true h2]; rfl
      refine Halt.to ?_
      refine restT (M := 4) (b := fun i => !heldB (cell.fmod 4) ((cell.fdiv 4).fmod 4) i) (V := fun i y => ∃ t, y = .int ((i : Nat) : Int) t) trivial ?_ ?_ _ _ _ (by decide) ?_
      · rintro i v I oI C oC D ys m2 h3 tk2 E' Q' hi4 ⟨t9, rfl⟩ hN hm F9 N9 hret9
        (try dsimp only)
        k_extra "stp"
        rw [any_held hi4]
        exact hret9 _ _ F9 N9
      · rintro i v I oI C oC D ys m2 h2 tk2 E' Q' hi4 hb ⟨t9, rfl⟩ hN hm F9 N9 hret9
        (try dsimp only)
        k_extra "stp"
        exact hret9 _ _ _ ⟨t9, by rw [Int.zero_add]⟩ F9 N9
      · intro ys2 hys2 D2 h3 tk2 F2 N2 o2
        (try dsimp only)
        have hys2 : IntsAre ys2 (heldN (cell.fmod 4) ((cell.fdiv 4).fmod 4)) := VAll.ints hys2
        simp only [Off1] at o2
        k_extra "stp"
        refine hret _ _ _ _ (by k_asm) (news2 (by k_asm) (fun q hq => .tail _ (.tail _ (.tail _ (.tail _ (.tail _ hq)))))) ⟨_, _, _, ys2, ys2.length, _, by (rw [e]; try rfl), ?_, off1_mem o2.2.2.2.2.2⟩
        unfold heldOf; rw [if_neg h0, if_neg h1, if_neg h2]; exact hys2
end
end Mine
end

section
open PySem PySem.W PyProof.Rows
set_option maxRecDepth 100000
set_option maxHeartbeats 8000000
namespace Mine
/-- the text of a sign: bare, or behind a backslash -/
noncomputable def sgT (x : Nat × Bool) : List Nat := if x.2 then [x.1] else [92, x.1]
noncomputable def sgL (l : List (Nat × Bool)) : List Nat := l.flatMap sgT
/-- a list of sign tuples on the ledger -/
noncomputable def SgAt (tl : List (Addr × Obj)) : List Value → List (Nat × Bool) → Prop
  | [], [] => True
  | v :: vs, x :: r => (∃ a t, v = .ref a ∧ (a, tup [.str (S [x.1]) t, .bool x.2]) ∈ tl) ∧ SgAt tl vs r
  | _, _ => False
theorem SgAt.snoc {tl : List (Addr × Obj)} {a : Addr} {t : Tok} {x : Nat × Bool} : ∀ {vs : List Value} {r : List (Nat × Bool)}, SgAt tl vs r → SgAt ((a, tup [.str (S [x.1]) t, .bool x.2]) :: tl) (vs ++ [.ref a]) (r ++ [x])
  | [], [], _ => ⟨⟨a, t, rfl, .head _⟩, trivial⟩
  | v :: vs, y :: r, h => ⟨by obtain ⟨a', t', h1, h2⟩ := h.1; exact ⟨a', t', h1, .tail _ h2⟩, h.2.snoc⟩
  | [], _ :: _, h => h.elim
  | _ :: _, [], h => h.elim
theorem SgAt.length {tl : List (Addr × Obj)} : ∀ {vs : List Value} {r : List (Nat × Bool)}, SgAt tl vs r → vs.length = r.length
  | [], [], _ => rfl
  | _ :: _, _ :: _, h => by simp [h.2.length]
  | [], _ :: _, h => h.elim
  | _ :: _, [], h => h.elim
theorem drop_len (a r : List Nat) (n : Nat) : (a ++ r).drop (a.length + n) = r.drop n := by
  induction a with
  | nil => simp
  | cons x a ih => rw [List.length_cons, Nat.add_right_comm]; exact ih
theorem news_swap {h₀ h : Heap} {L : Addr} {a b : Addr × Obj} {r : List (Addr × Obj)} (N : News h₀ L h (a :: b :: r)) : News h₀ L h (b :: a :: r) := cb_drop N fun q hq => by
  rcases List.mem_cons.mp hq with rfl | hq
  · exact .tail _ (.head _)
  · rcases List.mem_cons.mp hq with rfl | hq
    · exact .head _
    · exact .tail _ (.tail _ hq)
theorem sgL_app (a b : List (Nat × Bool)) : sgL (a ++ b) = sgL a ++ sgL b := by simp [sgL]

theorem sgL_len : ∀ l : List (Nat × Bool), l.length ≤ (sgL l).length
  | [] => Nat.le_refl _
  | x :: r => by
    have h := sgL_len r
    show r.length + 1 ≤ (sgT x ++ sgL r).length
    have h1 : 1 ≤ (sgT x).length := by unfold sgT; split <;> simp
    rw [List.length_append]; omega
@[irreducible] noncomputable def whG : Stmt := nthS (fdBody (topStmt 23)) 1
section
inductive SgJ (g' : Heap) (L' D : Addr) (s : Shared) (sg : List (Nat × Bool)) (news : List (Addr × Obj)) (n : Nat) (s' : Shared) : Prop
  | mk (done rest : List (Nat × Bool)) (h2 : Heap) (tk2 : Nat) (m2 : Str → Option Value) (vs : List Value) (c : Nat) (tl : List (Addr × Obj)) (zz0 : sg = done ++ rest) (zz1 : n = rest.length) (zz2 : s' = { s with heap := h2, toks := tk2 }) (zz3 : Fr g' L' h2 m2) (zz4 : ∃ t, m2 "body" = some (.str (S (sgL sg)) t)) (zz5 : m2 "signs" = some (.ref D)) (zz6 : ∃ t, m2 "k" = some (.int ((sgL done).length : Nat) t))
      (zz7 : News g' L' h2 ((D, listOf vs.toArray c) :: (tl ++ news))) (zz8 : SgAt tl vs done) (zz9 : ∀ p ∈ tl ++ news, p.1 ≠ D) (zz10 : ∀ p ∈ tl, ∀ q ∈ news, p.1 ≠ q.1) : SgJ g' L' D s sg news n s'
inductive PoSg (sg : List (Nat × Bool)) (news : List (Addr × Obj)) : Value → List (Addr × Obj) → Prop
  | mk (D : Addr) (vs : List Value) (k : Nat) (tl : List (Addr × Obj)) (zz0 : SgAt tl vs sg) (zz1 : ∀ p ∈ tl ++ news, p.1 ≠ D) (zz2 : ∀ p ∈ tl, ∀ q ∈ news, p.1 ≠ q.1) : PoSg sg news (.ref D) ((D, listOf vs.toArray k) :: (tl ++ news))
theorem lawSigns (w : World) (sg : List (Nat × Bool)) (hsg : ∀ x ∈ sg, x.2 = true → x.1 ≠ 92) (hz : (sgL sg).length ≤ 500) (t : Tok) (news) :
    Spec w 137 [.str (S (sgL sg)) t] 5 news (PoSg sg news) := by
  unfold Spec
  k_with_none
  w_top off
  k_with "om" => (first | decide | (with_reducible first | (refine neN ?_; first | (refine Nat.ne_of_lt ?_; first | ((repeat (first | assumption | exact om_k1 | refine Nat.lt_succ_of_lt ?_)); done) | (apply And.left; (iterate 18 (first | done | assumption | apply And.right)); done)) | (refine Nat.ne_of_gt ?_; first | ((repeat (first | assumption | exact om_k1 | refine Nat.lt_succ_of_lt ?_)); done) | (apply And.left; (iterate 18 (first | done | assumption | apply And.right)); done)) | (refine Ne.symm ?_; assumption) | (refine om_s ?_; omega)) | exact om_le (by assumption) rfl | exact om_ll (by assumption) rfl | exact om_lt (by assumption) rfl | exact om_lg (by assumption) rfl | exact om_r1 (by assumption) rfl | exact om_r2 (by assumption) rfl | exact om_r3 (by assumption) rfl | exact om_il (by assumption) rfl | exact om_ig (by assumption) rfl | exact om_tn (by assumption) rfl | exact om_tl (by assumption) rfl | exact om_nc (by assumption) rfl | exact Int.natCast_nonneg _ | exact Int.le_of_lt (by assumption)) | (law_clear; lia))
  k_with "execs cons" => ((first | (k_here; k_gentoks) | (refine wpAny_execs_cons ?_; k_fold; (try k_extra "mlet"))))
  k_with "stp" => (repeat' (first | (k_unfold; (try dsimp only)) | (k_end; wrow_close) | (walk1; (all_goals (try dsimp only))) | (dsimp only; walk1) | (leave1; walk_say "STEP leave1"; try dsimp only) | fail "no step"))
  k_with "eval Name" => ((k_dflt (refine' ld ?w9k1 ?w9k2 ?_; (case w9k1 => k_asm); (case w9k2 => first | with_reducible assumption | exact rfl | assumption); k_whole)))
  k_with "loadName" => ((k_dflt (refine' ldn ?w9k1 ?w9k2 ?_; (case w9k1 => k_asm); (case w9k2 => first | with_reducible assumption | exact rfl | assumption); k_whole)))
  k_with "compareOp NotEq str str" => ((k_dflt (first | (refine ne_yes lit_bs rfl ?_) | (refine ne_no lit_bs (one_ne (by assumption)) ?_))))
  k_with "call builtin:len" => (((with_reducible show wpAny _ _ (call (Value.builtin "len") [Value.str _ _]) _ _ _); k_dflt (refine' len_S ?w9z ?_; (case w9z => omega)); intro tW9' kW9'))
  k_with "subscriptTail Name Name str int" => (((with_reducible show wpAny _ _ (subscriptTail _ _ (Value.str _ _) (Value.int _ _)) _ _ _); k_dflt (refine' sub_S ?w9a ?w9b ?w9z ?_ ?w9e; (case w9a => omega); (case w9b => first | assumption | exact at_idx (by assumption) (by omega)); (case w9z => omega); (case w9e => with_unfolding_all rfl)); intro tW9' kW9'))
  k_with "getMethod ref" => ((k_dflt (refine' kl_method ?w9N ?w9m PySem.F.slot_list_append PySem.F.type_list_append ?_; (case w9N => k_asm); (case w9m => k_memK))))
  k_fill
  intro dp un gd cn cs ac ccd cl outer A₀ base h₀ L m s p loose mean mg mb Q E B F X N T hk hd hu hret
  refine wpAny_call ?_
  k_dflt ktr_enter
  have hb : whG = whG := rfl
  conv at hb => rhs; unfold whG; whnf
  rw [← hb]
  k_extra "stp"
  rename Fr _ _ _ _ => F9
  rename News _ _ _ _ => N9
  rename (∀ p ∈ news, p.1 < _) => lA
  rw [hb]
  clear hb
  refine (let JW9 : Nat → Shared → Prop := SgJ _ _ _ s sg news; While_nx JW9
    (n₀ := sg.length) ⟨[], sg, _, _, _, [], 0, [], rfl, rfl, rfl, F9, ⟨_, rfl⟩, rfl, ⟨_, rfl⟩, cb_drop N9 (fun q hq => .tail _ hq), trivial, fun p hp => Nat.ne_of_lt (lA p hp), fun _ h => nomatch h⟩ ?_)
  clear F9 N9 lA
  rintro n s' ⟨done, rest, h2, tk2, m2, vs, c, tl, hps, hn, rfl, F9, ⟨tb, mbody⟩, msigns, ⟨t9, mk9⟩, N9, hV, hD, hA⟩
  have hlen : (sgL sg).length = (sgL done).length + (sgL rest).length := by rw [hps, sgL_app, List.length_append]
  cases rest with
  | nil =>
    have hil : (sgL done).length = (sgL sg).length := by simpa [sgL] using hlen.symm
    k_extra "stp"
    · rw [List.append_nil] at hps
      exact hret _ _ _ _ (by k_asm) (by k_asm) ⟨_, vs, c, tl, hps ▸ hV, hD, hA⟩
  | cons x rest =>
    have hx := hsg x (by rw [hps]; exact List.mem_append_right _ (.head _))
    have hvl : vs.length ≤ 1000 := by
      have h1 := hV.length
      have h2 := sgL_len done
      omega
    obtain ⟨xc, xb⟩ := x
    cases xb with
    | true =>
      have hx : xc ≠ 92 := hx rfl
      have hc0 : (sgL sg)[((sgL done).length : Int).toNat]? = some xc := by rw [hps]; simp [sgL, sgT]
      have hlt : (sgL done).length < (sgL sg).length := by rw [hlen]; simp [sgL, sgT]
      k_extra "stp"
      rename Fr _ _ _ _ => F8
      rename News _ _ _ _ => N8
      rename _ < _ ∧ AllLt _ _ => lT
      have e9 : Txt.slice (S (sgL sg)) (some (((sgL done).length : Int) + if (!true) = true then 1 else 0)) (some ((((sgL done).length : Int) + if (!true) = true then 1 else 0) + 1)) = S [xc] := by
        rw [S_cut (by simp <;> omega) (by omega) (by simp <;> omega)]
        congr 1
        have e1 : (((sgL done).length : Int) + if (!true) = true then 1 else 0).toNat = (sgL done).length + 0 := by simp; try omega
        rw [e1, show ((((sgL done).length : Int) + if (!true) = true then 1 else 0) + 1 - (((sgL done).length : Int) + if (!true) = true then 1 else 0)).toNat = 1 by omega, hps, sgL_app, drop_len]
        rfl
      rw [e9] at N8
      have N7 := newsPush (news_swap N8)
      have ei : ((sgL (done ++ [(xc, true)])).length : Int) = ((sgL done).length : Int) + (if (!true) = true then 1 else 0) + 1 := by simp [sgL, sgT]; try omega
      refine NextJ.mk (n' := rest.length) (by rw [hn]; exact Nat.lt_succ_self _) ⟨done ++ [(xc, true)], rest, _, _, _, vs ++ [.ref _], _, (_, _) :: tl, by rw [hps]; simp, rfl, rfl, by k_asm, ⟨_, by assumption⟩, by assumption, ⟨_, by rw [ei]; exact rfl⟩, by k_asm, hV.snoc, List.forall_mem_cons.mpr ⟨Nat.ne_of_gt lT.1, hD⟩, List.forall_mem_cons.mpr ⟨fun q hq => Ne.symm (allLt_ne lT.2 q (List.mem_append_right _ hq)), hA⟩⟩
    | false =>
      have hc0 : (sgL sg)[((sgL done).length : Int).toNat]? = some 92 := by rw [hps]; simp [sgL, sgT]
      have hlt : (sgL done).length + 1 < (sgL sg).length := by rw [hlen]; simp [sgL, sgT]
      k_extra "stp"
      rename Fr _ _ _ _ => F8
      rename News _ _ _ _ => N8
      rename _ < _ ∧ AllLt _ _ => lT
      have e9 : Txt.slice (S (sgL sg)) (some (((sgL done).length : Int) + if (!false) = true then 1 else 0)) (some ((((sgL done).length : Int) + if (!false) = true then 1 else 0) + 1)) = S [xc] := by
        rw [S_cut (by simp <;> omega) (by omega) (by simp <;> omega)]
        congr 1
        have e1 : (((sgL done).length : Int) + if (!false) = true then 1 else 0).toNat = (sgL done).length + 1 := by simp; try omega
        rw [e1, show ((((sgL done).length : Int) + if (!false) = true then 1 else 0) + 1 - (((sgL done).length : Int) + if (!false) = true then 1 else 0)).toNat = 1 by omega, hps, sgL_app, drop_len]
        rfl
      rw [e9] at N8
      have N7 := newsPush (news_swap N8)
      have ei : ((sgL (done ++ [(xc, false)])).length : Int) = ((sgL done).length : Int) + (if (!false) = true then 1 else 0) + 1 := by simp [sgL, sgT]; try omega
      refine NextJ.mk (n' := rest.length) (by rw [hn]; exact Nat.lt_succ_self _) ⟨done ++ [(xc, false)], rest, _, _, _, vs ++ [.ref _], _, (_, _) :: tl, by rw [hps]; simp, rfl, rfl, by k_asm, ⟨_, by assumption⟩, by assumption, ⟨_, by rw [ei]; exact rfl⟩, by k_asm, hV.snoc, List.forall_mem_cons.mpr ⟨Nat.ne_of_gt lT.1, hD⟩, List.forall_mem_cons.mpr ⟨fun q hq => Ne.symm (allLt_ne lT.2 q (List.mem_append_right _ hq)), hA⟩⟩
end
end Mine
end

section
open PySem PySem.W PyProof.Rows
set_option maxRecDepth 100000
set_option maxHeartbeats 8000000
namespace Mine
theorem pow_big {prog : Program} {w : World} {A : Around} {E : Value → Shared → Prop} {s : Shared} {a n : Int} {t u : Tok} {Q : Value → Shared → Prop} (hn : 0 ≤ n) (hn4 : n ≤ 4) (ha : Builtin.Int.intBits a ≤ 6000) (h : Q (.int (a ^ n.toNat) s.toks) { s with toks := s.toks + 1 }) : wpAny (model prog w) A (binaryOp .Pow (.int a t) (.int n u)) Q E s := by
  refine pow_int hn ?_ h
  have h1 : (Builtin.Int.intBits a : Int) * n ≤ 6000 * n := Int.mul_le_mul_of_nonneg_right (by omega) hn
  omega
@[irreducible] noncomputable def EndR (h₀ : Heap) (L : Addr) (s : Shared) (news : List (Addr × Obj)) (P : (Str → Option Value) → Prop) (s' : Shared) : Prop :=
  ∃ h' tk' m', s' = { s with heap := h', toks := tk' } ∧ Fr h₀ L h' m' ∧ News h₀ L h' news ∧ P m'
theorem EndR.mk {h₀ : Heap} {L : Addr} {s : Shared} {news : List (Addr × Obj)} {P : (Str → Option Value) → Prop} {h' : Heap} {tk' : Nat} {m' : Str → Option Value} (F : Fr h₀ L h' m') (N : News h₀ L h' news) (hP : P m') : EndR h₀ L s news P { s with heap := h', toks := tk' } := by
  unfold EndR; exact ⟨h', tk', m', rfl, F, N, hP⟩
theorem rangeFold {prog : Program} {w : World} {A : Around} {E : Value → Shared → Prop} {s : Shared} {env : Env} {h₀ : Heap} {x : Str} {body : List Stmt} {Q : Flow → Shared → Prop} {I : Addr} {a : Int} {n : Nat} {news : List (Addr × Obj)}
    (J : Nat → (Str → Option Value) → Prop) (off : ∀ p ∈ news, p.1 ≠ I)
    (turn : ∀ (i : Nat) m t h tk, i < n → J i m → Fr h₀ env.locals h (fun y => if y = x then some (.int (a + (i : Int)) t) else m y) → News h₀ env.locals h ((I, itR (a + ((i + 1 : Nat) : Int)) ((n : Int) - ((i + 1 : Nat) : Int))) :: news) →
      wpAny (model prog w) A (execs body env) (fun f s' => match f with
        | .ret v => Q (.ret v) s'
        | .brk => Q .next s'
        | _ => EndR h₀ env.locals s ((I, itR (a + ((i + 1 : Nat) : Int)) ((n : Int) - ((i + 1 : Nat) : Int))) :: news) (J (i + 1)) s') E { s with heap := h, toks := tk })
    (done : ∀ m h tk, J n m → Fr h₀ env.locals h m → News h₀ env.locals h news → Q .next { s with heap := h, toks := tk }) :
    ∀ k i m, i + k = n → J i m → RangeRest prog w A E h₀ env x body Q s I a n k i m news := by
  intro k
  induction k with
  | zero =>
    intro i m hi hJ
    have hi : i = n := hi
    subst hi
    exact RangeRest.zero fun h tk F N => done m h tk hJ F N
  | succ k ih =>
    intro i m hi hJ
    refine RangeRest.succ fun t h tk F N => ?_
    refine wpAny_mono (turn i m t h tk (by omega) hJ F N) (fun f s' hf => ?_) fun _ _ e => e
    have fin : EndR h₀ env.locals s ((I, itR (a + ((i + 1 : Nat) : Int)) ((n : Int) - ((i + 1 : Nat) : Int))) :: news) (J (i + 1)) s' →
        UnrEnd h₀ env.locals { s with heap := h, toks := tk } I (itR (a + ((i + 1 : Nat) : Int)) ((n : Int) - ((i + 1 : Nat) : Int))) (RangeRest prog w A E h₀ env x body Q s I a n k (i + 1)) s' := by
      intro hr
      unfold EndR at hr
      obtain ⟨h', tk', m', rfl, F', N', hP⟩ := hr
      exact ⟨h', tk', m', news, rfl, F', N', off, ih _ _ (by omega) hP⟩
    cases f with
    | ret v => exact hf
    | brk => exact hf
    | next => exact fin hf
    | cont => exact fin hf
noncomputable def inn (ns : List Int) (k : Int) : Bool := ns.any (· == k)
noncomputable def cornW (ns : List Int) (p : Int) : Nat → Int
  | 0 => 0
  | i + 1 => cornW ns p i + (if inn ns ((i : Int) - 1) && !inn ns i then p ^ i else 0) - (if inn ns i && !inn ns ((i : Int) - 1) then p ^ i else 0)
theorem corn_step {ns : List Int} {p : Int} {i : Nat} {b1 b2 : Bool} (h1 : inn ns (0 + (i : Int) - 1) = b1) (h2 : inn ns (0 + (i : Int)) = b2) :
    cornW ns p (i + 1) = cornW ns p i + (if b1 && !b2 then p ^ (0 + (i : Int)).toNat else 0) - (if b2 && !b1 then p ^ (0 + (i : Int)).toNat else 0) := by
  rw [Int.zero_add] at *
  rw [cornW, h1, h2]; rfl
theorem in_H {prog : Program} {w : World} {A : Around} {E : Value → Shared → Prop} {s : Shared} {h₀ : Heap} {L D : Addr} {news : List (Addr × Obj)} {vs : List Value} {n : Nat} {ns : List Int} {k : Int} {t : Tok} {Q : Value → Shared → Prop} (N : News h₀ L s.heap news) (hm : (D, listOf vs.toArray n) ∈ news) (hv : IntsAre vs ns)
    (h : Q (.bool (inn ns k)) s) : wpAny (model prog w) A (compareOp .In (.int k t) (.ref D)) Q E s := in_list_ints (News.isList N hm) hv h
theorem notin_H {prog : Program} {w : World} {A : Around} {E : Value → Shared → Prop} {s : Shared} {h₀ : Heap} {L D : Addr} {news : List (Addr × Obj)} {vs : List Value} {n : Nat} {ns : List Int} {k : Int} {t : Tok} {Q : Value → Shared → Prop} (N : News h₀ L s.heap news) (hm : (D, listOf vs.toArray n) ∈ news) (hv : IntsAre vs ns)
    (h : Q (.bool (!inn ns k)) s) : wpAny (model prog w) A (compareOp .NotIn (.int k t) (.ref D)) Q E s := notin_list_ints (News.isList N hm) hv h
@[irreducible] noncomputable def foC : Stmt := nthS (fdBody (topStmt 22)) 1
section
theorem lawCorners (w : World) (H : Addr) (vs : List Value) (k : Nat) (ns : List Int) (power : Int) (t : Tok) (news) (hv : IntsAre vs ns) (hm : (H, listOf vs.toArray k) ∈ news) (hp : Builtin.Int.intBits power ≤ 6000) :
    Spec w 130 [.ref H, .int power t] 5 news (PoInt (cornW ns power 5) news) := by
  unfold Spec
  k_with_none
  w_top off
  k_with "om" => (first | decide | (with_reducible first | (refine neN ?_; first | (refine Nat.ne_of_lt ?_; first | ((repeat (first | assumption | exact om_k1 | refine Nat.lt_succ_of_lt ?_)); done) | (apply And.left; (iterate 18 (first | done | assumption | apply And.right)); done)) | (refine Nat.ne_of_gt ?_; first | ((repeat (first | assumption | exact om_k1 | refine Nat.lt_succ_of_lt ?_)); done) | (apply And.left; (iterate 18 (first | done | assumption | apply And.right)); done)) | (refine Ne.symm ?_; assumption) | (refine om_s ?_; omega)) | exact om_le (by assumption) rfl | exact om_ll (by assumption) rfl | exact om_lt (by assumption) rfl | exact om_lg (by assumption) rfl | exact om_r1 (by assumption) rfl | exact om_r2 (by assumption) rfl | exact om_r3 (by assumption) rfl | exact om_il (by assumption) rfl | exact om_ig (by assumption) rfl | exact om_tn (by assumption) rfl | exact om_tl (by assumption) rfl | exact om_nc (by assumption) rfl | exact Int.natCast_nonneg _ | exact Int.le_of_lt (by assumption)) | (law_clear; lia))
  k_with "execs cons" => ((first | (k_here; k_gentoks) | (refine wpAny_execs_cons ?_; k_fold; (try k_extra "mlet"))))
  k_with "stp" => (repeat' (first | (k_unfold; (try dsimp only)) | (k_end; wrow_close) | (walk1; (all_goals (try dsimp only))) | (dsimp only; walk1) | (leave1; walk_say "STEP leave1"; try dsimp only) | fail "no step"))
  k_with "spliced" => (k_dflt (first | ((with_reducible show wpAny _ _ (spliced (backTo _ (starEach [_] _))) _ _ _); refine sp1 ?_) | ((with_reducible show wpAny _ _ (spliced (backTo _ (starEach [_, _] _))) _ _ _); refine sp2 ?_) | ((with_reducible show wpAny _ _ (spliced (backTo _ (starEach [_, _, _] _))) _ _ _); refine sp3 ?_)))
  k_with "RangeRest" => ((refine Halt.of ?_))
  k_with "eval Name" => ((k_dflt (refine' ld ?w9k1 ?w9k2 ?_; (case w9k1 => k_asm); (case w9k2 => first | with_reducible assumption | exact rfl | assumption); k_whole)))
  k_with "loadName" => ((k_dflt (refine' ldn ?w9k1 ?w9k2 ?_; (case w9k1 => k_asm); (case w9k2 => first | with_reducible assumption | exact rfl | assumption); k_whole)))
  k_with "compareOp In int ref" => ((k_dflt (refine' in_H ?w9qN ?w9qm ?w9qv ?_; (case w9qN => k_asm); (case w9qm => (first | exact List.mem_cons_of_mem _ (by assumption) | assumption)); (case w9qv => assumption))))
  k_with "compareOp NotIn int ref" => ((k_dflt (refine' notin_H ?w9qN ?w9qm ?w9qv ?_; (case w9qN => k_asm); (case w9qm => (first | exact List.mem_cons_of_mem _ (by assumption) | assumption)); (case w9qv => assumption))))
  k_with "binaryOp Pow int int" => ((k_dflt (refine pow_big (by omega) (by omega) (by assumption) ?_)))
  k_fill
  intro dp un gd cn cs ac ccd cl outer A₀ base h₀ L m s p loose mean mg mb Q E B F X N T hk hd hu hret
  refine wpAny_call ?_
  k_dflt ktr_enter
  k_extra "stp"
  refine Halt.to ?_
  rename News _ _ _ _ => N9
  rename (∀ p ∈ news, p.1 < _) => lI
  refine rangeFold (fun i m => m "held" = some (.ref H) ∧ (∃ t, m "power" = some (.int power t)) ∧ ∃ t, m "worth" = some (.int (cornW ns power i) t)) (fun p hp => Nat.ne_of_lt (lI p hp)) ?_ ?_ 5 0 _ rfl ⟨rfl, ⟨_, rfl⟩, ⟨_, rfl⟩⟩
  · rintro i m5 t5 h5 tk5 hi ⟨mh, ⟨tp, mp⟩, tw, mw⟩ F5 N5
    (try dsimp only)
    k_extra "stp"
    · have e : cornW ns power (i + 1) = cornW ns power i := by rw [corn_step (b1 := true) (b2 := true) (by assumption) (by assumption)]; simp
      refine EndR.mk (by k_asm) (by k_asm) ⟨by assumption, ⟨_, by assumption⟩, ⟨_, by rw [e]; first | exact rfl | assumption⟩⟩
    · have e : cornW ns power (i + 1) = cornW ns power i + power ^ (0 + (i : Int)).toNat := by rw [corn_step (b1 := true) (b2 := false) (by assumption) (by assumption)]; simp
      refine EndR.mk (by k_asm) (by k_asm) ⟨by assumption, ⟨_, by assumption⟩, ⟨_, by rw [e]; first | exact rfl | assumption⟩⟩
    · have e : cornW ns power (i + 1) = cornW ns power i - power ^ (0 + (i : Int)).toNat := by rw [corn_step (b1 := false) (b2 := true) (by assumption) (by assumption)]; simp
      refine EndR.mk (by k_asm) (by k_asm) ⟨by assumption, ⟨_, by assumption⟩, ⟨_, by rw [e]; first | exact rfl | assumption⟩⟩
    · have e : cornW ns power (i + 1) = cornW ns power i := by rw [corn_step (b1 := false) (b2 := false) (by assumption) (by assumption)]; simp
      refine EndR.mk (by k_asm) (by k_asm) ⟨by assumption, ⟨_, by assumption⟩, ⟨_, by rw [e]; first | exact rfl | assumption⟩⟩
  · rintro m5 h5 tk5 ⟨mh, ⟨tp, mp⟩, tw, mw⟩ F5 N5
    (try dsimp only)
    k_extra "stp"
    exact hret _ _ _ _ (by k_asm) (by k_asm) ⟨_⟩
end
end Mine
end

section
open PySem PySem.W PyProof.Rows PyProof.Rows.LCg PyProof.Rows.LCt
set_option maxRecDepth 100000
set_option maxHeartbeats 8000000
namespace Mine
noncomputable abbrev two (elt t1 it1 t2 it2 : PySem.Expr) (cts : List PySem.Expr) (scope : Scope) (pos : Pos) : PySem.Expr := .ListComp elt [⟨t1, it1, [], 0⟩, ⟨t2, it2, cts, 0⟩] scope pos
noncomputable abbrev testsL (cts : List PySem.Expr) (env : Env) : Sem Bool := forIn cts true fun c r => if r = true then do let ok ← isTrue c env (eval c env); pure (ForInStep.yield ok) else pure (ForInStep.yield r)
theorem turn0 (elt t1 it1 t2 it2 : PySem.Expr) (cts : List PySem.Expr) (scope : Scope) (pos : Pos) (it acc : Value) (env : Env) :
    compTurn (two elt t1 it1 t2 it2 cts scope pos) 0 it acc env = (do
      standAt it1.pos
      match ← pyNext it with
      | none => pure (.done .next)
      | some v =>
        letOwnedTupleGo t1 it v
        assign t1 env v
        let x ← eval it2 env
        standAt it2.pos
        let x ← foldedSetIterable it2 env x
        let i ← holding [x] (pyIter x)
        let _ ← runOwn (.compStart (two elt t1 it1 t2 it2 cts scope pos) 1 i acc env) env
        again (.compLoop (two elt t1 it1 t2 it2 cts scope pos) 0 it acc env)) := by rfl
theorem turn1 (elt t1 it1 t2 it2 : PySem.Expr) (cts : List PySem.Expr) (scope : Scope) (pos : Pos) (it acc : Value) (env : Env) :
    compTurn (two elt t1 it1 t2 it2 cts scope pos) 1 it acc env = (do
      standAt it2.pos
      match ← pyNext it with
      | none => pure (.done .next)
      | some v =>
        letOwnedTupleGo t2 it v
        assign t2 env v
        let mut ok := true
        for c in cts do
          if ok then ok ← isTrue c env (eval c env)
        if ok then
          (do let _ ← call (.builtin "list.append") [acc, ← eval elt env])
        again (.compLoop (two elt t1 it1 t2 it2 cts scope pos) 1 it acc env)) := by rfl
section
variable {prog : Program} {w : World} {A : Around} {E : Value → Shared → Prop} {R : Result → Shared → Prop} {s : Shared} {elt t1 it1 t2 it2 : PySem.Expr} {cts : List PySem.Expr} {scope : Scope} {pos : Pos} {it acc : Value} {env : Env}
theorem start1 (h0 : codeAny (model prog w) A (.compLoop (two elt t1 it1 t2 it2 cts scope pos) 1 it acc env) R s)
    (h : wpAny (model prog w) A (pyIter it) (fun it' s' => codeAny (model prog w) A (.compLoop (two elt t1 it1 t2 it2 cts scope pos) 1 it' acc env) R s') (notedBy (model prog w) A env fun x s' => R (.error x) s') s) :
    codeAny (model prog w) A (.compStart (two elt t1 it1 t2 it2 cts scope pos) 1 it acc env) R s := by
  refine codeAny_of_tree ?_
  show wpAny _ _ ((compStart (two elt t1 it1 t2 it2 cts scope pos) 1 it acc env).onRaise (fun x => do noteFrame x env; standAt theWindowsPlace)) _ _ s
  refine wpAny_notedAt ?_
  unfold compStart
  show wpAny _ _ (ask >>= _) _ _ s
  refine wpAny_bind (wpAny_askSetting (wpAny_ite ?_))
  split
  · first
      | exact wpAny_bind (wpAny_pure (wpAny_pure (And.intro rfl h0)))
      | exact wpAny_pure (And.intro rfl h0)
  · first
      | exact wpAny_bind (wpAny_rule (wpAny_bind (wpAny_standAt (wpAny_bind (wpAny_mono h (fun it' s' h' => wpAny_pure (And.intro rfl h')) fun _ _ x => x)))))
      | (refine wpAny_bind (wpAny_rule ?_); show wpAny _ _ (standAt it2.pos >>= _) _ _ s; exact wpAny_bind (wpAny_standAt (wpAny_bind (wpAny_mono h (fun it' s' h' => wpAny_pure (And.intro rfl h')) fun _ _ x => x))))
theorem loop1 (I : Nat → Shared → Prop)
    (turn : ∀ n s, I n s → wpAny (model prog w) A (pyNext it) (fun r s₁ => match r with
      | none => R (.ok .next) s₁
      | some v => wpAny (model prog w) A (assign t2 env v) (fun _ s₂ => wpAny (model prog w) A (testsL cts env) (fun ok s₃ =>
            if ok = true then wpAny (model prog w) A (eval elt env) (fun x s₄ =>
              wpAny (model prog w) A (call (.builtin "list.append") [acc, x]) (fun _ s₅ => ∃ m, m < n ∧ I m s₅) (notedBy (model prog w) A env fun e s' => R (.error e) s') s₄) (notedBy (model prog w) A env fun e s' => R (.error e) s') s₃
            else ∃ m, m < n ∧ I m s₃) (notedBy (model prog w) A env fun e s' => R (.error e) s') s₂) (notedBy (model prog w) A env fun e s' => R (.error e) s') s₁) (notedBy (model prog w) A env fun e s' => R (.error e) s') s)
    (n : Nat) (h : I n s) (ht : ∀ v, letOwnedTupleGo t2 it v = pure () := by intro _; rfl) :
    codeAny (model prog w) A (.compLoop (two elt t1 it1 t2 it2 cts scope pos) 1 it acc env) R s := by
  refine codeAny_loop rfl I (fun n s hI => ?_) n h
  show wpAny _ A ((compTurn (two elt t1 it1 t2 it2 cts scope pos) 1 it acc env).onRaise (fun x => do noteFrame x env; theTreesLotGoes x)) _ _ s
  refine wpAny_noted ?_
  rw [turn1]
  refine wpAny_bind (wpAny_standAt (wpAny_bind (wpAny_mono (turn n s hI) (fun r s₁ h₁ => ?_) fun _ _ h' => h')))
  cases r with
  | none => exact wpAny_pure h₁
  | some v =>
    refine wpAny_bind (wpAny_of_eq (ht v) ?_)
    refine wpAny_bind (wpAny_mono h₁ (fun _ s₂ h₂ => wpAny_bind (wpAny_mono h₂ (fun ok s₃ h₃ => ?_) fun _ _ h' => h')) fun _ _ h' => h')
    cases ok with
    | false => exact wpAny_pure ⟨rfl, h₃⟩
    | true =>
      exact wpAny_bind (wpAny_bind (wpAny_mono h₃ (fun x s₄ h₄ => wpAny_bind (wpAny_mono h₄ (fun _ s₅ h₅ => wpAny_pure (wpAny_pure ⟨rfl, h₅⟩)) fun _ _ h' => h')) fun _ _ h' => h'))
theorem loop0 (I : Nat → Shared → Prop)
    (turn : ∀ n s, I n s → wpAny (model prog w) A (pyNext it) (fun r s₁ => match r with
      | none => R (.ok .next) s₁
      | some v => wpAny (model prog w) A (assign t1 env v) (fun _ s₂ => wpAny (model prog w) A (eval it2 env) (fun x s₃ => wpAny (model prog w) A (pyIter x) (fun i s₄ =>
          codeAny (model prog w) A (.compStart (two elt t1 it1 t2 it2 cts scope pos) 1 i acc env) (fun r s₅ => match r with
            | .ok _ => ∃ m, m < n ∧ I m s₅
            | .error e => cameBackBy (model prog w) A env (notedBy (model prog w) A env fun e s' => R (.error e) s') e s₅) s₄)
          (notedBy (model prog w) A env fun e s' => R (.error e) s') s₃) (notedBy (model prog w) A env fun e s' => R (.error e) s') s₂) (notedBy (model prog w) A env fun e s' => R (.error e) s') s₁) (notedBy (model prog w) A env fun e s' => R (.error e) s') s)
    (n : Nat) (h : I n s) (ht : ∀ v, letOwnedTupleGo t1 it v = pure () := by intro _; rfl) (hs : ∀ x, foldedSetIterable it2 env x = pure x := by intro _; rfl) :
    codeAny (model prog w) A (.compLoop (two elt t1 it1 t2 it2 cts scope pos) 0 it acc env) R s := by
  refine codeAny_loop rfl I (fun n s hI => ?_) n h
  show wpAny _ A ((compTurn (two elt t1 it1 t2 it2 cts scope pos) 0 it acc env).onRaise (fun x => do noteFrame x env; theTreesLotGoes x)) _ _ s
  refine wpAny_noted ?_
  rw [turn0]
  refine wpAny_bind (wpAny_standAt (wpAny_bind (wpAny_mono (turn n s hI) (fun r s₁ h₁ => ?_) fun _ _ h' => h')))
  cases r with
  | none => exact wpAny_pure h₁
  | some v =>
    refine wpAny_bind (wpAny_of_eq (ht v) ?_)
    refine wpAny_bind (wpAny_mono h₁ (fun _ s₂ h₂ => wpAny_bind (wpAny_mono h₂ (fun x s₃ h₃ => wpAny_bind (wpAny_standAt (wpAny_bind (wpAny_of_eq (hs x) (wpAny_bind (wpAny_holding (wpAny_mono h₃ (fun i s₄ h₄ => ?_) fun _ _ h' => h'))))))) fun _ _ h' => h')) fun _ _ h' => h')
    refine wpAny_bind (wpAny_runOwn (codeAny_mono h₄ (fun r s₅ h₅ => ?_)))
    cases r with
    | ok f => obtain ⟨m, hm⟩ := h₅; exact wpAny_pure ⟨rfl, m, hm⟩
    | error e => exact h₅
end
end Mine
end

section
open PySem PySem.W PyProof.Rows PyProof.Rows.LCg PyProof.Rows.LCt
set_option maxRecDepth 100000
set_option maxHeartbeats 8000000
namespace Mine
theorem news_set {h₀ h h' : Heap} {L a : Addr} {o o' : Obj} : ∀ {pre post : List (Addr × Obj)}, News h₀ L h (pre ++ (a, o) :: post) → Heap.ExtBut a h h' → h'.get? a = some o' → (∀ p ∈ pre, p.1 ≠ a) → (∀ p ∈ post, p.1 ≠ a) → News h₀ L h' (pre ++ (a, o') :: post) := by
  intro pre post N hs ho h1 h2 p hp
  have ha := N (a, o) (List.mem_append_right _ (.head _))
  rcases List.mem_append.mp hp with hp | hp
  · have := N p (List.mem_append_left _ hp)
    exact ⟨hs _ _ (h1 p hp) this.1, this.2⟩
  · rcases List.mem_cons.mp hp with rfl | hp
    · exact ⟨ho, ha.2⟩
    · have := N p (List.mem_append_right _ (.tail _ hp))
      exact ⟨hs _ _ (h2 p hp) this.1, this.2⟩
theorem fr_ext {h₀ h h' : Heap} {L a : Addr} {m : Str → Option Value} (F : Fr h₀ L h m) (hs : Heap.ExtBut a h h') (ha : a ≠ L) (h0 : h₀.get? a = none) : Fr h₀ L h' m :=
  ⟨F.ns.at' fun o e => hs L o (Ne.symm ha) e, fun b o e => hs b o (fun q => by rw [q, h0] at e; cases e) (F.keep b o e), F.above⟩
noncomputable def VIn (b : Value → Bool) (V : Value → Value → Prop) : List Value → List Value → Prop
  | [], zs => zs = []
  | f :: r, zs => if b f = true then ∃ z zr, zs = z :: zr ∧ V f z ∧ VIn b V r zr else VIn b V r zs
noncomputable def VOut (b : Value → Bool) (V : Value → Value → Value → Prop) (fs : List Value) : List Value → List Value → Prop
  | [], zs => zs = []
  | n :: r, zs => ∃ a c, zs = a ++ c ∧ VIn b (V n) fs a ∧ VOut b V fs r c
theorem VIn.length {b : Value → Bool} {V : Value → Value → Prop} : ∀ {fs zs : List Value}, VIn b V fs zs → zs.length ≤ fs.length
  | [], zs, h => by cases h; exact Nat.le_refl _
  | f :: r, zs, h => by
    unfold VIn at h
    split at h
    · obtain ⟨z, zr, rfl, _, h⟩ := h
      exact Nat.succ_le_succ (VIn.length h)
    · exact Nat.le_succ_of_le (VIn.length h)
inductive InJ (s : Shared) (h₀ : Heap) (L : Addr) (I : Addr) (I2 : Addr) (D : Addr) (C : Addr) (K : Addr) (bx : Addr) (m : Str → Option Value) (oI : Obj) (oC : Obj) (fs : List Value) (b : Value → Bool) (V : Value → Value → Prop) (G : List Value → Prop) (news : List (Addr × Obj)) (n : Nat) (s' : Shared) : Prop
  | mk (j : Nat) (h : Heap) (tk : Nat) (ys : List Value) (oI2 : Obj) (oK : Obj) (v₀ : Option Value) (zz0 : s' = { s with heap := h, toks := tk }) (zz1 : j ≤ fs.length) (zz2 : n = fs.length + 1 - j) (zz3 : oK.data = .cell v₀) (zz4 : (oI2.cls = .type "list_iterator" ∧ oI2.data = .fields #[.ref bx, .int (j : Nat) 0])) (zz5 : Fr h₀ L h m) (zz6 : News h₀ L h ((I2, oI2) :: (I, oI) :: (D, lst ys) :: (C, oC) :: (K, oK) :: news)) (zz7 : ys.length + (fs.length - j) ≤ sizeLine) (zz8 : ∀ zs, VIn b V (fs.drop j) zs → G (ys ++ zs)) : InJ s h₀ L I I2 D C K bx m oI oC fs b V G news n s'
section
variable {prog : Program} {w : World} {A : Around} {E : Value → Shared → Prop} {R : Result → Shared → Prop} {s : Shared} {elt t1 it1 it2 ct : PySem.Expr} {scope : Scope} {pos px2 : Pos} {cenv : Env} {x2 : Str}
  {h₀ : Heap} {L I I2 D C K ax bx : Addr} {m : Str → Option Value} {news : List (Addr × Obj)} {fs : List Value} {ky : Nat} {b : Value → Bool} {V : Value → Value → Prop} {oC oI : Obj} {G : List Value → Prop}
theorem inner2 (hx2 : cenv.kindOf x2 = some .cell) (hk : cenv.scope.kind = .function) (hc : cenv.cells.lookup x2 = some K) (hm : (bx, listOf fs.toArray ky) ∈ news) (hh : A.handled = none)
    (d1 : I < D) (d2 : D < C) (d3 : C < K) (d4 : K < I2) (hn : ∀ p ∈ news, p.1 < I)
    (tests : ∀ v oI2 oK ys h tk (E' : Value → Shared → Prop) (Q' : Bool → Shared → Prop), v ∈ fs → oK.data = .cell (some v) → Fr h₀ L h m → News h₀ L h ((I2, oI2) :: (I, oI) :: (D, lst ys) :: (C, oC) :: (K, oK) :: news) →
      (∀ h' tk', Fr h₀ L h' m → News h₀ L h' ((I2, oI2) :: (I, oI) :: (D, lst ys) :: (C, oC) :: (K, oK) :: news) → Q' (b v) { s with heap := h', toks := tk' }) → wpAny (model prog w) A (isTrue ct cenv (eval ct cenv)) Q' E' { s with heap := h, toks := tk })
    (elts : ∀ v oI2 oK ys h tk (E' : Value → Shared → Prop) (Q' : Value → Shared → Prop), v ∈ fs → b v = true → oK.data = .cell (some v) → Fr h₀ L h m → News h₀ L h ((I2, oI2) :: (I, oI) :: (D, lst ys) :: (C, oC) :: (K, oK) :: news) →
      (∀ z h' tk', V v z → Fr h₀ L h' m → News h₀ L h' ((I2, oI2) :: (I, oI) :: (D, lst ys) :: (C, oC) :: (K, oK) :: news) → Q' z { s with heap := h', toks := tk' }) → wpAny (model prog w) A (eval elt cenv) Q' E' { s with heap := h, toks := tk })
    (hR : ∀ h tk ys oK v₀, oK.data = .cell v₀ → Fr h₀ L h m → News h₀ L h ((I, oI) :: (D, lst ys) :: (C, oC) :: (K, oK) :: news) → G ys → R (.ok .next) { s with heap := h, toks := tk })
    {h : Heap} {tk : Nat} {ys : List Value} {oI2 oK : Obj} {v₀ : Option Value} (hd : oK.data = .cell v₀) (hit : oI2.cls = .type "list_iterator" ∧ oI2.data = .fields #[.ref bx, .int (0 : Nat) 0]) (F : Fr h₀ L h m)
    (N : News h₀ L h ((I2, oI2) :: (I, oI) :: (D, lst ys) :: (C, oC) :: (K, oK) :: news)) (hz : ys.length + fs.length ≤ sizeLine) (hG : ∀ zs, VIn b V fs zs → G (ys ++ zs)) :
    codeAny (model prog w) A (.compLoop (two elt t1 it1 (.Name x2 px2) it2 [ct] scope pos) 1 (.ref I2) (.ref D) cenv) R { s with heap := h, toks := tk } := by
  have nI : ∀ p ∈ news, p.1 ≠ I := fun p hp => Nat.ne_of_lt (hn p hp)
  have nD : ∀ p ∈ news, p.1 ≠ D := fun p hp => Nat.ne_of_lt (Nat.lt_trans (hn p hp) d1)
  have nC : ∀ p ∈ news, p.1 ≠ C := fun p hp => Nat.ne_of_lt (Nat.lt_trans (hn p hp) (Nat.lt_trans d1 d2))
  have nK : ∀ p ∈ news, p.1 ≠ K := fun p hp => Nat.ne_of_lt (Nat.lt_trans (hn p hp) (Nat.lt_trans d1 (Nat.lt_trans d2 d3)))
  have n2 : ∀ p ∈ news, p.1 ≠ I2 := fun p hp => Nat.ne_of_lt (Nat.lt_trans (hn p hp) (Nat.lt_trans d1 (Nat.lt_trans d2 (Nat.lt_trans d3 d4))))
  have a4 : (C : Nat) < I2 := Nat.lt_trans d3 d4
  have a3 : (D : Nat) < I2 := Nat.lt_trans d2 a4
  have a2 : (I : Nat) < I2 := Nat.lt_trans d1 a3
  have b3 : (D : Nat) < K := Nat.lt_trans d2 d3
  have b2 : (I : Nat) < K := Nat.lt_trans d1 b3
  have post2 : ∀ {oI oD oC oK : Obj}, ∀ p ∈ (I, oI) :: (D, oD) :: (C, oC) :: (K, oK) :: news, p.1 ≠ I2 := by
    intro oI oD oC oK p hp
    rcases List.mem_cons.mp hp with rfl | hp
    · exact Nat.ne_of_lt a2
    · rcases List.mem_cons.mp hp with rfl | hp
      · exact Nat.ne_of_lt a3
      · rcases List.mem_cons.mp hp with rfl | hp
        · exact Nat.ne_of_lt a4
        · rcases List.mem_cons.mp hp with rfl | hp
          · exact Nat.ne_of_lt d4
          · exact n2 p hp
  have preK : ∀ {o2 oI oD oC : Obj}, ∀ p ∈ [(I2, o2), (I, oI), (D, oD), (C, oC)], p.1 ≠ K := by
    intro o2 oI oD oC p hp
    simp only [List.mem_cons, List.not_mem_nil, or_false] at hp
    rcases hp with rfl | rfl | rfl | rfl
    · exact Nat.ne_of_gt d4
    · exact Nat.ne_of_lt b2
    · exact Nat.ne_of_lt b3
    · exact Nat.ne_of_lt d3
  have preD : ∀ {o2 oI : Obj}, ∀ p ∈ [(I2, o2), (I, oI)], p.1 ≠ D := by
    intro o2 oI p hp
    simp only [List.mem_cons, List.not_mem_nil, or_false] at hp
    rcases hp with rfl | rfl
    · exact Nat.ne_of_gt a3
    · exact Nat.ne_of_lt d1
  have postD : ∀ {oC oK : Obj}, ∀ p ∈ (C, oC) :: (K, oK) :: news, p.1 ≠ D := by
    intro oC oK p hp
    rcases List.mem_cons.mp hp with rfl | hp
    · exact Nat.ne_of_gt d2
    · rcases List.mem_cons.mp hp with rfl | hp
      · exact Nat.ne_of_gt b3
      · exact nD p hp
  refine loop1 (InJ s h₀ L I I2 D C K bx m oI oC fs b V G news) ?_ (fs.length + 1)
    ⟨0, h, tk, ys, oI2, oK, v₀, rfl, Nat.zero_le _, rfl, hd, hit, F, N, hz, hG⟩
  clear hG hz N F hit hd
  rintro n s' ⟨j, h, tk, ys, oI2, oK, v₀, rfl, hj, rfl, hd, hit, F, N, hz, hG⟩
  have hl := News.isList N (.tail _ (.tail _ (.tail _ (.tail _ (.tail _ hm)))))
  have hI2 := N _ (.head _)
  cases hv : fs[j]? with
  | none =>
    refine wpAny_pyNext_list_end hh ⟨oI2, hI2.1, hit⟩ hl (by simpa using hv) fun h₁ he₁ => ?_
    have hjl : fs.length ≤ j := by simpa using hv
    refine hR h₁ _ ys oK v₀ hd (fr_ext F he₁ hI2.2.1 hI2.2.2) (fun p hp => ?_) ?_
    · have := N p (.tail _ hp)
      exact ⟨he₁ _ _ (post2 p hp) this.1, this.2⟩
    · have := hG [] (by rw [List.drop_of_length_le hjl]; rfl)
      rwa [List.append_nil] at this
  | some v =>
    have hlt : j < fs.length := (List.getElem?_eq_some_iff.mp hv).1
    have hdr : fs.drop j = v :: fs.drop (j + 1) := by
      obtain ⟨h1, rfl⟩ := List.getElem?_eq_some_iff.mp hv
      exact List.drop_eq_getElem_cons h1
    have hvm : v ∈ fs := List.mem_of_getElem? hv
    refine wpAny_pyNext_list_item ⟨oI2, hI2.1, hit⟩ hl (by simpa using hv) fun h₁ hit₁ hs₁ => ?_
    obtain ⟨oI2', e1, hit1⟩ := hit₁
    have N1 := news_set (pre := []) N hs₁.extBut e1 (fun _ h => nomatch h) post2
    have F1 := fr_ext F hs₁.extBut hI2.2.1 hI2.2.2
    have hK1 := N1 (K, oK) (.tail _ (.tail _ (.tail _ (.tail _ (.head _)))))
    refine wpAny_assign_Name (wpAny_storeName_cell hk hx2 hc ⟨oK, hK1.1, hd⟩ fun h₂ hc₂ hs₂ => ?_)
    obtain ⟨oK', eK, hdK⟩ := hc₂
    have N2 := news_set (pre := [(I2, oI2'), (I, oI), (D, lst ys), (C, oC)]) N1 hs₂.extBut eK preK nK
    have F2 := fr_ext F1 hs₂.extBut hK1.2.1 hK1.2.2
    refine wpAny_tests_one (tests v oI2' oK' ys h₂ _ _ _ hvm hdK F2 N2 fun h₃ tk₃ F3 N3 => ?_)
    cases hb : b v with
    | false =>
      rw [if_neg (by decide)]
      refine ⟨fs.length + 1 - (j + 1), by omega, j + 1, h₃, tk₃, ys, oI2', oK', _, rfl, hlt, rfl, hdK, hit1, F3, N3, by omega, fun zs hzs => hG zs ?_⟩
      rw [hdr]; unfold VIn; rw [if_neg (by rw [hb]; decide)]; exact hzs
    | true =>
      rw [if_pos rfl]
      refine elts v oI2' oK' ys h₃ tk₃ _ _ hvm hb hdK F3 N3 fun z h₄ tk₄ hV F4 N4 => ?_
      have hD4 := N4 (D, lst ys) (.tail _ (.tail _ (.head _)))
      refine append_at hD4.1 (fun h₅ hs₅ hD₅ => ?_) (by rw [List.size_toArray]; omega)
      rw [lst_snoc] at hD₅
      refine ⟨fs.length + 1 - (j + 1), by omega, j + 1, h₅, tk₄, ys ++ [z], oI2', oK', _, rfl, hlt, rfl, hdK, hit1, fr_ext F4 hs₅.extBut hD4.2.1 hD4.2.2, news_set (pre := [(I2, oI2'), (I, oI)]) N4 hs₅.extBut hD₅ preD postD, ?_, fun zs hzs => ?_⟩
      · rw [List.length_append, List.length_singleton]; omega
      · rw [List.append_assoc]
        refine hG _ ?_
        rw [hdr]; unfold VIn; rw [if_pos hb]; exact ⟨z, zs, rfl, hV, hzs⟩
end
end Mine
end

section
open PySem PySem.W PyProof.Rows PyProof.Rows.LCg PyProof.Rows.LCt
set_option maxRecDepth 100000
set_option maxHeartbeats 8000000
namespace Mine
inductive OutJ (s : Shared) (h₀ : Heap) (L : Addr) (I : Addr) (D : Addr) (C : Addr) (K : Addr) (ax : Addr) (m : Str → Option Value) (fs : List Value) (ns : List Value) (b : Value → Bool) (V : Value → Value → Value → Prop) (G : List Value → Prop) (news : List (Addr × Obj)) (n : Nat) (s' : Shared) : Prop
  | mk (j : Nat) (h : Heap) (tk : Nat) (ys : List Value) (oI : Obj) (oC : Obj) (oK : Obj) (v₀ : Option Value) (mm : Str → Option Value) (zz0 : s' = { s with heap := h, toks := tk }) (zz1 : j ≤ ns.length) (zz2 : n = ns.length + 1 - j) (zz3 : NsObj oC mm) (zz4 : oK.data = .cell v₀) (zz5 : (oI.cls = .type "list_iterator" ∧ oI.data = .fields #[.ref ax, .int (j : Nat) 0])) (zz6 : Fr h₀ L h m) (zz7 : News h₀ L h ((I, oI) :: (D, lst ys) :: (C, oC) :: (K, oK) :: news)) (zz8 : ys.length ≤ j * fs.length) (zz9 : ∀ zs, VOut b V fs (ns.drop j) zs → G (ys ++ zs)) : OutJ s h₀ L I D C K ax m fs ns b V G news n s'
section
variable {prog : Program} {w : World} {A : Around} {E : Value → Shared → Prop} {R : Result → Shared → Prop} {s : Shared} {elt it1 it2 ct : PySem.Expr} {scope : Scope} {pos px1 px2 : Pos} {cenv : Env} {x1 x2 : Str}
  {h₀ : Heap} {L I D C K ax bx : Addr} {m : Str → Option Value} {news : List (Addr × Obj)} {ns fs : List Value} {kx ky : Nat} {b : Value → Bool} {V : Value → Value → Value → Prop} {G : List Value → Prop}
theorem outer2 (hLC : cenv.locals = C) (hx1 : cenv.kindOf x1 = some .local) (hx2 : cenv.kindOf x2 = some .cell) (hk : cenv.scope.kind = .function) (hc : cenv.cells.lookup x2 = some K) (hma : (ax, listOf ns.toArray kx) ∈ news) (hm : (bx, listOf fs.toArray ky) ∈ news) (hh : A.handled = none)
    (d1 : I < D) (d2 : D < C) (d3 : C < K) (hn : ∀ p ∈ news, p.1 < I) (hzf : fs.length ≤ 1000) (hzn : ns.length ≤ 1000) (hs2 : ∀ x, foldedSetIterable it2 cenv x = pure x)
    (src : ∀ oI oC oK ys h tk (E' : Value → Shared → Prop) (Q' : Value → Shared → Prop), Fr h₀ L h m → News h₀ L h ((I, oI) :: (D, lst ys) :: (C, oC) :: (K, oK) :: news) → Q' (.ref bx) { s with heap := h, toks := tk } → wpAny (model prog w) A (eval it2 cenv) Q' E' { s with heap := h, toks := tk })
    (tests : ∀ nv v mm I2 oI2 oI oC oK ys h tk (E' : Value → Shared → Prop) (Q' : Bool → Shared → Prop), nv ∈ ns → v ∈ fs → NsObj oC mm → mm x1 = some nv → oK.data = .cell (some v) → Fr h₀ L h m → News h₀ L h ((I2, oI2) :: (I, oI) :: (D, lst ys) :: (C, oC) :: (K, oK) :: news) → K < I2 →
      (∀ h' tk', Fr h₀ L h' m → News h₀ L h' ((I2, oI2) :: (I, oI) :: (D, lst ys) :: (C, oC) :: (K, oK) :: news) → Q' (b v) { s with heap := h', toks := tk' }) → wpAny (model prog w) A (isTrue ct cenv (eval ct cenv)) Q' E' { s with heap := h, toks := tk })
    (elts : ∀ nv v mm I2 oI2 oI oC oK ys h tk (E' : Value → Shared → Prop) (Q' : Value → Shared → Prop), nv ∈ ns → v ∈ fs → b v = true → NsObj oC mm → mm x1 = some nv → oK.data = .cell (some v) → Fr h₀ L h m → News h₀ L h ((I2, oI2) :: (I, oI) :: (D, lst ys) :: (C, oC) :: (K, oK) :: news) → K < I2 →
      (∀ z h' tk', V nv v z → Fr h₀ L h' m → News h₀ L h' ((I2, oI2) :: (I, oI) :: (D, lst ys) :: (C, oC) :: (K, oK) :: news) → Q' z { s with heap := h', toks := tk' }) → wpAny (model prog w) A (eval elt cenv) Q' E' { s with heap := h, toks := tk })
    (hR : ∀ h tk ys oC oK mm, NsObj oC mm → Fr h₀ L h m → News h₀ L h ((D, lst ys) :: (C, oC) :: (K, oK) :: news) → G ys → R (.ok .next) { s with heap := h, toks := tk })
    {h : Heap} {tk : Nat} {oI oC oK : Obj} {mm : Str → Option Value} {v₀ : Option Value} (hC : NsObj oC mm) (hd : oK.data = .cell v₀) (hit : oI.cls = .type "list_iterator" ∧ oI.data = .fields #[.ref ax, .int (0 : Nat) 0]) (F : Fr h₀ L h m)
    (N : News h₀ L h ((I, oI) :: (D, lst []) :: (C, oC) :: (K, oK) :: news)) (hG : ∀ zs, VOut b V fs ns zs → G zs) :
    codeAny (model prog w) A (.compLoop (two elt (.Name x1 px1) it1 (.Name x2 px2) it2 [ct] scope pos) 0 (.ref I) (.ref D) cenv) R { s with heap := h, toks := tk } := by
  subst hLC
  have nI : ∀ p ∈ news, p.1 ≠ I := fun p hp => Nat.ne_of_lt (hn p hp)
  have nC : ∀ p ∈ news, p.1 ≠ cenv.locals := fun p hp => Nat.ne_of_lt (Nat.lt_trans (hn p hp) (Nat.lt_trans d1 d2))
  have b3 : (D : Nat) < K := Nat.lt_trans d2 d3
  have b2 : (I : Nat) < K := Nat.lt_trans d1 b3
  have a3 : (I : Nat) < cenv.locals := Nat.lt_trans d1 d2
  have postI : ∀ {oD oC oK : Obj}, ∀ p ∈ (D, oD) :: (cenv.locals, oC) :: (K, oK) :: news, p.1 ≠ I := by
    intro oD oC oK p hp
    rcases List.mem_cons.mp hp with rfl | hp
    · exact Nat.ne_of_gt d1
    · rcases List.mem_cons.mp hp with rfl | hp
      · exact Nat.ne_of_gt a3
      · rcases List.mem_cons.mp hp with rfl | hp
        · exact Nat.ne_of_gt b2
        · exact nI p hp
  have preC : ∀ {oI oD : Obj}, ∀ p ∈ [(I, oI), (D, oD)], p.1 ≠ cenv.locals := by
    intro oI oD p hp
    simp only [List.mem_cons, List.not_mem_nil, or_false] at hp
    rcases hp with rfl | rfl
    · exact Nat.ne_of_lt a3
    · exact Nat.ne_of_lt d2
  have postC : ∀ {oK : Obj}, ∀ p ∈ (K, oK) :: news, p.1 ≠ cenv.locals := by
    intro oK p hp
    rcases List.mem_cons.mp hp with rfl | hp
    · exact Nat.ne_of_gt d3
    · exact nC p hp
  refine loop0 (OutJ s h₀ L I D (cenv.locals) K ax m fs ns b V G news) ?_ (ns.length + 1)
    ⟨0, h, tk, [], oI, oC, oK, v₀, mm, rfl, Nat.zero_le _, rfl, hC, hd, hit, F, N, Nat.zero_le _, hG⟩ (fun _ => rfl) hs2
  clear hG N F hit hd hC
  rintro n s' ⟨j, h, tk, ys, oI, oC, oK, v₀, mm, rfl, hj, rfl, hC, hd, hit, F, N, hz, hG⟩
  have hl := News.isList N (.tail _ (.tail _ (.tail _ (.tail _ hma))))
  have hI := N _ (.head _)
  cases hv : ns[j]? with
  | none =>
    refine wpAny_pyNext_list_end hh ⟨oI, hI.1, hit⟩ hl (by simpa using hv) fun h₁ he₁ => ?_
    have hjl : ns.length ≤ j := by simpa using hv
    refine hR h₁ _ ys oC oK mm hC (fr_ext F he₁ hI.2.1 hI.2.2) (fun p hp => ?_) ?_
    · have := N p (.tail _ hp)
      exact ⟨he₁ _ _ (postI p hp) this.1, this.2⟩
    · have := hG [] (by rw [List.drop_of_length_le hjl]; rfl)
      rwa [List.append_nil] at this
  | some v =>
    have hlt : j < ns.length := (List.getElem?_eq_some_iff.mp hv).1
    have hdr : ns.drop j = v :: ns.drop (j + 1) := by
      obtain ⟨h1, rfl⟩ := List.getElem?_eq_some_iff.mp hv
      exact List.drop_eq_getElem_cons h1
    have hvm : v ∈ ns := List.mem_of_getElem? hv
    refine wpAny_pyNext_list_item ⟨oI, hI.1, hit⟩ hl (by simpa using hv) fun h₁ hit₁ hs₁ => ?_
    obtain ⟨oI', e1, hit1⟩ := hit₁
    have N1 := news_set (pre := []) N hs₁.extBut e1 (fun _ h => nomatch h) postI
    have F1 := fr_ext F hs₁.extBut hI.2.1 hI.2.2
    have hC1 := N1 (cenv.locals, oC) (.tail _ (.tail _ (.head _)))
    refine wpAny_assign_Name (wpAny_storeName_local hx1 (hC.ns hC1.1) (fun h₂ hn₂ hs₂ => ?_) (by rw [hk]; rfl))
    obtain ⟨oC', eC, hC'⟩ := ns_obj hn₂
    have N2 := news_set (pre := [(I, oI'), (D, lst ys)]) N1 hs₂.extBut eC preC postC
    have F2 := fr_ext F1 hs₂.extBut hC1.2.1 hC1.2.2
    refine src oI' oC' oK ys h₂ _ _ _ F2 N2 ?_
    refine wpAny_pyIter_list (News.isList N2 (.tail _ (.tail _ (.tail _ (.tail _ hm))))) ?_
    have N3 := News.push F2 N2 { cls := .type "list_iterator", data := .fields #[.ref bx, .int 0 0] }
    have F3 := Fr.push F2 { cls := .type "list_iterator", data := .fields #[.ref bx, .int 0 0] }
    have d4 : (K : Nat) < h₂.objs.size := Heap.lt_size (N2 (K, oK) (.tail _ (.tail _ (.tail _ (.head _))))).1
    have hzz : j * fs.length ≤ 1000 * 1000 := Nat.mul_le_mul (Nat.le_trans hj hzn) hzf
    have main : codeAny (model prog w) A (.compLoop (two elt (.Name x1 px1) it1 (.Name x2 px2) it2 [ct] scope pos) 1 (.ref h₂.objs.size) (.ref D) cenv) (fun r s₅ => match r with
            | .ok _ => ∃ n', n' < ns.length + 1 - j ∧ OutJ s h₀ L I D cenv.locals K ax m fs ns b V G news n' s₅
            | .error e => cameBackBy (model prog w) A cenv (notedBy (model prog w) A cenv fun e s' => R (.error e) s') e s₅) { s with heap := h₂.push { cls := .type "list_iterator", data := .fields #[.ref bx, .int 0 0] }, toks := tk + 1 } := by
      refine inner2 (G := fun ys' => ys'.length ≤ (j + 1) * fs.length ∧ ∀ zs, VOut b V fs (ns.drop (j + 1)) zs → G (ys' ++ zs)) (V := V v) (b := b) hx2 hk hc hm hh d1 d2 d3 d4 hn
        (fun u oI2 oK ys h tk E' Q' hu hdu F N hq => tests v u _ _ oI2 oI' oC' oK ys h tk E' Q' hvm hu hC' (by simp) hdu F N d4 hq)
        (fun u oI2 oK ys h tk E' Q' hu hb hdu F N hq => elts v u _ _ oI2 oI' oC' oK ys h tk E' Q' hvm hu hb hC' (by simp) hdu F N d4 hq)
        (fun h tk ys oK v₀ hd F N hg => ⟨ns.length + 1 - (j + 1), by omega, j + 1, h, tk, ys, oI', oC', oK, v₀, _, rfl, hlt, rfl, hC', hd, hit1, F, N, hg.1, hg.2⟩) (ys := ys) hd ⟨rfl, rfl⟩ F3 N3 (by unfold sizeLine; omega) fun zs hzs => ⟨?_, fun z2 hz2 => ?_⟩
      · have := hzs.length
        rw [List.length_append, Nat.add_mul, Nat.one_mul]; omega
      · rw [List.append_assoc]
        refine hG _ ?_
        rw [hdr]; exact ⟨zs, z2, rfl, hzs, hz2⟩
    exact start1 main (wpAny_pyIter_listiter (i := 0) ⟨_, Heap.get?_push_size _ rfl, rfl, rfl⟩ main)
theorem comp2A {env : Env} {y : Str} {py spos : Pos} {cl : List (Str × Addr)} {Q : Flow → Shared → Prop} (hLe : env.locals = L) (F₀ : Fr h₀ L s.heap m) (N₀ : News h₀ L s.heap news)
    (hsw : swapsWith (two elt (.Name x1 px1) it1 (.Name x2 px2) it2 [ct] scope pos) (some (.Name y py)) spos.line env = pure true) (hclos : closureFor scope env = pure cl) (hkind : scope.kind = .function)
    (hnames : ∀ z ∈ scope.names, z.2 = .local → scope.names.lookup z.1 = some .local) (hy : env.kindOf y = some .local) (hp : (env.scope.kind == .class || (env.scope.kind == .module && env.locals != env.globals)) = false)
    (hcf : ∀ n, cellsFrom n scope.names cl = (x2, n) :: cl) (hpc : ∀ h : Heap, pushCells h scope.names = h.push { cls := .type "cell", data := .cell none })
    (k1 : ∀ K C, (compEnvC scope ((x2, K) :: cl) C env).kindOf x1 = some .local) (k2 : ∀ K C, (compEnvC scope ((x2, K) :: cl) C env).kindOf x2 = some .cell)
    (hma : (ax, listOf ns.toArray kx) ∈ news) (hm : (bx, listOf fs.toArray ky) ∈ news) (hh : A.handled = none) (hzf : fs.length ≤ 1000) (hzn : ns.length ≤ 1000)
    (hs1 : ∀ x, foldedSetIterable it1 env x = pure x) (hs2 : ∀ K C x, foldedSetIterable it2 (compEnvC scope ((x2, K) :: cl) C env) x = pure x)
    (src1 : ∀ Q' : Value → Shared → Prop, Q' (.ref ax) s → wpAny (model prog w) A (eval it1 env) Q' E s)
    (src : ∀ I D C K oI oC oK ys h tk (E' : Value → Shared → Prop) (Q' : Value → Shared → Prop), Fr h₀ L h m → News h₀ L h ((I, oI) :: (D, lst ys) :: (C, oC) :: (K, oK) :: news) → Q' (.ref bx) { s with heap := h, toks := tk } → wpAny (model prog w) A (eval it2 (compEnvC scope ((x2, K) :: cl) C env)) Q' E' { s with heap := h, toks := tk })
    (tests : ∀ nv v mm I2 I D C K oI2 oI oC oK ys h tk (E' : Value → Shared → Prop) (Q' : Bool → Shared → Prop), nv ∈ ns → v ∈ fs → NsObj oC mm → mm x1 = some nv → oK.data = .cell (some v) → Fr h₀ L h m → News h₀ L h ((I2, oI2) :: (I, oI) :: (D, lst ys) :: (C, oC) :: (K, oK) :: news) →
      (I < D ∧ D < C ∧ C < K ∧ K < I2 ∧ ∀ p ∈ news, p.1 < I) →
      (∀ h' tk', Fr h₀ L h' m → News h₀ L h' ((I2, oI2) :: (I, oI) :: (D, lst ys) :: (C, oC) :: (K, oK) :: news) → Q' (b v) { s with heap := h', toks := tk' }) → wpAny (model prog w) A (isTrue ct (compEnvC scope ((x2, K) :: cl) C env) (eval ct (compEnvC scope ((x2, K) :: cl) C env))) Q' E' { s with heap := h, toks := tk })
    (elts : ∀ nv v mm I2 I D C K oI2 oI oC oK ys h tk (E' : Value → Shared → Prop) (Q' : Value → Shared → Prop), nv ∈ ns → v ∈ fs → b v = true → NsObj oC mm → mm x1 = some nv → oK.data = .cell (some v) → Fr h₀ L h m → News h₀ L h ((I2, oI2) :: (I, oI) :: (D, lst ys) :: (C, oC) :: (K, oK) :: news) →
      (∀ z h' tk', V nv v z → Fr h₀ L h' m → News h₀ L h' ((I2, oI2) :: (I, oI) :: (D, lst ys) :: (C, oC) :: (K, oK) :: news) → Q' z { s with heap := h', toks := tk' }) → wpAny (model prog w) A (eval elt (compEnvC scope ((x2, K) :: cl) C env)) Q' E' { s with heap := h, toks := tk })
    (hQ : ∀ D h tk ys, Fr h₀ L h (fun z => if z = y then some (.ref D) else m z) → News h₀ L h ((D, lst ys) :: news) → (∀ p ∈ news, p.1 < D) → VOut b V fs ns ys → Q .next { s with heap := h, toks := tk }) :
    wpAny (model prog w) A (exec (.Assign [.Name y py] (two elt (.Name x1 px1) it1 (.Name x2 px2) it2 [ct] scope pos) spos) env) Q E s := by
  subst hLe
  rw [exec_Assign_Name_used _ _ _ _ hsw]
  refine wpAny_bind (wpAny_standAt (wpAny_bind ?_))
  show wpAny _ A (do let _ ← comprehension (two elt (.Name x1 px1) it1 (.Name x2 px2) it2 [ct] scope pos) scope env _ (newList []) false (eval it1 env) (some (assign (.Name y py) env))) _ _ s
  refine wpAny_bind (wpAny_mono (wpAny_comprehension_free (use := some (assign (.Name y py) env)) (Q := fun _ s' => Q .next s') rfl hs1 hclos hkind hnames (src1 _ ?_)) (fun _ s' hq => wpAny_pure (wpAny_pure hq)) fun _ _ e => e)
  refine wpAny_pyIter_list (News.isList N₀ hma) ?_
  have N1 := News.push F₀ N₀ { cls := .type "list_iterator", data := .fields #[.ref ax, .int 0 0] }
  have F1 := Fr.push F₀ { cls := .type "list_iterator", data := .fields #[.ref ax, .int 0 0] }
  have l1 : ∀ p ∈ news, p.1 < s.heap.objs.size := fun p hp => Heap.lt_size (N₀ p hp).1
  generalize hH1 : s.heap.push { cls := .type "list_iterator", data := .fields #[.ref ax, .int 0 0] } = H1 at N1 F1 ⊢
  have dI : (s.heap.objs.size : Nat) < H1.objs.size := by rw [← hH1, Heap.size_push]; exact Nat.lt_succ_self _
  generalize s.heap.objs.size = I at *
  refine wpAny_newObj_type ?_
  have N2 := News.push F1 N1 { cls := .type "list", data := .seq ([] : List Value).toArray }
  have F2 := Fr.push F1 { cls := .type "list", data := .seq ([] : List Value).toArray }
  dsimp only at N2 F2 ⊢
  generalize hH2 : H1.push { cls := .type "list", data := .seq ([] : List Value).toArray } = H2 at N2 F2 ⊢
  have dD : (H1.objs.size : Nat) < H2.objs.size := by rw [← hH2, Heap.size_push]; exact Nat.lt_succ_self _
  generalize H1.objs.size = D at *
  simp only [newFunctionEnv, Option.isSome_some, if_true]
  refine wpAny_bind (wpAny_alloc ?_)
  refine wpAny_bind (wpAny_layCells _ (fun name kind cells => by cases hkc : kind == NameKind.cell <;> simp [hkc]) _ _ _ _ ?_)
  rw [hcf, hpc]
  (try dsimp only)
  have N3 := News.push F2 N2 { cls := .type "dict", data := .dict #[] }
  have F3 := Fr.push F2 { cls := .type "dict", data := .dict #[] }
  have hCo : NsObj { cls := .type "dict", data := .dict #[] } (fun _ => none) := by
    obtain ⟨o, e, h⟩ := ns_obj (Heap.Ns.new H2 (.type "dict"))
    rw [Heap.get?_push_size _ rfl] at e
    injection e with e
    rw [e]; exact h
  generalize hH3 : H2.push { cls := .type "dict", data := .dict #[] } = H3 at N3 F3 ⊢
  have dC : (H2.objs.size : Nat) < H3.objs.size := by rw [← hH3, Heap.size_push]; exact Nat.lt_succ_self _
  generalize H2.objs.size = C at *
  have N4 := News.push F3 N3 { cls := .type "cell", data := .cell none }
  have F4 := Fr.push F3 { cls := .type "cell", data := .cell none }
  generalize H3.push { cls := .type "cell", data := .cell none } = H4 at N4 F4 ⊢
  generalize H3.objs.size = K at *
  refine wpAny_bind ?_
  rw [List.forIn_nil]
  refine wpAny_pure (wpAny_pure ?_)
  have N5 : News h₀ env.locals H4 ((I, { cls := .type "list_iterator", data := .fields #[.ref ax, .int 0 0] }) :: (D, lst []) :: (C, { cls := .type "dict", data := .dict #[] }) :: (K, { cls := .type "cell", data := .cell none }) :: news) := cb_drop N4 fun q hq => by
    rcases List.mem_cons.mp hq with rfl | hq
    · exact .tail _ (.tail _ (.tail _ (.head _)))
    · rcases List.mem_cons.mp hq with rfl | hq
      · exact .tail _ (.tail _ (.head _))
      · rcases List.mem_cons.mp hq with rfl | hq
        · exact .tail _ (.head _)
        · rcases List.mem_cons.mp hq with rfl | hq
          · exact .head _
          · exact .tail _ (.tail _ (.tail _ (.tail _ hq)))
  have lD : ∀ p ∈ news, p.1 < D := fun p hp => Nat.lt_trans (l1 p hp) dI
  have main : ∀ tk, codeAny (model prog w) A (.compLoop (two elt (.Name x1 px1) it1 (.Name x2 px2) it2 [ct] scope pos) 0 (.ref I) (.ref D) (compEnvC scope ((x2, K) :: cl) C env))
      (compPost (model prog w) A E (some (assign (.Name y py) env)) (fun _ s' => Q .next s') (.ref D) C) { s with heap := H4, toks := tk } := by
    intro tk
    refine outer2 (G := VOut b V fs ns) (V := V) (b := b) rfl (k1 K C) (k2 K C) hkind (by simp [compEnvC]) hma hm hh dI dD dC l1 hzf hzn (hs2 K C) (src I D C K)
      (fun nv v mm I2 oI2 oI oC oK ys h tk E' Q' h1 h2 h3 h4 h5 h6 h7 h8 h9 => tests nv v mm I2 I D C K oI2 oI oC oK ys h tk E' Q' h1 h2 h3 h4 h5 h6 h7 ⟨dI, dD, dC, h8, l1⟩ h9)
      (fun nv v mm I2 oI2 oI oC oK ys h tk E' Q' h1 h2 h3 h4 h5 h6 h7 h8 h9 h10 => elts nv v mm I2 I D C K oI2 oI oC oK ys h tk E' Q' h1 h2 h3 h4 h5 h6 h7 h8 h10)
      ?_ hCo rfl ⟨rfl, rfl⟩ F4 N5 (fun zs h => h)
    intro h tk ys oC oK mm hC F N hG
    show wpAny _ A (assign (.Name y py) env (.ref D)) _ _ _
    have hCx := N (C, oC) (.tail _ (.head _))
    refine wpAny_assign_Name (wpAny_storeName_local hy F.ns (fun h₂ hn₂ hs₂ => ?_) hp)
    have hL₀ : h₀.get? env.locals = none := Heap.get?_none_of_le F.above
    have F₂ : Fr h₀ env.locals h₂ (fun z => if z = y then some (.ref D) else m z) := ⟨hn₂, fun b o e => hs₂.extBut b o (fun q => by rw [q, hL₀] at e; cases e) (F.keep b o e), F.above⟩
    refine ⟨mm, (hC.ns hCx.1).sameBut hs₂ hCx.2.1, fun h'' hs'' => hQ D h'' _ ys (fr_ext F₂ hs''.extBut hCx.2.1 hCx.2.2) (fun p hp => ?_) lD hG⟩
    have hp' : p ∈ (D, lst ys) :: (C, oC) :: (K, oK) :: news := by
      rcases List.mem_cons.mp hp with rfl | hp
      · exact .head _
      · exact .tail _ (.tail _ (.tail _ hp))
    have z : h₂.get? p.1 = some p.2 := hs₂.extBut _ _ (N p hp').2.1 (N p hp').1
    refine ⟨hs''.extBut _ _ ?_ z, (N p hp').2⟩
    rcases List.mem_cons.mp hp with rfl | hp
    · exact Nat.ne_of_lt dD
    · exact Nat.ne_of_lt (Nat.lt_trans (lD p hp) dD)
  exact codeAny_compStart_list (main _) (wpAny_pyIter_listiter (i := 0) ⟨_, (N5 _ (.head _)).1, rfl, rfl⟩ (main _))
end
end Mine
end

section
open PySem PySem.W PySem.SeqAt PySem.MeetsSeq PySem.Calls PyProof.Rows
set_option maxRecDepth 100000
set_option maxHeartbeats 8000000
namespace Mine
theorem index_from (l : Addr) (items : Array Value) (n : Nat) (dd : Option Addr) (sl : Array (Option Value)) (x : Value) (e : Value → Bool) (i : Nat) (t : Tok) (hi : (i : Int) < 2 ^ 62) (j : Nat) (hj : j < items.size) (hij : i ≤ j) (hsmall : (j : Int) < 2 ^ 63 - 1)
    (hit : e items[j] = true) (hno : ∀ m (hm : m < items.size), i ≤ m → m < j → e items[m] = false) :
    Meets (Builtin.«list.index» ⟨[.ref l, x, .int i t], []⟩)
      (fun A R s => s.heap.get? l = some { cls := .type "list", dict := dd, data := .seq items n, slots := sl } ∧ (∀ y, y ∈ items → EqAt A.in1 s y x (e y)) ∧ R (.ok (.ret (.int j s.toks))) { s with toks := s.toks + 1 }) := by
  intro prog w A R s h
  obtain ⟨hp, g, d, tk, os⟩ := s; obtain ⟨hl, he, h⟩ := h
  wp_walk using wpAny_loadPart' hl
  have a1 : ((fun i : Int => if i < 0 then max 0 (i + (items.size : Int)) else i) ((some (i : Int)).getD 0)) = ((i : Nat) : Int) := by simp; omega
  have a2 : ((fun i : Int => if i < 0 then max 0 (i + (items.size : Int)) else i) ((none : Option Int).getD (2 ^ 63 - 1))) = 2 ^ 63 - 1 := by simp
  rw [a1, a2]
  exact ⟨plainId_quiet plain_index_loop _, codeAny_builtin entry_index_loop (by
    rw [Around.under_plainId plain_index_loop _]
    exact index_loopAt l items n dd sl x e (2 ^ 63 - 1) j hj hsmall hit _ i rfl hij (fun m hm h1 h2 => hno m hm h1 h2) prog w A R _ ⟨hl, he, h⟩)⟩
noncomputable def sgD (x : Nat × Bool) : PyData := .tuple [.str (S [x.1]), .bool x.2]
theorem eqv_sg (x y : Nat × Bool) : PyData.eqv (sgD x) (sgD y) = decide (x = y) := by
  obtain ⟨a, b⟩ := x
  obtain ⟨c, d⟩ := y
  simp only [sgD, PyData.eqv, PyData.eqvAll, S_eq, Bool.and_true]
  by_cases h1 : a = c <;> by_cases h2 : b = d <;> simp [h1, h2]
theorem eqvAll_sg : ∀ l r : List (Nat × Bool), PyData.eqvAll (l.map sgD) (r.map sgD) = decide (l = r)
  | [], [] => by simp [PyData.eqvAll]
  | [], _ :: _ => by simp [PyData.eqvAll]
  | _ :: _, [] => by simp [PyData.eqvAll]
  | x :: l, y :: r => by
    simp only [List.map_cons, PyData.eqvAll, eqv_sg, eqvAll_sg l r]
    by_cases h1 : x = y <;> by_cases h2 : l = r <;> simp [h1, h2]
theorem lay_sg {x : Nat × Bool} (h : x.1 < 1114112) : (sgD x).canLay0 = true := by
  unfold sgD
  simp only [PyData.canLay0, PyData.canLayAll0, PyData.strOk, Bool.and_true]
  show (S [x.1]).cps.all _ = true
  simp [S, h]
theorem layAll_sg : ∀ {l : List (Nat × Bool)}, (∀ x ∈ l, x.1 < 1114112) → PyData.canLayAll0 (l.map sgD) = true
  | [], _ => rfl
  | x :: l, h => by rw [List.map_cons, PyData.canLayAll0, lay_sg (h x (.head _)), layAll_sg fun y hy => h y (.tail _ hy)]; rfl
theorem depth_sg (x : Nat × Bool) : (sgD x).depth ≤ 1 := by
  unfold sgD; simp [PyData.depth, PyData.depthAll]
theorem depthAll_sg : ∀ l : List (Nat × Bool), PyData.depthAll (l.map sgD) ≤ 1
  | [] => by simp [PyData.depthAll]
  | x :: l => by
    have h1 := depth_sg x
    have h2 := depthAll_sg l
    rw [List.map_cons, PyData.depthAll]
    omega
theorem reads_sg {h₀ h : Heap} {L a : Addr} {news : List (Addr × Obj)} {c : Nat} {b : Bool} {Y : Str} {t : Tok} (N : News h₀ L h news) (hx : (a, tup [.str Y t, .bool b]) ∈ news) (hy : Y = S [c]) : ∃ as, Reads h (.ref a) (sgD (c, b)) as := by
  subst hy
  exact ⟨_, reads_tuple_at (N.get hx) rfl rfl (.cons (.str _ _) (.cons (.bool _) .nil))⟩
theorem readsAll_sg {h₀ h : Heap} {L : Addr} {news tl : List (Addr × Obj)} (N : News h₀ L h news) (hs : ∀ p ∈ tl, p ∈ news) : ∀ {vs : List Value} {sg : List (Nat × Bool)}, SgAt tl vs sg → ∃ as, ReadsAll h vs (sg.map sgD) as
  | [], [], _ => ⟨_, .nil⟩
  | v :: vs, x :: sg, hS => by
    obtain ⟨⟨a, t, rfl, hm⟩, r⟩ := hS
    obtain ⟨as, h1⟩ := reads_sg N (hs _ hm) rfl
    obtain ⟨bs, h2⟩ := readsAll_sg N hs r
    exact ⟨_, .cons h1 h2⟩
  | [], _ :: _, h => h.elim
  | _ :: _, [], h => h.elim
section
variable {prog : Program} {w : World} {A : Around} {E : Value → Shared → Prop} {s : Shared} {h₀ : Heap} {L a a' D D' : Addr} {news tl tl' : List (Addr × Obj)} {Q : Value → Shared → Prop} {c c' : Nat} {b b' r : Bool} {Y Y' : Str} {t t' u : Tok} {vs vs' : List Value} {l l' : List (Nat × Bool)} {n n' i j : Nat}
theorem eq_TT (N : News h₀ L s.heap news) (hx : (a, tup [.str Y t, .bool b]) ∈ news) (hy : (a', tup [.str Y' t', .bool b']) ∈ news) (e1 : Y = S [c]) (e2 : Y' = S [c']) (k1 : c < 1114112) (k2 : c' < 1114112) (hu : A.units + 64 < cLine)
    (hr : decide ((c, b) = (c', b')) = r) (h : Q (.bool r) s) : wpAny (model prog w) A (compareOp .Eq (.ref a) (.ref a')) Q E s := by
  obtain ⟨_, r1⟩ := reads_sg N hx e1
  obtain ⟨_, r2⟩ := reads_sg N hy e2
  refine eq_dataH r1 r2 ?_ ?_ hu (by rw [eqv_sg, hr]; exact h)
  · unfold SeqAt.shaped; rw [lay_sg k1, Bool.true_and]; exact decide_eq_true (Nat.le_trans (depth_sg _) (by decide))
  · unfold SeqAt.shaped; rw [lay_sg k2, Bool.true_and]; exact decide_eq_true (Nat.le_trans (depth_sg _) (by decide))
theorem ne_TT (N : News h₀ L s.heap news) (hx : (a, tup [.str Y t, .bool b]) ∈ news) (hy : (a', tup [.str Y' t', .bool b']) ∈ news) (e1 : Y = S [c]) (e2 : Y' = S [c']) (k1 : c < 1114112) (k2 : c' < 1114112) (hu : A.units + 64 < cLine)
    (hr : (!decide ((c, b) = (c', b'))) = r) (h : Q (.bool r) s) : wpAny (model prog w) A (compareOp .NotEq (.ref a) (.ref a')) Q E s := by
  obtain ⟨_, r1⟩ := reads_sg N hx e1
  obtain ⟨_, r2⟩ := reads_sg N hy e2
  refine ne_dataH r1 r2 ?_ ?_ hu (by rw [eqv_sg, hr]; exact h)
  · unfold SeqAt.shaped; rw [lay_sg k1, Bool.true_and]; exact decide_eq_true (Nat.le_trans (depth_sg _) (by decide))
  · unfold SeqAt.shaped; rw [lay_sg k2, Bool.true_and]; exact decide_eq_true (Nat.le_trans (depth_sg _) (by decide))
theorem eq_LL (N : News h₀ L s.heap news) (hx : (D, listOf vs.toArray n) ∈ news) (hy : (D', listOf vs'.toArray n') ∈ news) (S1 : SgAt tl vs l) (S2 : SgAt tl' vs' l') (s1 : ∀ p ∈ tl, p ∈ news) (s2 : ∀ p ∈ tl', p ∈ news) (k1 : ∀ x ∈ l, x.1 < 1114112) (k2 : ∀ x ∈ l', x.1 < 1114112) (hu : A.units + 64 < cLine)
    (hr : decide (l = l') = r) (h : Q (.bool r) s) : wpAny (model prog w) A (compareOp .Eq (.ref D) (.ref D')) Q E s := by
  obtain ⟨_, r1⟩ := readsAll_sg N s1 S1
  obtain ⟨_, r2⟩ := readsAll_sg N s2 S2
  have f1 : (PyData.list (l.map sgD)).canLay0 = true ∧ (PyData.list (l.map sgD)).depth ≤ 64 := ⟨by rw [PyData.canLay0]; exact layAll_sg k1, by have := depthAll_sg l; rw [PyData.depth]; omega⟩
  have f2 : (PyData.list (l'.map sgD)).canLay0 = true ∧ (PyData.list (l'.map sgD)).depth ≤ 64 := ⟨by rw [PyData.canLay0]; exact layAll_sg k2, by have := depthAll_sg l'; rw [PyData.depth]; omega⟩
  refine eq_dataH (reads_list_at (N.get hx) rfl rfl (by simpa [W.listOf] using r1)) (reads_list_at (N.get hy) rfl rfl (by simpa [W.listOf] using r2)) ?_ ?_ hu (by rw [PyData.eqv, eqvAll_sg, hr]; exact h)
  · unfold SeqAt.shaped; rw [f1.1, Bool.true_and]; exact decide_eq_true f1.2
  · unfold SeqAt.shaped; rw [f2.1, Bool.true_and]; exact decide_eq_true f2.2
theorem readOf_sg {h : Heap} {vs : List Value} {sg : List (Nat × Bool)} {as : List Addr} (k : ∀ x ∈ sg, x.1 < 1114112) (r : ReadsAll h vs (sg.map sgD) as) {i : Nat} {v : Value} {x : Nat × Bool} (hv : vs[i]? = some v) (hx : sg[i]? = some x) : readOf h v = sgD x := by
  have e := readsAll_map _ _ _ (layAll_sg k) r
  have e1 : (vs.map (readOf h))[i]? = some (readOf h v) := by rw [List.getElem?_map, hv]; rfl
  rw [e, List.getElem?_map, hx] at e1
  injection e1 with e1
  exact e1.symm
theorem index_sg (N : News h₀ L s.heap news) (hx : (D, listOf vs.toArray n) ∈ news) (hy : (a', tup [.str Y' t', .bool b']) ∈ news) (S1 : SgAt tl vs l) (s1 : ∀ p ∈ tl, p ∈ news) (e2 : Y' = S [c']) (k1 : ∀ x ∈ l, x.1 < 1114112) (k2 : c' < 1114112) (hu : A.units + 64 < cLine)
    (hi : i ≤ 1000) (hz : l.length ≤ 1000) (hij : i ≤ j) (hj : l[j]? = some (c', b')) (hno : ∀ m, i ≤ m → m < j → l[m]? ≠ some (c', b')) (h : Q (.int j s.toks) { s with toks := s.toks + 1 }) :
    wpAny (model prog w) A (call (.builtin "list.index") [.ref D, .ref a', .int i u]) Q E s := by
  obtain ⟨_, r1⟩ := readsAll_sg N s1 S1
  obtain ⟨_, r2⟩ := reads_sg N hy e2
  have hl := S1.length
  have hjl : j < l.length := (List.getElem?_eq_some_iff.mp hj).1
  have hat : ∀ m (hm : m < vs.toArray.size) (x : Nat × Bool), l[m]? = some x → PyData.eqv (readOf s.heap vs.toArray[m]) (sgD (c', b')) = decide (x = (c', b')) := by
    intro m hm x hx
    have hm' : m < vs.length := by simpa using hm
    rw [readOf_sg k1 r1 (i := m) (v := vs.toArray[m]) (by rw [List.getElem?_eq_getElem hm']; simp) hx, eqv_sg]
  refine call_meets PySem.F.slot_list_index ⟨_, (N _ hx).1, rfl⟩ PySem.F.entry_list_index (PySem.F.args_list_index_3 _ _ _)
    (index_from D vs.toArray n none #[] (.ref a') (fun y => PyData.eqv (readOf s.heap y) (sgD (c', b'))) i u (by omega) j (by simp; omega) hij (by omega) ?_ ?_) ⟨(N _ hx).1, ?_, h⟩
  · rw [hat j (by simp; omega) _ hj]; simp
  · intro m hm h1 h2
    have hm' : m < l.length := by simp at hm; omega
    have e : l[m]? = some l[m] := List.getElem?_eq_getElem hm'
    rw [hat m hm _ e]
    exact decide_eq_false fun q => hno m h1 h2 (by rw [e, q])
  · refine items_eqAt (by simpa [W.listOf] using r1) r2 (layAll_sg k1) (lay_sg k2) ?_
    have h1 := Nat.min_le_right (PyData.depthAll (l.map sgD)) (sgD (c', b')).depth
    have h2 := depth_sg (c', b')
    omega
end
end Mine
end

section
open PySem PySem.W PyProof.Rows PyProof.Rows.LCg PyProof.Rows.LCt PySem.Builtin.Str
set_option maxRecDepth 100000
set_option maxHeartbeats 8000000
namespace Mine
noncomputable def sgP : Pl → List (Nat × Bool)
  | .sign c => [(c, !spec4 c)]
  | .any => [(46, true)]
  | .rng n a b => if a ≤ b then (91, true) :: ((if n then [(94, true)] else []) ++ [(a, !hit a), (45, true), (b, !hit b), (93, true)]) else if n then [(46, true)] else [(40, true), (63, true), (33, true), (41, true)]
theorem sgP_tr (p : Pl) : sgL (sgP p) = p.tr := by
  cases p with
  | sign c => simp only [sgP, sgL, Pl.tr, escP, List.flatMap_cons, List.flatMap_nil, sgT]; cases spec4 c <;> rfl
  | any => rfl
  | rng n a b =>
    simp only [sgP, Pl.tr]
    by_cases h : a ≤ b
    · rw [if_pos h, if_pos h]
      have e45 : hit 45 = false := by decide
      cases n <;> simp only [sgL, esc, sgT, List.flatMap_cons, List.flatMap_nil, List.cons_append, List.nil_append, e45] <;> cases hit a <;> cases hit b <;> rfl
    · rw [if_neg h, if_neg h]
      cases n <;> rfl
theorem sgP_bare (p : Pl) (h : p.ok) : ∀ x ∈ sgP p, x.2 = true → x.1 ≠ 92 := by
  cases p with
  | sign c =>
    intro x hx _
    simp only [sgP, List.mem_singleton] at hx
    subst hx
    have h : 97 ≤ c := h
    dsimp only; omega
  | any => intro x hx _; simp only [sgP, List.mem_singleton] at hx; subst hx; decide
  | rng n a b =>
    have h : 97 ≤ a ∧ 97 ≤ b := h
    intro x hx _
    simp only [sgP] at hx
    split at hx
    · cases n <;> simp at hx <;> rcases hx with rfl | rfl | rfl | rfl | rfl | rfl <;> dsimp only <;> omega
    · cases n <;> simp at hx
      · rcases hx with rfl | rfl | rfl | rfl <;> decide
      · subst hx; decide
theorem S_last {l : List Nat} {i : Int} (h0 : 0 < i) (h2 : i ≤ l.length) : Txt.slice (S l) (some (-i)) none = S (l.drop (l.length - i).toNat) := by
  rw [← S_from (l := l) (i := (l.length : Int) - i) (by omega) (by omega)]
  have e : strSliceIndices (some (-i)) none 1 (S l).length = strSliceIndices (some ((l.length : Int) - i)) none 1 (S l).length := by
    rw [S_len]
    unfold strSliceIndices
    simp only [show (1 : Int) > 0 by decide, if_true, show (-i < 0) = True from eq_true (by omega), show ((l.length : Int) - i < 0) = False from eq_false (by omega), if_false]
    congr 1
    omega
  unfold Txt.slice
  rw [e]
section
variable {prog : Program} {w : World} {A : Around} {E : Value → Shared → Prop} {s : Shared} {Q : Value → Shared → Prop} {h₀ : Heap} {L : Addr} {m : Str → Option Value} {news : List (Addr × Obj)} {value slice : PySem.Expr} {t ui uj : Tok} {X : List Nat}
theorem text_4 (hF : Fr h₀ L s.heap m) (hN : News h₀ L s.heap news) (hz : X.length ≤ 900) (h : ∀ h' t' k, Fr h₀ L h' m → News h₀ L h' news → Q (.str (S [40, 63, 115, 58]) t') { s with heap := h', toks := k })
    (hs : subscripted slice false (.str (S ([40, 63, 115, 58] ++ X ++ [41, 92, 90])) t) (.ref s.heap.objs.size) = operate [.ref s.heap.objs.size, .str (S ([40, 63, 115, 58] ++ X ++ [41, 92, 90])) t] (getItem (.str (S ([40, 63, 115, 58] ++ X ++ [41, 92, 90])) t) (.ref s.heap.objs.size)))
    (ht : ∀ r, letTemporaryGo value (.str (S ([40, 63, 115, 58] ++ X ++ [41, 92, 90])) t) r = pure ()) :
    wpAny (model prog w) A (subscriptTail value slice (.str (S ([40, 63, 115, 58] ++ X ++ [41, 92, 90])) t) (.ref s.heap.objs.size)) Q E { s with heap := s.heap.push { cls := .type "slice", data := .fields #[.none, .int 4 uj, .none] } } :=
  slice_strN_ns hF hN (fun h' t' k a b => by
    rw [S_to (l := [40, 63, 115, 58] ++ X ++ [41, 92, 90]) (j := 4) (by decide) (by simp; omega)]
    exact h h' t' k a b) hs ht (S_fits (by simp; omega))
theorem text_3 (hF : Fr h₀ L s.heap m) (hN : News h₀ L s.heap news) (hz : X.length ≤ 900) (h : ∀ h' t' k, Fr h₀ L h' m → News h₀ L h' news → Q (.str (S [41, 92, 90]) t') { s with heap := h', toks := k })
    (hs : subscripted slice false (.str (S ([40, 63, 115, 58] ++ X ++ [41, 92, 90])) t) (.ref s.heap.objs.size) = operate [.ref s.heap.objs.size, .str (S ([40, 63, 115, 58] ++ X ++ [41, 92, 90])) t] (getItem (.str (S ([40, 63, 115, 58] ++ X ++ [41, 92, 90])) t) (.ref s.heap.objs.size)))
    (ht : ∀ r, letTemporaryGo value (.str (S ([40, 63, 115, 58] ++ X ++ [41, 92, 90])) t) r = pure ()) :
    wpAny (model prog w) A (subscriptTail value slice (.str (S ([40, 63, 115, 58] ++ X ++ [41, 92, 90])) t) (.ref s.heap.objs.size)) Q E { s with heap := s.heap.push { cls := .type "slice", data := .fields #[.int (-3) ui, .none, .none] } } :=
  slice_strN_sn hF hN (fun h' t' k a b => by
    have e := S_last (l := [40, 63, 115, 58] ++ X ++ [41, 92, 90]) (i := 3) (by decide) (by simp; omega)
    have e2 : ((([40, 63, 115, 58] ++ X ++ [41, 92, 90] : List Nat).length : Int) - 3).toNat = ([40, 63, 115, 58] ++ X : List Nat).length + 0 := by simp; omega
    rw [e2, drop_len] at e
    rw [e]; exact h h' t' k a b) hs ht (S_fits (by simp; omega))
theorem text_in (hF : Fr h₀ L s.heap m) (hN : News h₀ L s.heap news) (hz : X.length ≤ 900) (h : ∀ h' t' k, Fr h₀ L h' m → News h₀ L h' news → Q (.str (S X) t') { s with heap := h', toks := k })
    (hs : subscripted slice false (.str (S ([40, 63, 115, 58] ++ X ++ [41, 92, 90])) t) (.ref s.heap.objs.size) = operate [.ref s.heap.objs.size, .str (S ([40, 63, 115, 58] ++ X ++ [41, 92, 90])) t] (getItem (.str (S ([40, 63, 115, 58] ++ X ++ [41, 92, 90])) t) (.ref s.heap.objs.size)))
    (ht : ∀ r, letTemporaryGo value (.str (S ([40, 63, 115, 58] ++ X ++ [41, 92, 90])) t) r = pure ()) :
    wpAny (model prog w) A (subscriptTail value slice (.str (S ([40, 63, 115, 58] ++ X ++ [41, 92, 90])) t) (.ref s.heap.objs.size)) Q E { s with heap := s.heap.push { cls := .type "slice", data := .fields #[.int 4 ui, .int (-3) uj, .none] } } :=
  slice_strN_ss hF hN (fun h' t' k a b => by
    have e := S_from_neg (l := [40, 63, 115, 58] ++ X ++ [41, 92, 90]) (i := 4) (j := 3) (by decide) (by decide) (by simp; omega)
    have e2 : ((([40, 63, 115, 58] ++ X ++ [41, 92, 90] : List Nat).length : Int) - 3 - 4).toNat = X.length := by simp; omega
    have e3 : (([40, 63, 115, 58] ++ X ++ [41, 92, 90] : List Nat).drop (4 : Int).toNat).take X.length = X := by simp
    rw [e2, e3] at e
    rw [e]
    exact h h' t' k a b) hs ht (S_fits (by simp; omega))
end
end Mine
end

section
open PySem PySem.W PyProof.Rows PyProof.Rows.LCg PyProof.Rows.LCt PySem.Builtin.Str
set_option maxRecDepth 100000
set_option maxHeartbeats 8000000
namespace Mine
theorem le_S {prog : Program} {w : World} {A : Around} {E : Value → Shared → Prop} {s : Shared} {Q : Value → Shared → Prop} {a b : Nat} {t u : Tok} (h : Q (.bool (decide (a ≤ b))) s) : wpAny (model prog w) A (compareOp .LtE (.str (S [a]) t) (.str (S [b]) u)) Q E s := by
  refine P.le_str ?_
  have e : (!decide ((S [b]).cps.toList < (S [a]).cps.toList)) = decide (a ≤ b) := by
    show (!decide ([b] < [a])) = decide (a ≤ b)
    have : ([b] < [a]) ↔ b < a := by simp [List.cons_lt_cons_iff]
    rw [decide_eq_decide.mpr this]
    by_cases h : a ≤ b
    · rw [decide_eq_true h, decide_eq_false (by omega)]; rfl
    · rw [decide_eq_false h, decide_eq_true (by omega)]; rfl
  rw [e]; exact h
theorem mem_strs : ∀ {vs : List Value} {xs : List Str} {v : Value}, StrsAre vs xs → v ∈ vs → ∃ x t, v = .str x t ∧ x ∈ xs
  | _, _, _, .nil, h => nomatch h
  | _, _, _, .cons x t r, h => by
    rcases List.mem_cons.mp h with rfl | h
    · exact ⟨x, t, rfl, .head _⟩
    · obtain ⟨y, u, e, hy⟩ := mem_strs r h
      exact ⟨y, u, e, .tail _ hy⟩
noncomputable def scN : Scope := scOfFd (topStmt 24)
@[irreducible] noncomputable def ncS : Stmt := nthS (thenL (nthS (fdBody (topStmt 24)) 3)) 2
/-- a span of signs, or none -/
noncomputable def spanV (T : Addr) : Option (Nat × Nat) → List Value
  | none => []
  | some _ => [.ref T]
noncomputable def inSpan : Option (Nat × Nat) → Nat → Bool
  | none, _ => false
  | some (a, b), x => decide (a ≤ x) && decide (x ≤ b)
noncomputable def strB (p : Nat → Bool) : Value → Bool
  | .str s _ => match s.cps.toList with
    | [c] => p c
    | _ => false
  | _ => false
theorem vin_strs {p : Nat → Bool} {a : List Nat} {tn : Tok} : ∀ {figs : List Nat} {fs zs : List Value}, StrsAre fs (figs.map fun f => S [f]) →
    VIn (strB p) (fun v z => ∃ a' f t1 t2 t, Value.str (S a) tn = .str (S a') t1 ∧ v = .str (S [f]) t2 ∧ z = .str (S (a' ++ [f])) t) fs zs → StrsAre zs (((figs.filter p).map fun f => a ++ [f]).map S)
  | [], _, _, hf, h => by cases hf; cases h; exact .nil
  | f :: figs, _, zs, hf, h => by
    cases hf with
    | cons _ t r =>
      unfold VIn at h
      have e : strB p (.str (S [f]) t) = p f := rfl
      rw [e] at h
      cases hp : p f with
      | true =>
        rw [hp, if_pos rfl] at h
        obtain ⟨z, zr, rfl, ⟨a', f', t1, t2, t3, h1, h2, rfl⟩, h⟩ := h
        injection h1 with h1
        injection h2 with h2
        have h1 := S_inj h1
        have h2 := S_inj h2
        injection h2 with h2
        subst h1 h2
        rw [List.filter_cons, hp, if_pos rfl]
        exact .cons _ _ (vin_strs r h)
      | false =>
        rw [hp, if_neg (by decide)] at h
        rw [List.filter_cons, hp, if_neg (by decide)]
        exact vin_strs r h
theorem vout_strs {p : Nat → Bool} {figs : List Nat} {fs : List Value} (hf : StrsAre fs (figs.map fun f => S [f])) : ∀ {names : List (List Nat)} {ns zs : List Value}, StrsAre ns (names.map S) →
    VOut (strB p) (fun nv v z => ∃ a f t1 t2 t, nv = .str (S a) t1 ∧ v = .str (S [f]) t2 ∧ z = .str (S (a ++ [f])) t) fs ns zs → StrsAre zs ((names.flatMap fun nm => (figs.filter p).map fun f => nm ++ [f]).map S)
  | [], _, _, hn, h => by cases hn; cases h; exact .nil
  | a :: names, _, zs, hn, h => by
    cases hn with
    | cons _ t r =>
      obtain ⟨x, y, rfl, h1, h2⟩ := h
      rw [List.flatMap_cons, List.map_append]
      exact strs_app (vin_strs hf h1) (vout_strs hf r h2)
section
variable {prog : Program} {w : World} {A : Around} {E : Value → Shared → Prop} {s : Shared} {h₀ : Heap} {L : Addr} {news : List (Addr × Obj)} {value slice : PySem.Expr} {a : Addr} {x y : Value} {u : Tok} {Q : Value → Shared → Prop}
theorem tup_0 (N : News h₀ L s.heap news) (hm : (a, tup [x, y]) ∈ news) (h : Q x s)
    (hs : subscripted slice false (.ref a) (.int 0 u) = operate [.ref a, .int 0 u] (getItem (.ref a) (.int 0 u)) := by with_unfolding_all rfl) (hg : ∀ r, letTemporaryGo value (.ref a) r = pure () := by intro _; with_unfolding_all rfl) :
    wpAny (model prog w) A (subscriptTail value slice (.ref a) (.int 0 u)) Q E s := kim_tup (l := [x, y]) (j := 0) N hm rfl rfl (by decide) (by decide) rfl rfl h hs hg
theorem tup_1 (N : News h₀ L s.heap news) (hm : (a, tup [x, y]) ∈ news) (h : Q y s)
    (hs : subscripted slice false (.ref a) (.int 1 u) = operate [.ref a, .int 1 u] (getItem (.ref a) (.int 1 u)) := by with_unfolding_all rfl) (hg : ∀ r, letTemporaryGo value (.ref a) r = pure () := by intro _; with_unfolding_all rfl) :
    wpAny (model prog w) A (subscriptTail value slice (.ref a) (.int 1 u)) Q E s := kim_tup (l := [x, y]) (j := 1) N hm rfl rfl (by decide) (by decide) rfl rfl h hs hg
theorem ne_one {D D' T : Addr} {a b n n' : Nat} {t t' : Tok} (N : News h₀ L s.heap news) (hD : (D, listOf #[.ref T] n) ∈ news) (hD' : (D', listOf #[] n') ∈ news) (hT : (T, tup [.str (S [a]) t, .str (S [b]) t']) ∈ news) (ha : a < 1114112) (hb : b < 1114112) (hu : A.units + 64 < cLine)
    (h : Q (.bool true) s) : wpAny (model prog w) A (compareOp .NotEq (.ref D) (.ref D')) Q E s := by
  have r1 : Reads s.heap (.ref T) (.tuple [.str (S [a]), .str (S [b])]) _ := reads_tuple_at (N.get hT) rfl rfl (.cons (.str _ _) (.cons (.str _ _) .nil))
  have e : PyData.strOk (S [a]) = true := by show (S [a]).cps.all _ = true; simp [ha]
  have e2 : PyData.strOk (S [b]) = true := by show (S [b]).cps.all _ = true; simp [hb]
  refine ne_dataH (da := .list [.tuple [.str (S [a]), .str (S [b])]]) (db := .list []) (reads_list_at (N.get hD) rfl rfl (.cons r1 .nil)) (reads_list_at (N.get hD') rfl rfl .nil) ?_ rfl hu h
  unfold SeqAt.shaped
  simp [PyData.canLay0, PyData.canLayAll0, PyData.depth, PyData.depthAll, e, e2]
theorem ne_non {D D' : Addr} {n n' : Nat} (N : News h₀ L s.heap news) (hD : (D, listOf #[] n) ∈ news) (hD' : (D', listOf #[] n') ∈ news) (hu : A.units + 64 < cLine) (h : Q (.bool false) s) : wpAny (model prog w) A (compareOp .NotEq (.ref D) (.ref D')) Q E s :=
  ne_dataH (da := .list []) (db := .list []) (reads_list_at (N.get hD) rfl rfl .nil) (reads_list_at (N.get hD') rfl rfl .nil) rfl rfl hu h
end
section
theorem nmComp (w : World) {dp un : Nat} {gd : Option (List Code)} {cn : Str} {cs : Scope} {ac : Addr} {ccd : Value} {cl : List (Str × Addr)} {outer : List Env} {g' : Heap} {L L' : Addr} {m : Str → Option Value} {s : Shared} {E : Value → Shared → Prop} {Q : Flow → Shared → Prop} {sc : Scope} (hsc : sc = scN)
    {ND FG SP T : Addr} {ns fs : List Value} {c1 c2 c3 : Nat} {news : List (Addr × Obj)} {names : List (List Nat)} {figs : List Nat} {oF oB oS : Obj} {bar : Bool} {sp : Option (Nat × Nat)} {t1 t2 : Tok}
    (F : Fr g' L' s.heap m) (N : News g' L' s.heap news) (hnm : m "names" = some (.ref ND)) (hmN : (ND, listOf ns.toArray c1) ∈ news) (hmF : (FG, listOf fs.toArray c2) ∈ news) (hmS : (SP, listOf (spanV T sp).toArray c3) ∈ news) (hmT : ∀ a b, sp = some (a, b) → (T, tup [.str (S [a]) t1, .str (S [b]) t2]) ∈ news)
    (cF : (L' + 1, oF) ∈ news) (cB : (L' + 1 + 1, oB) ∈ news) (cS : (L' + 1 + 1 + 1, oS) ∈ news) (dF : oF.data = .cell (some (.ref FG))) (dB : oB.data = .cell (some (.bool bar))) (dS : oS.data = .cell (some (.ref SP)))
    (hN : StrsAre ns (names.map S)) (hF : StrsAre fs (figs.map fun f => S [f])) (hzn : ns.length ≤ 1000) (hzf : fs.length ≤ 1000) (hzN : ∀ x ∈ names, x.length ≤ 100) (hab : ∀ a b, sp = some (a, b) → a < 1114112 ∧ b < 1114112) (hu : un + 100 < cLine)
    (hQ : ∀ D h tk ys, Fr g' L' h (fun z => if z = Str.ofString "names" then some (.ref D) else m z) → News g' L' h ((D, lst ys) :: news) → (∀ p ∈ news, p.1 < D) → StrsAre ys ((names.flatMap fun nm => (figs.filter fun f => bar != inSpan sp f).map fun f => nm ++ [f]).map S) → Q .next { s with heap := h, toks := tk }) :
    wpAny (model PySem.Challenge.rw_in0279_01.row.toRowW.prog w) ((ktrTop dp un gd cn cs L ac ccd cl outer).deeper (envOfC "_law_names" sc L' 142 (.ref 141))) (exec ncS (envOfC "_law_names" sc L' 142 (.ref 141))) Q E s := by
  k_with_none
  w_top off
  k_with "om" => (first | decide | (with_reducible first | (refine neN ?_; first | (refine Nat.ne_of_lt ?_; first | ((repeat (first | assumption | exact om_k1 | refine Nat.lt_succ_of_lt ?_)); done) | (apply And.left; (iterate 18 (first | done | assumption | apply And.right)); done)) | (refine Nat.ne_of_gt ?_; first | ((repeat (first | assumption | exact om_k1 | refine Nat.lt_succ_of_lt ?_)); done) | (apply And.left; (iterate 18 (first | done | assumption | apply And.right)); done)) | (refine Ne.symm ?_; assumption) | (refine om_s ?_; omega)) | exact om_le (by assumption) rfl | exact om_ll (by assumption) rfl | exact om_lt (by assumption) rfl | exact om_lg (by assumption) rfl | exact om_r1 (by assumption) rfl | exact om_r2 (by assumption) rfl | exact om_r3 (by assumption) rfl | exact om_il (by assumption) rfl | exact om_ig (by assumption) rfl | exact om_tn (by assumption) rfl | exact om_tl (by assumption) rfl | exact om_nc (by assumption) rfl | exact Int.natCast_nonneg _ | exact Int.le_of_lt (by assumption)) | (law_clear; lia))
  k_with "execs cons" => ((first | (k_here; k_gentoks) | (refine wpAny_execs_cons ?_; k_fold; (try k_extra "mlet"))))
  k_with "stp" => (repeat' (first | (k_unfold; (try dsimp only)) | (k_end; wrow_close) | (walk1; (all_goals (try dsimp only))) | (dsimp only; walk1) | (leave1; walk_say "STEP leave1"; try dsimp only) | fail "no step"))
  k_with "spliced" => (k_dflt (first | ((with_reducible show wpAny _ _ (spliced (backTo _ (starEach [_] _))) _ _ _); refine sp1 ?_) | ((with_reducible show wpAny _ _ (spliced (backTo _ (starEach [_, _] _))) _ _ _); refine sp2 ?_) | ((with_reducible show wpAny _ _ (spliced (backTo _ (starEach [_, _, _] _))) _ _ _); refine sp3 ?_)))
  k_with "compareOp NotEq ref ref" => ((k_dflt (first
  | (refine' ne_non ?w9qN ?w9qa ?w9qb ?w9qu ?_; (case w9qN => k_asm); (case w9qa => (repeat (first | exact List.mem_cons_self | refine List.mem_cons_of_mem _ ?_))); (case w9qb => exact List.mem_cons_self); (case w9qu => ke_room))
  | (refine' ne_one ?w9qN ?w9qa ?w9qb ?w9qc ?w9qd ?w9qe ?w9qu ?_; (case w9qN => k_asm); (case w9qa => exact .tail _ (.head _)); (case w9qb => exact List.mem_cons_self); (case w9qc => exact .tail _ (.tail _ (by assumption))); (case w9qd => assumption); (case w9qe => assumption); (case w9qu => ke_room)))))
  k_with "subscriptTail Name Constant ref int" => ((k_dflt (first
  | ((with_reducible show wpAny _ _ (subscriptTail _ _ (Value.ref _) (Value.int 0 _)) _ _ _); refine' tup_0 ?w9qN ?w9qm ?_ ?w9qs ?w9qt; (case w9qN => k_asm); (case w9qm => (repeat (first | assumption | refine List.mem_cons_of_mem _ ?_))); (case w9qs => with_unfolding_all rfl); (case w9qt => (intro _; with_unfolding_all rfl)))
  | ((with_reducible show wpAny _ _ (subscriptTail _ _ (Value.ref _) (Value.int 1 _)) _ _ _); refine' tup_1 ?w9qN ?w9qm ?_ ?w9qs ?w9qt; (case w9qN => k_asm); (case w9qm => (repeat (first | assumption | refine List.mem_cons_of_mem _ ?_))); (case w9qs => with_unfolding_all rfl); (case w9qt => (intro _; with_unfolding_all rfl))))))
  k_with "binaryOp Add str str" => ((k_dflt (refine add_S rfl rfl (by omega) (by simp) ?_); intro tW9' kW9'))
  k_with "eval ListComp" => ((k_dflt (refine LCt.ListComp_T (F₀ := by k_asm) (by with_unfolding_all rfl) (by decide) (by rfl) (by decide) (by rfl) ?_)))
  k_with "CompSrcT" => ((k_dflt (refine LCt.CompSrcT.ledger (by rfl) (by k_asm) (by k_asm) (by assumption) (by exact Nat.le_of_ble_eq_true rfl) ?_); intro gW9'; refine Halt.of ?_))
  k_with "compareOp LtE str str" => ((k_dflt (refine le_S ?_)))
  k_with "eval Name" => (((with_reducible show wpAny _ _ (eval (PySem.Expr.Name _ _) (compEnvC _ _ _ _)) _ _ _); k_dflt (first
  | (refine LCgL.ld_own (by k_asm) (by k_memK) (by assumption) (by assumption) ?_)
  | (refine' lcf_cell ?w9N ?w9c ?w9m ?w9d ?_ ?w9a ?w9b; (case w9a => rfl); (case w9b => rfl); (case w9N => k_asm); (case w9c => rfl); (case w9m => (first | assumption | k_memK)); (case w9d => k_asm); k_whole)
  | (refine' lcf_free ?w9N ?w9c ?w9m ?w9d ?_ ?w9a ?w9b; (case w9a => rfl); (case w9b => rfl); (case w9N => k_asm); (case w9c => rfl); (case w9m => (first | assumption | k_memK)); (case w9d => k_asm); k_whole))))
  conv at hsc => rhs; whnf
  subst hsc
  have hb : ncS = ncS := rfl
  conv at hb => rhs; unfold ncS; whnf
  rw [hb]
  clear hb
  refine comp2A (b := strB fun f => bar != inSpan sp f) (V := fun nv v z => ∃ a f t1 t2 t, nv = .str (S a) t1 ∧ v = .str (S [f]) t2 ∧ z = .str (S (a ++ [f])) t) rfl F N (by with_unfolding_all rfl) (by with_unfolding_all rfl) (by rfl) (by decide) (by rfl) (by rfl) (fun _ => rfl) (fun _ => rfl) (fun _ _ => rfl) (fun _ _ => rfl) hmN hmF rfl hzf hzn (fun _ => rfl) (fun _ _ _ => rfl) ?_ ?_ ?_ ?_ ?_
  · intro Q' hq
    exact wpAny_Name (wpAny_loadName_local (by rfl) (by rfl) F.ns hnm hq) (by decide)
  · intro I D C K oI oC oK ys h tk E' Q' F1 N1 hq
    exact lcf_cell N1 rfl (.tail _ (.tail _ (.tail _ (.tail _ cF)))) dF hq rfl rfl
  · intro nv v mm I2 I D C K oI2 oI oC oK ys h tk E' Q' hnv hv hC hmm hK F1 N1 hd hq
    obtain ⟨xv, tv, rfl, hv2⟩ := mem_strs hF hv
    obtain ⟨f, hf, rfl⟩ := List.mem_map.mp hv2
    have hmB : (L' + 1 + 1, oB) ∈ (I2, oI2) :: (I, oI) :: (D, lst ys) :: (C, oC) :: (K, oK) :: news := .tail _ (.tail _ (.tail _ (.tail _ (.tail _ cB))))
    have hmSp : (L' + 1 + 1 + 1, oS) ∈ (I2, oI2) :: (I, oI) :: (D, lst ys) :: (C, oC) :: (K, oK) :: news := .tail _ (.tail _ (.tail _ (.tail _ (.tail _ cS))))
    have hmS1 : (SP, listOf (spanV T sp).toArray c3) ∈ (I2, oI2) :: (I, oI) :: (D, lst ys) :: (C, oC) :: (K, oK) :: news := .tail _ (.tail _ (.tail _ (.tail _ (.tail _ hmS))))
    cases sp with
    | none =>
      dsimp only [spanV] at hmS1
      k_extra "stp"
      refine Halt.to (CompRestT.zero ?_)
      intro D9 h9 tk9 F9 N9 o9
      (try dsimp only)
      k_extra "stp"
      have e : (bar != false) = strB (fun f => bar != inSpan none f) (.str (S [f]) tv) := rfl
      rw [e]
      exact hq _ _ (by k_asm) (cb_drop (by k_asm) (fun q hq => .tail _ (.tail _ hq)))
    | some ab =>
      obtain ⟨a, b⟩ := ab
      obtain ⟨ha, hb⟩ := hab a b rfl
      have hmT1 : (T, tup [.str (S [a]) t1, .str (S [b]) t2]) ∈ (I2, oI2) :: (I, oI) :: (D, lst ys) :: (C, oC) :: (K, oK) :: news := .tail _ (.tail _ (.tail _ (.tail _ (.tail _ (hmT a b rfl)))))
      dsimp only [spanV] at hmS1
      k_extra "stp"
      refine Halt.to ?_
      refine restT (M := 1) (b := fun _ => decide (a ≤ f) && decide (f ≤ b)) (V := fun _ y => y = .ref T) (.inr ⟨_, hmS1, rfl, _, rfl⟩) ?_ ?_ 1 0 [] (by decide) ?_
      · rintro i v I5 oI5 C5 oC5 D5 ys5 m5 h5 tk5 E5 Q5 hi5 hv5 hN5 hm5 F5 N5 hret5
        obtain rfl : i = 0 := by omega
        obtain rfl : Value.ref T = v := by simpa using hv5
        have hr := hret5 h5 tk5 F5 N5
        (try dsimp only)
        k_extra "stp"
        · have h1 : a ≤ f := by assumption
          have e5 : (decide (a ≤ f) && decide (f ≤ b)) = decide (f ≤ b) := by rw [decide_eq_true h1, Bool.true_and]
          rw [e5] at hret5; exact hret5 _ _ F5 N5
        · have h1 : ¬ a ≤ f := by assumption
          have e5 : (decide (a ≤ f) && decide (f ≤ b)) = false := by rw [decide_eq_false h1, Bool.false_and]
          rw [e5] at hret5; exact hret5 _ _ F5 N5
      · rintro i v I5 oI5 C5 oC5 D5 ys5 m5 h5 tk5 E5 Q5 hi5 hb5 hv5 hN5 hm5 F5 N5 hret5
        obtain rfl : i = 0 := by omega
        obtain rfl : Value.ref T = v := by simpa using hv5
        (try dsimp only)
        k_extra "stp"
        exact hret5 _ _ _ rfl F5 N5
      · intro ys' hys'
        have hys : ys' = if decide (a ≤ f) && decide (f ≤ b) then [.ref T] else [] := by
          unfold VAll at hys'
          split at hys'
          · rename_i hc
            obtain ⟨y, r, rfl, rfl, h2⟩ := hys'
            cases h2
            rw [if_pos hc]
          · rename_i hc
            cases hys'
            rw [if_neg hc]
        have e : ∀ c, (decide (a ≤ f) && decide (f ≤ b)) = c → (bar != c) = strB (fun f => bar != inSpan (some (a, b)) f) (.str (S [f]) tv) := fun c hc => by rw [← hc]; rfl
        cases hc : (decide (a ≤ f) && decide (f ≤ b)) with
        | true =>
          rw [hc, if_pos rfl] at hys
          subst hys
          intro D9 h9 tk9 F9 N9 o9
          (try dsimp only)
          k_extra "stp"
          rw [e _ hc]
          exact hq _ _ (by k_asm) (cb_drop (by k_asm) (fun q hq => .tail _ (.tail _ hq)))
        | false =>
          rw [hc, if_neg (by decide)] at hys
          subst hys
          intro D9 h9 tk9 F9 N9 o9
          (try dsimp only)
          k_extra "stp"
          rw [e _ hc]
          exact hq _ _ (by k_asm) (cb_drop (by k_asm) (fun q hq => .tail _ (.tail _ hq)))
  · intro nv v mm I2 I D C K oI2 oI oC oK ys h tk E' Q' hnv hv hb hC hmm hK F1 N1 hq
    obtain ⟨xv, tv, rfl, hv2⟩ := mem_strs hF hv
    obtain ⟨f, hf, rfl⟩ := List.mem_map.mp hv2
    obtain ⟨xn, tn, rfl, hnv2⟩ := mem_strs hN hnv
    obtain ⟨a, ha, rfl⟩ := List.mem_map.mp hnv2
    have hza := hzN a ha
    k_extra "stp"
    exact hq _ _ _ ⟨a, f, _, _, _, rfl, rfl, rfl⟩ F1 N1
  · intro D h tk ys F1 N1 lD hV
    exact hQ D h tk ys F1 N1 lD (vout_strs hF hN hV)
end
end Mine
end

section
open PySem PySem.W PyProof.Rows
set_option maxRecDepth 100000
set_option maxHeartbeats 8000000
namespace Mine
theorem SgAt.drop {tl : List (Addr × Obj)} : ∀ {vs : List Value} {sg : List (Nat × Bool)} (n : Nat), SgAt tl vs sg → SgAt tl (vs.drop n) (sg.drop n)
  | _, _, 0, h => h
  | [], [], _ + 1, _ => trivial
  | _ :: _, _ :: _, n + 1, h => h.2.drop n
  | [], _ :: _, _ + 1, h => h.elim
  | _ :: _, [], _ + 1, h => h.elim
theorem SgAt.take {tl : List (Addr × Obj)} : ∀ {vs : List Value} {sg : List (Nat × Bool)} (n : Nat), SgAt tl vs sg → SgAt tl (vs.take n) (sg.take n)
  | _, _, 0, _ => trivial
  | [], [], _ + 1, _ => trivial
  | _ :: _, _ :: _, n + 1, h => ⟨h.1, h.2.take n⟩
  | [], _ :: _, _ + 1, h => h.elim
  | _ :: _, [], _ + 1, h => h.elim
section
variable {prog : Program} {w : World} {A : Around} {E : Value → Shared → Prop} {s : Shared} {h₀ : Heap} {L D D' : Addr} {m : Str → Option Value} {news tl : List (Addr × Obj)} {value slice : PySem.Expr} {Q : Value → Shared → Prop} {vs : List Value} {n n' : Nat}
/-- a part of a list on the ledger, both ends at hand -/
theorem slice_L {i j : Int} {ui uj : Tok} {zs : List Value} (hr : (vs.drop i.toNat).take (min j.toNat vs.length - i.toNat) = zs) (F : Fr h₀ L s.heap m) (N : News h₀ L s.heap news) (hm : (D, listOf vs.toArray n) ∈ news) (h0 : 0 ≤ i) (h1 : 0 ≤ j) (hz : vs.length ≤ 1000)
    (h : ∀ D' h', Fr h₀ L h' m → News h₀ L h' ((D', listOf zs.toArray 0) :: news) → (∀ p ∈ news, p.1 < D') → Q (.ref D') { s with heap := h' })
    (hs : subscripted slice false (.ref D) (.ref s.heap.objs.size) = operate [.ref s.heap.objs.size, .ref D] (getItem (.ref D) (.ref s.heap.objs.size))) (ht : ∀ r, letTemporaryGo value (.ref D) r = pure ()) :
    wpAny (model prog w) A (subscriptTail value slice (.ref D) (.ref s.heap.objs.size)) Q E { s with heap := s.heap.push { cls := .type "slice", data := .fields #[.int i ui, .int j uj, .none] } } := by
  refine kmk_slice_lit F N (News.isList N hm) (.int i ui) (.int j uj) ?_ h hs ht (by simp; unfold sizeLine; omega)
  have e : sliceBounds (some i) (some j) none vs.toArray.size = (((min i.toNat vs.toArray.size : Nat) : Int), ((min j.toNat vs.toArray.size : Nat) : Int), 1) := by
    simp only [sliceBounds, Option.getD_none, show (1 : Int) > 0 by decide, if_true, if_neg (show ¬ (i < 0) by omega), if_neg (show ¬ (j < 0) by omega)]
    congr 1
    · omega
    · congr 1
      omega
  rw [kmk_pick_nat _ e]
  show (vs.drop (min i.toNat vs.toArray.size)).take (min j.toNat vs.toArray.size - min i.toNat vs.toArray.size) = _
  rw [List.size_toArray, kmk_drop_min, ← hr]
  by_cases hi : i.toNat ≤ vs.length
  · rw [Nat.min_eq_left hi]
  · rw [List.drop_of_length_le (by omega)]; simp
noncomputable abbrev l4 : List (Nat × Bool) := [(40, true), (63, true), (33, true), (41, true)]
/-- a list of signs beside the four signs that let nothing in -/
theorem eq_L4 {q1 q2 q3 q4 : Addr} {Y1 Y2 Y3 Y4 : Str} {u1 u2 u3 u4 : Tok} {l : List (Nat × Bool)} {r : Bool} (N : News h₀ L s.heap news) (hD : (D, listOf vs.toArray n) ∈ news) (hL : (D', listOf #[.ref q1, .ref q2, .ref q3, .ref q4] n') ∈ news)
    (m1 : (q1, tup [.str Y1 u1, .bool true]) ∈ news) (m2 : (q2, tup [.str Y2 u2, .bool true]) ∈ news) (m3 : (q3, tup [.str Y3 u3, .bool true]) ∈ news) (m4 : (q4, tup [.str Y4 u4, .bool true]) ∈ news) (e1 : Y1 = S [40]) (e2 : Y2 = S [63]) (e3 : Y3 = S [33]) (e4 : Y4 = S [41])
    (S1 : SgAt tl vs l) (s1 : ∀ p ∈ tl, p ∈ news) (k1 : ∀ x ∈ l, x.1 < 1114112) (hu : A.units + 64 < cLine) (hr : decide (l = l4) = r) (h : Q (.bool r) s) : wpAny (model prog w) A (compareOp .Eq (.ref D) (.ref D')) Q E s := by
  subst e1 e2 e3 e4
  refine eq_LL (tl' := [(q1, tup [.str (S [40]) u1, .bool true]), (q2, tup [.str (S [63]) u2, .bool true]), (q3, tup [.str (S [33]) u3, .bool true]), (q4, tup [.str (S [41]) u4, .bool true])]) (l' := l4) (vs' := [.ref q1, .ref q2, .ref q3, .ref q4]) N hD hL S1 ?_ s1 ?_ k1 ?_ hu hr h
  · exact ⟨⟨_, _, rfl, .head _⟩, ⟨_, _, rfl, .tail _ (.head _)⟩, ⟨_, _, rfl, .tail _ (.tail _ (.head _))⟩, ⟨_, _, rfl, .tail _ (.tail _ (.tail _ (.head _)))⟩, trivial⟩
  · intro p hp
    simp only [List.mem_cons, List.not_mem_nil, or_false] at hp
    rcases hp with rfl | rfl | rfl | rfl <;> assumption
  · decide
end
/-- such a list is not the four signs, if its first sign is another -/
theorem not_l4 {c : Nat} {b : Bool} {r : List (Nat × Bool)} {n : Nat} (h : (c, b) ≠ (40, true)) : decide (((c, b) :: r).take n = l4) = false := by
  apply decide_eq_false
  intro e
  cases n with
  | zero => cases e
  | succ n => rw [List.take_succ_cons] at e; injection e with e; exact h e
end Mine
end

section
open PySem PySem.W PyProof.Rows
set_option maxRecDepth 100000
set_option maxHeartbeats 8000000
namespace Mine
noncomputable def heldP : Pl → Nat → Bool
  | .sign c, x => x == c
  | .any, _ => true
  | .rng n a b, x => n != (decide (a ≤ x) && decide (x ≤ b))
noncomputable def growN (figs : List Nat) (names : List (List Nat)) (p : Pl) : List (List Nat) := names.flatMap fun nm => (figs.filter (heldP p)).map fun f => nm ++ [f]
noncomputable def wt (ns : List Str) (p : Int) (x : Str) : Int := p ^ ns.idxOf x
/-- what a bag of names weighs -/
noncomputable def wei (ns : List Str) (p : Int) : List Str → Int
  | [] => 0
  | x :: b => wt ns p x + wei ns p b
theorem wei_app {ns : List Str} {p : Int} : ∀ a b : List Str, wei ns p (a ++ b) = wei ns p a + wei ns p b
  | [], b => by simp [wei]
  | x :: a, b => by rw [List.cons_append, wei, wei, wei_app a b, Int.add_assoc]
theorem wei_rev {ns : List Str} {p : Int} : ∀ a : List Str, wei ns p a.reverse = wei ns p a
  | [] => rfl
  | x :: a => by rw [List.reverse_cons, wei_app, wei_rev a, wei, wei, wei]; omega
theorem wei_erase {ns : List Str} {p : Int} {x : Str} : ∀ {b : List Str}, x ∈ b → wei ns p (b.erase x) = wei ns p b - wt ns p x
  | y :: b, h => by
    by_cases e : y = x
    · subst e; rw [List.erase_cons_head, wei]; omega
    · have hb : x ∈ b := by
        rcases List.mem_cons.mp h with h | h
        · exact absurd h.symm e
        · exact h
      rw [List.erase_cons_tail (by simpa using e), wei, wei, wei_erase hb]; omega
theorem wei_uld {ns : List Str} {p : Int} : ∀ es as ms : List Str, wei ns p (uld es as ms).1 - wei ns p (uld es as ms).2 = wei ns p ms + wei ns p es - wei ns p as
  | [], as, ms => by simp [uld, wei]
  | e :: es, as, ms => by
    unfold uld
    split
    · rename_i h
      rw [wei_uld es (as.erase e) ms, wei_erase h, wei]; omega
    · rw [wei_uld es as (ms ++ [e]), wei_app, wei, wei, wei]; omega
/-- the number with these figures, the lowest first -/
noncomputable def val (p : Int) : List Int → Int
  | [] => 0
  | c :: r => c + p * val p r
theorem val_one {p : Int} {x : Str} : ∀ {ns : List Str}, x ∈ ns → ns.Nodup → val p (ns.map fun n => if x == n then (1 : Int) else 0) = p ^ ns.idxOf x
  | y :: ns, h, hd => by
    rw [List.map_cons, val, List.idxOf_cons]
    by_cases e : y = x
    · subst e
      have hn : y ∉ ns := (List.nodup_cons.mp hd).1
      have hz : ∀ l : List Str, y ∉ l → val p (l.map fun n => if y == n then (1 : Int) else 0) = 0 := by
        intro l
        induction l with
        | nil => intro _; rfl
        | cons z l ih =>
          intro hl
          rw [List.map_cons, val, ih (fun h => hl (.tail _ h))]
          have : (y == z) = false := by
            rw [beq_eq_false_iff_ne]; intro e; subst e; exact hl (.head _)
          rw [this]; simp
      rw [hz ns hn]; simp
    · have hx : x ∈ ns := by
        rcases List.mem_cons.mp h with h | h
        · exact absurd h.symm e
        · exact h
      have e1 : (x == y) = false := by rw [beq_eq_false_iff_ne]; exact fun h => e h.symm
      have e2 : (y == x) = false := by rw [beq_eq_false_iff_ne]; exact e
      rw [val_one hx (List.nodup_cons.mp hd).2, e1, e2]
      simp only [cond_false, Int.pow_succ, Bool.false_eq_true, if_false, Int.zero_add]
      exact Int.mul_comm _ _
theorem val_add {p : Int} {α : Type} {f g : α → Int} : ∀ l : List α, val p (l.map fun x => f x + g x) = val p (l.map f) + val p (l.map g)
  | [] => rfl
  | x :: l => by simp only [List.map_cons, val, val_add l, Int.mul_add]; omega
theorem wei_val {ns : List Str} {p : Int} (hn : ns.Nodup) : ∀ {b : List Str}, (∀ x ∈ b, x ∈ ns) → wei ns p b = val p (ns.map fun x => ((b.count x : Nat) : Int))
  | [], _ => by
    have : ∀ l : List Str, val p (l.map fun x => (((([] : List Str).count x : Nat)) : Int)) = 0 := by
      intro l
      induction l with
      | nil => rfl
      | cons x l ih => rw [List.map_cons, val, ih]; simp
    rw [this]; rfl
  | x :: b, h => by
    rw [wei, wei_val hn (b := b) (fun y hy => h y (.tail _ hy)), wt, ← val_one (h x (.head _)) hn, ← val_add]
    congr 1
    apply List.map_congr_left
    intro y _
    rw [List.count_cons]
    by_cases e : x = y
    · subst e; simp; omega
    · simp [e]
theorem digs_val {B : Int} (hB : 0 < B) : ∀ cs : List Int, (∀ c ∈ cs, 0 ≤ c ∧ c < B) → digs B cs.length (val B cs) = cs
  | [], _ => rfl
  | c :: cs, h => by
    have hc := h c (.head _)
    rw [List.length_cons, digs, val, Int.add_mul_emod_self_left, Int.emod_eq_of_lt hc.1 hc.2, Int.add_mul_ediv_left _ _ (Int.ne_of_gt hB), Int.ediv_eq_zero_of_lt hc.1 hc.2, Int.zero_add, digs_val hB cs fun x hx => h x (.tail _ hx)]
theorem val_nonneg {B : Int} (hB : 0 < B) : ∀ {cs : List Int}, (∀ c ∈ cs, 0 ≤ c ∧ c < B) → 0 ≤ val B cs
  | [], _ => Int.le_refl 0
  | c :: cs, h => by
    have h1 := val_nonneg hB (cs := cs) fun x hx => h x (.tail _ hx)
    have h2 := Int.mul_nonneg (Int.le_of_lt hB) h1
    have := (h c (.head _)).1
    rw [val]; omega
theorem val_lt {B : Int} (hB : 0 < B) : ∀ {cs : List Int}, (∀ c ∈ cs, 0 ≤ c ∧ c < B) → val B cs < B ^ cs.length
  | [], _ => by show (0 : Int) < B ^ 0; simp
  | c :: cs, h => by
    have h1 := val_lt hB (cs := cs) fun x hx => h x (.tail _ hx)
    have h2 := (h c (.head _)).2
    have h3 : B * (val B cs + 1) ≤ B * B ^ cs.length := Int.mul_le_mul_of_nonneg_left h1 (Int.le_of_lt hB)
    rw [val, List.length_cons, Int.pow_succ, Int.mul_comm (B ^ _) B]
    rw [Int.mul_add] at h3; omega
theorem val_ge {B : Int} (hB : 0 < B) : ∀ {cs : List Int} {x : Int}, (∀ c ∈ cs, 0 ≤ c ∧ c < B) → 0 < x → B ^ cs.length ≤ val B (cs ++ [x])
  | [], x, _, hx => by show B ^ 0 ≤ x + B * 0; simp; omega
  | c :: cs, x, h, hx => by
    have h1 := val_ge hB (cs := cs) (fun x hx => h x (.tail _ hx)) hx
    have h2 := (h c (.head _)).1
    have h3 : B * B ^ cs.length ≤ B * val B (cs ++ [x]) := Int.mul_le_mul_of_nonneg_left h1 (Int.le_of_lt hB)
    rw [List.cons_append, val, List.length_cons, Int.pow_succ, Int.mul_comm (B ^ _) B]
    omega
theorem snocI : ∀ {l : List Int}, l ≠ [] → ∃ xs y, l = xs ++ [y]
  | [], h => absurd rfl h
  | [x], _ => ⟨[], x, rfl⟩
  | x :: y :: l, _ => by
    obtain ⟨xs, z, e⟩ := snocI (l := y :: l) (by simp)
    exact ⟨x :: xs, z, by rw [e]; rfl⟩
theorem two_natAbs {x : Int} {k : Nat} (h0 : 0 ≤ x) : x.natAbs < 2 ^ k ↔ x < (2 : Int) ^ k := by
  have e : ((2 ^ k : Nat) : Int) = (2 : Int) ^ k := by rw [Int.natCast_pow]; rfl
  rw [← e]; omega
/-- the figures of a number whose top figure is no nought -/
theorem digs_trim {w : Nat} (hw : 0 < w) {cs : List Int} (h : ∀ c ∈ cs, 0 ≤ c ∧ c < (2 : Int) ^ w) (hl : ∀ xs y, cs = xs ++ [y] → y ≠ 0) : dcntI (val (2 ^ w) cs) w = cs.length ∧ digs (2 ^ w) cs.length (val (2 ^ w) cs) = cs := by
  have hB : (0 : Int) < 2 ^ w := Int.pow_pos (by decide)
  refine ⟨?_, digs_val hB cs h⟩
  have hw' : (0 : Int) < (w : Int) := by omega
  rw [dcntI, fdiv_ed hw']
  have h0 := val_nonneg hB h
  have h1 := val_lt hB h
  by_cases e : cs = []
  · subst e
    have hz : Builtin.Int.intBits (val (2 ^ w) []) ≤ 0 := intBits_le_iff.mpr (by show (0 : Int).natAbs < 2 ^ 0; decide)
    have : Builtin.Int.intBits (val (2 ^ w) []) = 0 := by omega
    rw [this]
    show ((0 : Int) + w - 1) / w = 0
    exact Int.ediv_eq_zero_of_lt (by omega) (by omega)
  · obtain ⟨xs, y, rfl⟩ := snocI e
    have hy := hl xs y rfl
    have hy0 := (h y (by simp)).1
    have h2 := val_ge hB (cs := xs) (x := y) (fun c hc => h c (by simp [hc])) (by omega)
    rw [← Int.pow_mul] at h1 h2
    have b1 : Builtin.Int.intBits (val (2 ^ w) (xs ++ [y])) ≤ w * (xs ++ [y]).length := intBits_le_iff.mpr ((two_natAbs h0).mpr h1)
    have b2 : ¬ Builtin.Int.intBits (val (2 ^ w) (xs ++ [y])) ≤ w * xs.length := fun hb => by
      have := (two_natAbs h0).mp (intBits_le_iff.mp hb)
      omega
    rw [List.length_append] at b1 ⊢
    simp only [List.length_cons, List.length_nil] at b1 ⊢
    generalize Builtin.Int.intBits (val (2 ^ w) (xs ++ [y])) = n at *
    have b1' : (n : Int) ≤ (w : Int) * ((xs.length : Int) + 1) := by exact_mod_cast b1
    have b2' : (w : Int) * (xs.length : Int) < (n : Int) := by exact_mod_cast Nat.lt_of_not_le b2
    have e1 : ((n : Int) + w - 1) / w = (xs.length : Int) + 1 := by
      have e2 : (n : Int) + w - 1 = ((n : Int) - 1 - w * xs.length) + w * ((xs.length : Int) + 1) := by rw [Int.mul_add]; omega
      rw [e2, Int.add_mul_ediv_left _ _ (by omega), Int.ediv_eq_zero_of_lt (by omega) (by rw [Int.mul_add] at b1'; omega), Int.zero_add]
    rw [e1]; simp
noncomputable def figN (s : Nat) : List Nat := [s, s + 1, s + 2, s + 3]
noncomputable def namesN (s : Nat) : List Str := (figN s).flatMap fun f => (figN s).map fun g => S [f, g]
noncomputable def rowN (s : Nat) (a1 a2 : Pl) : List Str := (growN (figN s) (growN (figN s) [[]] a1) a2).map S
theorem rowN_eq (s : Nat) (a1 a2 : Pl) : rowN s a1 a2 = ((figN s).filter (heldP a1)).flatMap fun f => ((figN s).filter (heldP a2)).map fun g => S [f, g] := by
  unfold rowN growN
  simp only [List.flatMap_cons, List.flatMap_nil, List.append_nil, List.nil_append, List.flatMap_map, List.map_flatMap, List.map_map]
  rfl
noncomputable def prs : List (Nat × Nat) := (List.range 4).flatMap fun i => (List.range 4).map fun j => (i, j)
theorem namesN_eq (s : Nat) : namesN s = prs.map fun p => S [s + p.1, s + p.2] := rfl

theorem names_nodup (s : Nat) : (namesN s).Nodup := by
  have hd : prs.Pairwise (fun a b => a ≠ b) := by decide +kernel
  rw [namesN_eq]
  refine List.pairwise_map.mpr (hd.imp fun {a b} h e => h ?_)
  obtain ⟨x, e⟩ := List.cons.inj (S_inj e)
  exact Prod.ext (Nat.add_left_cancel x) (Nat.add_left_cancel (List.cons.inj e).1)
theorem fm_sub {α β : Type} {q : α → Bool} {f g : α → List β} (h : ∀ x, (f x).Sublist (g x)) : ∀ l : List α, ((l.filter q).flatMap f).Sublist (l.flatMap g)
  | [] => .slnil
  | x :: l => by
    rw [List.filter_cons]
    split
    · rw [List.flatMap_cons, List.flatMap_cons]; exact (h x).append (fm_sub h l)
    · rw [List.flatMap_cons]; exact (fm_sub h l).trans (List.sublist_append_right _ _)
theorem row_sub (s : Nat) (a1 a2 : Pl) : (rowN s a1 a2).Sublist (namesN s) := by
  rw [rowN_eq]
  exact fm_sub (fun f => (List.filter_sublist).map _) _
theorem row_mem {s : Nat} {a1 a2 : Pl} : ∀ x ∈ rowN s a1 a2, x ∈ namesN s := fun _ hx => (row_sub s a1 a2).subset hx

theorem row_cnt {s : Nat} {a1 a2 : Pl} (x : Str) : (rowN s a1 a2).count x ≤ 1 := Nat.le_trans ((row_sub s a1 a2).count_le x) (List.nodup_iff_count.mp (names_nodup s) x)

theorem row_len {s : Nat} {a1 a2 : Pl} : (rowN s a1 a2).length ≤ 16 := (row_sub s a1 a2).length_le

theorem idx_S (s : Nat) {i j : Nat} (hi : i < 4) (hj : j < 4) : (namesN s).idxOf (S [s + i, s + j]) = 4 * i + j := by
  have h : ∀ i < 4, ∀ j < 4, prs[4 * i + j]? = some (i, j) := by decide +kernel
  have e : (namesN s)[4 * i + j]? = some (S [s + i, s + j]) := by rw [namesN_eq, List.getElem?_map, h i hi j hj]; rfl
  obtain ⟨hk, e⟩ := List.getElem?_eq_some_iff.mp e
  rw [← e]
  exact (names_nodup s).idxOf_getElem _ hk
noncomputable def bint (b : Bool) (x : Int) : Int := if b then x else 0
/-- what the figures weigh that a place lets in -/
noncomputable def heW (h : Nat → Bool) (p : Int) : Int := bint (h 0) 1 + bint (h 1) p + bint (h 2) (p ^ 2) + bint (h 3) (p ^ 3)
theorem wei_flat {ns : List Str} {p : Int} {f : Nat → List Str} : ∀ l : List Nat, wei ns p (l.flatMap f) = (l.map fun x => wei ns p (f x)).sum
  | [] => rfl
  | x :: l => by rw [List.flatMap_cons, wei_app, wei_flat l, List.map_cons, List.sum_cons]
theorem fil_sum {h : Nat → Bool} {u : Nat → Int} (s : Nat) : (((figN s).filter h).map u).sum = bint (h (s + 0)) (u (s + 0)) + bint (h (s + 1)) (u (s + 1)) + bint (h (s + 2)) (u (s + 2)) + bint (h (s + 3)) (u (s + 3)) := by
  have hc : ∀ (x : Nat) (l : List Nat), ((((x :: l).filter h)).map u).sum = bint (h x) (u x) + ((l.filter h).map u).sum := by
    intro x l
    rw [List.filter_cons]
    cases h x <;> simp [bint]
  unfold figN
  rw [hc, hc, hc, hc]
  simp only [List.filter_nil, List.map_nil, List.sum_nil, Nat.add_zero]
  omega
theorem wei_row {s : Nat} {p : Int} {h : Nat → Bool} {i : Nat} (hi : i < 4) : wei (namesN s) p (((figN s).filter h).map fun g => S [s + i, g]) = p ^ (4 * i) * heW (fun j => h (s + j)) p := by
  have e : ∀ l : List Nat, wei (namesN s) p (l.map fun g => S [s + i, g]) = (l.map fun g => wt (namesN s) p (S [s + i, g])).sum := by
    intro l
    induction l with
    | nil => rfl
    | cons x l ih => rw [List.map_cons, wei, ih, List.map_cons, List.sum_cons]
  have hw : ∀ j, j < 4 → wt (namesN s) p (S [s + i, s + j]) = p ^ (4 * i) * p ^ j := fun j hj => by rw [wt, idx_S s hi hj, Int.pow_add]
  have hm : ∀ (b : Bool) (x y : Int), bint b (x * y) = x * bint b y := fun b x y => by cases b <;> simp [bint]
  rw [e, fil_sum, hw 0 (by decide), hw 1 (by decide), hw 2 (by decide), hw 3 (by decide), hm, hm, hm, hm, heW, ← Int.mul_add, ← Int.mul_add, ← Int.mul_add]
  simp only [Nat.add_zero, Int.pow_zero, Int.pow_succ, Int.one_mul]
theorem row_wei (s : Nat) (p : Int) (a1 a2 : Pl) : wei (namesN s) p (rowN s a1 a2) = heW (fun i => heldP a1 (s + i)) (p ^ 4) * heW (fun j => heldP a2 (s + j)) p := by
  rw [rowN_eq, wei_flat, fil_sum, wei_row (i := 0) (by decide), wei_row (i := 1) (by decide), wei_row (i := 2) (by decide), wei_row (i := 3) (by decide)]
  have hm : ∀ (b : Bool) (x y : Int), bint b (x * y) = bint b x * y := fun b x y => by cases b <;> simp [bint]
  have e2 : p ^ (4 * 2) = (p ^ 4) ^ 2 := Int.pow_mul ..
  have e3 : p ^ (4 * 3) = (p ^ 4) ^ 3 := Int.pow_mul ..
  rw [hm, hm, hm, hm, ← Int.add_mul, ← Int.add_mul, ← Int.add_mul, e2, e3]
  simp only [heW, Nat.mul_zero, Int.pow_zero, Nat.mul_one]
theorem cstep (b b' : Bool) (c x : Int) : c + (if b && !b' then x else 0) - (if b' && !b then x else 0) = c + (bint b x - bint b' x) := by
  cases b <;> cases b' <;> simp [bint, Int.sub_eq_add_neg]
theorem bint_p (b : Bool) (p x y : Int) (h : x * p = y) : p * bint b x = bint b y := by
  cases b
  · exact Int.mul_zero p
  · show p * x = y
    rw [Int.mul_comm]; exact h
theorem corn_heW {ns : List Int} {p : Int} (h0 : inn ns (-1) = false) (h4 : inn ns 4 = false) : cornW ns p 5 = (p - 1) * heW (fun i => inn ns i) p := by
  have st : ∀ (i : Nat) (b b' : Bool), inn ns ((i : Int) - 1) = b → inn ns i = b' → cornW ns p (i + 1) = cornW ns p i + (bint b (p ^ i) - bint b' (p ^ i)) := fun i b b' e e' => by
    rw [cornW, e, e']; exact cstep _ _ _ _
  have z : ∀ x, bint false x = 0 := fun _ => rfl
  rw [st 4 (inn ns ((3 : Nat) : Int)) false rfl h4, st 3 (inn ns ((2 : Nat) : Int)) (inn ns ((3 : Nat) : Int)) rfl rfl, st 2 (inn ns ((1 : Nat) : Int)) (inn ns ((2 : Nat) : Int)) rfl rfl, st 1 (inn ns ((0 : Nat) : Int)) (inn ns ((1 : Nat) : Int)) rfl rfl, st 0 false (inn ns ((0 : Nat) : Int)) h0 rfl, cornW, heW, Int.sub_mul, Int.one_mul, Int.mul_add, Int.mul_add, Int.mul_add, z, z,
    bint_p _ p 1 (p ^ 1) (by rw [Int.one_mul, Int.pow_one]), bint_p _ p p (p ^ 2) (by rw [Int.pow_succ, Int.pow_one]), bint_p _ p (p ^ 2) (p ^ 3) (Int.pow_succ ..).symm, bint_p _ p (p ^ 3) (p ^ 4) (Int.pow_succ ..).symm, Int.pow_zero, Int.pow_one]
  omega
theorem held_any {k : Int} {q : Nat → Bool} : (((List.range' 0 4).filter q).map fun i => ((i : Nat) : Int)).any (fun x => x == k) = (decide (0 ≤ k) && decide (k < 4) && q k.toNat) := by
  rw [List.any_map, List.any_filter, Bool.eq_iff_iff, List.any_eq_true]
  constructor
  · rintro ⟨j, hm, hj⟩
    simp only [Function.comp, Bool.and_eq_true, beq_iff_eq] at hj
    have hm := List.mem_range'_1.mp hm
    have e : k.toNat = j := by omega
    rw [e, hj.1, decide_eq_true (by omega), decide_eq_true (by omega)]; rfl
  · intro hb
    simp only [Bool.and_eq_true, decide_eq_true_eq] at hb
    exact ⟨k.toNat, List.mem_range'_1.mpr (by omega), by simp only [Function.comp, hb.2, Bool.true_and, beq_iff_eq]; omega⟩
theorem c_lo (c : Int) : 0 ≤ cLo c ∧ cLo c < 4 := by unfold cLo; rw [fmod_em (by decide)]; omega

theorem c_hi (c : Int) : 0 ≤ cHi c ∧ cHi c < 4 := by unfold cHi; rw [fmod_em (by decide)]; omega

theorem held_out (c : Int) {k : Int} (h : k < 0 ∨ 4 ≤ k) : inn (heldOf c) k = false := by
  have hl := c_lo c
  have e : (decide (0 ≤ k) && decide (k < 4)) = false := by rw [Bool.and_eq_false_iff, decide_eq_false_iff_not, decide_eq_false_iff_not]; omega
  unfold inn heldOf
  split
  · have h1 : (cLo c == k) = false := by rw [beq_eq_false_iff_ne]; omega
    simp [h1]
  · split
    · have h1 : ((0 : Int) == k) = false := by rw [beq_eq_false_iff_ne]; omega
      have h2 : ((1 : Int) == k) = false := by rw [beq_eq_false_iff_ne]; omega
      have h3 : ((2 : Int) == k) = false := by rw [beq_eq_false_iff_ne]; omega
      have h4 : ((3 : Int) == k) = false := by rw [beq_eq_false_iff_ne]; omega
      simp only [List.any_cons, List.any_nil, h1, h2, h3, h4]; rfl
    · split
      · unfold heldL; rw [held_any, e]; rfl
      · unfold heldN; rw [held_any, e]; rfl
theorem held_in (c : Int) (s : Nat) {i : Nat} (hi : i < 4) : heldP (plOf c s) (s + i) = inn (heldOf c) i := by
  have hl := c_lo c
  have hh := c_hi c
  have e : (decide (0 ≤ (i : Int)) && decide ((i : Int) < 4)) = true := by rw [decide_eq_true (by omega), decide_eq_true (by omega)]; rfl
  have eb : (decide (((s : Int) + cLo c).toNat ≤ s + i) && decide (s + i ≤ ((s : Int) + cHi c).toNat)) = heldB (cLo c) (cHi c) i := by
    unfold heldB
    congr 1 <;> (apply decide_eq_decide.mpr; omega)
  unfold plOf heldOf inn
  by_cases h0 : cKi c = 0
  · rw [if_pos h0, if_pos h0]
    show (s + i == ((s : Int) + cLo c).toNat) = ((cLo c == (i : Int)) || false)
    rw [Bool.or_false, Bool.eq_iff_iff]; simp only [beq_iff_eq]; omega
  · rw [if_neg h0, if_neg h0]
    by_cases h1 : cKi c = 1
    · rw [if_pos h1, if_pos h1]
      show true = _
      match i, hi with
      | 0, _ | 1, _ | 2, _ | 3, _ => rfl
    · rw [if_neg h1, if_neg h1]
      show (decide (cKi c ≠ 2) != (decide (((s : Int) + cLo c).toNat ≤ s + i) && decide (s + i ≤ ((s : Int) + cHi c).toNat))) = _
      rw [eb]
      by_cases h2 : cKi c = 2
      · rw [if_pos h2]
        unfold heldL
        rw [held_any, e, Int.toNat_natCast, h2]; simp
      · rw [if_neg h2]
        unfold heldN
        rw [held_any, e, Int.toNat_natCast, decide_eq_true h2]; simp
theorem corn_pl (c : Int) (s : Nat) (p : Int) : cornW (heldOf c) p 5 = (p - 1) * heW (fun i => heldP (plOf c s) (s + i)) p := by
  rw [corn_heW (held_out c (.inl (by decide))) (held_out c (.inr (by decide)))]
  unfold heW
  (try dsimp only)
  rw [held_in c s (by decide), held_in c s (by decide), held_in c s (by decide), held_in c s (by decide)]
noncomputable def divi (p : Int) : Int := (p - 1) * (p ^ 4 - 1)
/-- a row's product of corners is its names' weight, division's divisor times -/
theorem row_corn (c d : Int) (s : Nat) (p : Int) : cornW (heldOf c) (p ^ 4) 5 * cornW (heldOf d) p 5 = divi p * wei (namesN s) p (rowN s (plOf c s) (plOf d s)) := by
  rw [row_wei, corn_pl c s, corn_pl d s, divi]
  grind
theorem plOf_ok (c : Int) {s : Nat} (hs : 97 ≤ s) : (plOf c s).ok := by
  have hl := c_lo c
  have hh := c_hi c
  unfold plOf
  split
  · show 97 ≤ _; omega
  · split
    · trivial
    · exact ⟨by omega, by omega⟩
end Mine
end

section
open PySem PySem.W PyProof.Rows PyProof.Rows.LCg PyProof.Rows.LCt
set_option maxRecDepth 100000
set_option maxHeartbeats 8000000
namespace Mine
noncomputable abbrev twb (elt t1 it1 t2 it2 : PySem.Expr) (scope : Scope) (pos : Pos) : PySem.Expr := two elt t1 it1 t2 it2 [] scope pos
inductive InB (s : Shared) (h₀ : Heap) (L : Addr) (I : Addr) (I2 : Addr) (D : Addr) (C : Addr) (bx : Addr) (m : Str → Option Value) (oI : Obj) (fs : List Value) (V : Value → Value → Prop) (G : List Value → Prop) (news : List (Addr × Obj)) (x1 : Str) (nv : Value) (n : Nat) (s' : Shared) : Prop
  | mk (j : Nat) (h : Heap) (tk : Nat) (ys : List Value) (oI2 : Obj) (oC : Obj) (mm : Str → Option Value) (zz0 : s' = { s with heap := h, toks := tk }) (zz1 : j ≤ fs.length) (zz2 : n = fs.length + 1 - j) (zz3 : NsObj oC mm) (zz4 : mm x1 = some nv) (zz5 : (oI2.cls = .type "list_iterator" ∧ oI2.data = .fields #[.ref bx, .int (j : Nat) 0])) (zz6 : Fr h₀ L h m) (zz7 : News h₀ L h ((I2, oI2) :: (I, oI) :: (D, lst ys) :: (C, oC) :: news)) (zz8 : ys.length + (fs.length - j) ≤ sizeLine) (zz9 : ∀ zs, VIn (fun _ => true) V (fs.drop j) zs → G (ys ++ zs)) : InB s h₀ L I I2 D C bx m oI fs V G news x1 nv n s'
section
variable {prog : Program} {w : World} {A : Around} {E : Value → Shared → Prop} {R : Result → Shared → Prop} {s : Shared} {elt t1 it1 it2 : PySem.Expr} {scope : Scope} {pos px2 : Pos} {cenv : Env} {x1 x2 : Str}
  {h₀ : Heap} {L I I2 D C ax bx : Addr} {m : Str → Option Value} {news : List (Addr × Obj)} {fs : List Value} {ky : Nat} {nv : Value} {V : Value → Value → Prop} {oI : Obj} {G : List Value → Prop}
theorem innerB (hLC : cenv.locals = C) (hx2 : cenv.kindOf x2 = some .local) (hk : cenv.scope.kind = .function) (hxx : x1 ≠ x2) (hm : (bx, listOf fs.toArray ky) ∈ news) (hh : A.handled = none)
    (d1 : I < D) (d2 : D < C) (d4 : C < I2) (hn : ∀ p ∈ news, p.1 < I)
    (elts : ∀ v oI2 oC mm ys h tk (E' : Value → Shared → Prop) (Q' : Value → Shared → Prop), v ∈ fs → NsObj oC mm → mm x1 = some nv → mm x2 = some v → Fr h₀ L h m → News h₀ L h ((I2, oI2) :: (I, oI) :: (D, lst ys) :: (C, oC) :: news) →
      (∀ z h' tk', V v z → Fr h₀ L h' m → News h₀ L h' ((I2, oI2) :: (I, oI) :: (D, lst ys) :: (C, oC) :: news) → Q' z { s with heap := h', toks := tk' }) → wpAny (model prog w) A (eval elt cenv) Q' E' { s with heap := h, toks := tk })
    (hR : ∀ h tk ys oC mm, NsObj oC mm → Fr h₀ L h m → News h₀ L h ((I, oI) :: (D, lst ys) :: (C, oC) :: news) → G ys → R (.ok .next) { s with heap := h, toks := tk })
    {h : Heap} {tk : Nat} {ys : List Value} {oI2 oC : Obj} {mm : Str → Option Value} (hC : NsObj oC mm) (h1 : mm x1 = some nv) (hit : oI2.cls = .type "list_iterator" ∧ oI2.data = .fields #[.ref bx, .int (0 : Nat) 0]) (F : Fr h₀ L h m)
    (N : News h₀ L h ((I2, oI2) :: (I, oI) :: (D, lst ys) :: (C, oC) :: news)) (hz : ys.length + fs.length ≤ sizeLine) (hG : ∀ zs, VIn (fun _ => true) V fs zs → G (ys ++ zs)) :
    codeAny (model prog w) A (.compLoop (twb elt t1 it1 (.Name x2 px2) it2 scope pos) 1 (.ref I2) (.ref D) cenv) R { s with heap := h, toks := tk } := by
  subst hLC
  have nI : ∀ p ∈ news, p.1 ≠ I := fun p hp => Nat.ne_of_lt (hn p hp)
  have nD : ∀ p ∈ news, p.1 ≠ D := fun p hp => Nat.ne_of_lt (Nat.lt_trans (hn p hp) d1)
  have nC : ∀ p ∈ news, p.1 ≠ cenv.locals := fun p hp => Nat.ne_of_lt (Nat.lt_trans (hn p hp) (Nat.lt_trans d1 d2))
  have a3 : (D : Nat) < I2 := Nat.lt_trans d2 d4
  have a2 : (I : Nat) < I2 := Nat.lt_trans d1 a3
  have b2 : (I : Nat) < cenv.locals := Nat.lt_trans d1 d2
  have n2 : ∀ p ∈ news, p.1 ≠ I2 := fun p hp => Nat.ne_of_lt (Nat.lt_trans (hn p hp) a2)
  have post2 : ∀ {oI oD oC : Obj}, ∀ p ∈ (I, oI) :: (D, oD) :: (cenv.locals, oC) :: news, p.1 ≠ I2 := by
    intro oI oD oC p hp
    rcases List.mem_cons.mp hp with rfl | hp
    · exact Nat.ne_of_lt a2
    · rcases List.mem_cons.mp hp with rfl | hp
      · exact Nat.ne_of_lt a3
      · rcases List.mem_cons.mp hp with rfl | hp
        · exact Nat.ne_of_lt d4
        · exact n2 p hp
  have preC : ∀ {o2 oI oD : Obj}, ∀ p ∈ [(I2, o2), (I, oI), (D, oD)], p.1 ≠ cenv.locals := by
    intro o2 oI oD p hp
    simp only [List.mem_cons, List.not_mem_nil, or_false] at hp
    rcases hp with rfl | rfl | rfl
    · exact Nat.ne_of_gt d4
    · exact Nat.ne_of_lt b2
    · exact Nat.ne_of_lt d2
  have preD : ∀ {o2 oI : Obj}, ∀ p ∈ [(I2, o2), (I, oI)], p.1 ≠ D := by
    intro o2 oI p hp
    simp only [List.mem_cons, List.not_mem_nil, or_false] at hp
    rcases hp with rfl | rfl
    · exact Nat.ne_of_gt a3
    · exact Nat.ne_of_lt d1
  have postD : ∀ {oC : Obj}, ∀ p ∈ (cenv.locals, oC) :: news, p.1 ≠ D := by
    intro oC p hp
    rcases List.mem_cons.mp hp with rfl | hp
    · exact Nat.ne_of_gt d2
    · exact nD p hp
  refine loop1 (cts := []) (InB s h₀ L I I2 D (cenv.locals) bx m oI fs V G news x1 nv) ?_ (fs.length + 1)
    ⟨0, h, tk, ys, oI2, oC, mm, rfl, Nat.zero_le _, rfl, hC, h1, hit, F, N, hz, hG⟩
  clear hG hz N F hit hC h1
  rintro n s' ⟨j, h, tk, ys, oI2, oC, mm, rfl, hj, rfl, hC, h1, hit, F, N, hz, hG⟩
  have hl := News.isList N (.tail _ (.tail _ (.tail _ (.tail _ hm))))
  have hI2 := N _ (.head _)
  cases hv : fs[j]? with
  | none =>
    refine wpAny_pyNext_list_end hh ⟨oI2, hI2.1, hit⟩ hl (by simpa using hv) fun h₁ he₁ => ?_
    have hjl : fs.length ≤ j := by simpa using hv
    refine hR h₁ _ ys oC mm hC (fr_ext F he₁ hI2.2.1 hI2.2.2) (fun p hp => ?_) ?_
    · have := N p (.tail _ hp)
      exact ⟨he₁ _ _ (post2 p hp) this.1, this.2⟩
    · have := hG [] (by rw [List.drop_of_length_le hjl]; rfl)
      rwa [List.append_nil] at this
  | some v =>
    have hlt : j < fs.length := (List.getElem?_eq_some_iff.mp hv).1
    have hdr : fs.drop j = v :: fs.drop (j + 1) := by
      obtain ⟨h1, rfl⟩ := List.getElem?_eq_some_iff.mp hv
      exact List.drop_eq_getElem_cons h1
    have hvm : v ∈ fs := List.mem_of_getElem? hv
    refine wpAny_pyNext_list_item ⟨oI2, hI2.1, hit⟩ hl (by simpa using hv) fun h₁ hit₁ hs₁ => ?_
    obtain ⟨oI2', e1, hit1⟩ := hit₁
    have N1 := news_set (pre := []) N hs₁.extBut e1 (fun _ h => nomatch h) post2
    have F1 := fr_ext F hs₁.extBut hI2.2.1 hI2.2.2
    have hC1 := N1 (cenv.locals, oC) (.tail _ (.tail _ (.tail _ (.head _))))
    refine wpAny_assign_Name (wpAny_storeName_local hx2 (hC.ns hC1.1) (fun h₂ hn₂ hs₂ => ?_) (by rw [hk]; rfl))
    obtain ⟨oC', eC, hC'⟩ := ns_obj hn₂
    have N2 := news_set (pre := [(I2, oI2'), (I, oI), (D, lst ys)]) N1 hs₂.extBut eC preC nC
    have F2 := fr_ext F1 hs₂.extBut hC1.2.1 hC1.2.2
    refine wpAny_tests_nil ?_
    rw [if_pos rfl]
    refine elts v oI2' oC' _ ys h₂ _ _ _ hvm hC' (by rw [if_neg hxx]; exact h1) (by simp) F2 N2 fun z h₄ tk₄ hV F4 N4 => ?_
    have hD4 := N4 (D, lst ys) (.tail _ (.tail _ (.head _)))
    refine append_at hD4.1 (fun h₅ hs₅ hD₅ => ?_) (by rw [List.size_toArray]; omega)
    rw [lst_snoc] at hD₅
    refine ⟨fs.length + 1 - (j + 1), by omega, j + 1, h₅, tk₄, ys ++ [z], oI2', oC', _, rfl, hlt, rfl, hC', by rw [if_neg hxx]; exact h1, hit1, fr_ext F4 hs₅.extBut hD4.2.1 hD4.2.2, news_set (pre := [(I2, oI2'), (I, oI)]) N4 hs₅.extBut hD₅ preD postD, ?_, fun zs hzs => ?_⟩
    · rw [List.length_append, List.length_singleton]; omega
    · rw [List.append_assoc]
      refine hG _ ?_
      rw [hdr]; unfold VIn; rw [if_pos rfl]; exact ⟨z, zs, rfl, hV, hzs⟩
end
inductive OutB (s : Shared) (h₀ : Heap) (L : Addr) (I : Addr) (D : Addr) (C : Addr) (ax : Addr) (m : Str → Option Value) (fs : List Value) (ns : List Value) (V : Value → Value → Value → Prop) (G : List Value → Prop) (news : List (Addr × Obj)) (n : Nat) (s' : Shared) : Prop
  | mk (j : Nat) (h : Heap) (tk : Nat) (ys : List Value) (oI : Obj) (oC : Obj) (mm : Str → Option Value) (zz0 : s' = { s with heap := h, toks := tk }) (zz1 : j ≤ ns.length) (zz2 : n = ns.length + 1 - j) (zz3 : NsObj oC mm) (zz4 : (oI.cls = .type "list_iterator" ∧ oI.data = .fields #[.ref ax, .int (j : Nat) 0])) (zz5 : Fr h₀ L h m) (zz6 : News h₀ L h ((I, oI) :: (D, lst ys) :: (C, oC) :: news)) (zz7 : ys.length ≤ j * fs.length) (zz8 : ∀ zs, VOut (fun _ => true) V fs (ns.drop j) zs → G (ys ++ zs)) : OutB s h₀ L I D C ax m fs ns V G news n s'
section
variable {prog : Program} {w : World} {A : Around} {E : Value → Shared → Prop} {R : Result → Shared → Prop} {s : Shared} {elt it1 it2 : PySem.Expr} {scope : Scope} {pos px1 px2 : Pos} {cenv : Env} {x1 x2 : Str}
  {h₀ : Heap} {L I D C ax bx : Addr} {m : Str → Option Value} {news : List (Addr × Obj)} {ns fs : List Value} {kx ky : Nat} {V : Value → Value → Value → Prop} {G : List Value → Prop}
theorem outerB (hLC : cenv.locals = C) (hx1 : cenv.kindOf x1 = some .local) (hx2 : cenv.kindOf x2 = some .local) (hxx : x1 ≠ x2) (hk : cenv.scope.kind = .function) (hma : (ax, listOf ns.toArray kx) ∈ news) (hm : (bx, listOf fs.toArray ky) ∈ news) (hh : A.handled = none)
    (d1 : I < D) (d2 : D < C) (hn : ∀ p ∈ news, p.1 < I) (hzf : fs.length ≤ 1000) (hzn : ns.length ≤ 1000) (hs2 : ∀ x, foldedSetIterable it2 cenv x = pure x)
    (src : ∀ oI oC ys h tk (E' : Value → Shared → Prop) (Q' : Value → Shared → Prop), Fr h₀ L h m → News h₀ L h ((I, oI) :: (D, lst ys) :: (C, oC) :: news) → Q' (.ref bx) { s with heap := h, toks := tk } → wpAny (model prog w) A (eval it2 cenv) Q' E' { s with heap := h, toks := tk })
    (elts : ∀ nv v mm I2 oI2 oI oC ys h tk (E' : Value → Shared → Prop) (Q' : Value → Shared → Prop), nv ∈ ns → v ∈ fs → NsObj oC mm → mm x1 = some nv → mm x2 = some v → Fr h₀ L h m → News h₀ L h ((I2, oI2) :: (I, oI) :: (D, lst ys) :: (C, oC) :: news) → C < I2 →
      (∀ z h' tk', V nv v z → Fr h₀ L h' m → News h₀ L h' ((I2, oI2) :: (I, oI) :: (D, lst ys) :: (C, oC) :: news) → Q' z { s with heap := h', toks := tk' }) → wpAny (model prog w) A (eval elt cenv) Q' E' { s with heap := h, toks := tk })
    (hR : ∀ h tk ys oC mm, NsObj oC mm → Fr h₀ L h m → News h₀ L h ((D, lst ys) :: (C, oC) :: news) → G ys → R (.ok .next) { s with heap := h, toks := tk })
    {h : Heap} {tk : Nat} {oI oC : Obj} {mm : Str → Option Value} (hC : NsObj oC mm) (hit : oI.cls = .type "list_iterator" ∧ oI.data = .fields #[.ref ax, .int (0 : Nat) 0]) (F : Fr h₀ L h m)
    (N : News h₀ L h ((I, oI) :: (D, lst []) :: (C, oC) :: news)) (hG : ∀ zs, VOut (fun _ => true) V fs ns zs → G zs) :
    codeAny (model prog w) A (.compLoop (twb elt (.Name x1 px1) it1 (.Name x2 px2) it2 scope pos) 0 (.ref I) (.ref D) cenv) R { s with heap := h, toks := tk } := by
  subst hLC
  have nI : ∀ p ∈ news, p.1 ≠ I := fun p hp => Nat.ne_of_lt (hn p hp)
  have nC : ∀ p ∈ news, p.1 ≠ cenv.locals := fun p hp => Nat.ne_of_lt (Nat.lt_trans (hn p hp) (Nat.lt_trans d1 d2))
  have a3 : (I : Nat) < cenv.locals := Nat.lt_trans d1 d2
  have postI : ∀ {oD oC : Obj}, ∀ p ∈ (D, oD) :: (cenv.locals, oC) :: news, p.1 ≠ I := by
    intro oD oC p hp
    rcases List.mem_cons.mp hp with rfl | hp
    · exact Nat.ne_of_gt d1
    · rcases List.mem_cons.mp hp with rfl | hp
      · exact Nat.ne_of_gt a3
      · exact nI p hp
  have preC : ∀ {oI oD : Obj}, ∀ p ∈ [(I, oI), (D, oD)], p.1 ≠ cenv.locals := by
    intro oI oD p hp
    simp only [List.mem_cons, List.not_mem_nil, or_false] at hp
    rcases hp with rfl | rfl
    · exact Nat.ne_of_lt a3
    · exact Nat.ne_of_lt d2
  refine loop0 (cts := []) (OutB s h₀ L I D (cenv.locals) ax m fs ns V G news) ?_ (ns.length + 1)
    ⟨0, h, tk, [], oI, oC, mm, rfl, Nat.zero_le _, rfl, hC, hit, F, N, Nat.zero_le _, hG⟩ (fun _ => rfl) hs2
  clear hG N F hit hC
  rintro n s' ⟨j, h, tk, ys, oI, oC, mm, rfl, hj, rfl, hC, hit, F, N, hz, hG⟩
  have hl := News.isList N (.tail _ (.tail _ (.tail _ hma)))
  have hI := N _ (.head _)
  cases hv : ns[j]? with
  | none =>
    refine wpAny_pyNext_list_end hh ⟨oI, hI.1, hit⟩ hl (by simpa using hv) fun h₁ he₁ => ?_
    have hjl : ns.length ≤ j := by simpa using hv
    refine hR h₁ _ ys oC mm hC (fr_ext F he₁ hI.2.1 hI.2.2) (fun p hp => ?_) ?_
    · have := N p (.tail _ hp)
      exact ⟨he₁ _ _ (postI p hp) this.1, this.2⟩
    · have := hG [] (by rw [List.drop_of_length_le hjl]; rfl)
      rwa [List.append_nil] at this
  | some v =>
    have hlt : j < ns.length := (List.getElem?_eq_some_iff.mp hv).1
    have hdr : ns.drop j = v :: ns.drop (j + 1) := by
      obtain ⟨h1, rfl⟩ := List.getElem?_eq_some_iff.mp hv
      exact List.drop_eq_getElem_cons h1
    have hvm : v ∈ ns := List.mem_of_getElem? hv
    refine wpAny_pyNext_list_item ⟨oI, hI.1, hit⟩ hl (by simpa using hv) fun h₁ hit₁ hs₁ => ?_
    obtain ⟨oI', e1, hit1⟩ := hit₁
    have N1 := news_set (pre := []) N hs₁.extBut e1 (fun _ h => nomatch h) postI
    have F1 := fr_ext F hs₁.extBut hI.2.1 hI.2.2
    have hC1 := N1 (cenv.locals, oC) (.tail _ (.tail _ (.head _)))
    refine wpAny_assign_Name (wpAny_storeName_local hx1 (hC.ns hC1.1) (fun h₂ hn₂ hs₂ => ?_) (by rw [hk]; rfl))
    obtain ⟨oC', eC, hC'⟩ := ns_obj hn₂
    have N2 := news_set (pre := [(I, oI'), (D, lst ys)]) N1 hs₂.extBut eC preC nC
    have F2 := fr_ext F1 hs₂.extBut hC1.2.1 hC1.2.2
    refine src oI' oC' ys h₂ _ _ _ F2 N2 ?_
    refine wpAny_pyIter_list (News.isList N2 (.tail _ (.tail _ (.tail _ hm)))) ?_
    have N3 := News.push F2 N2 { cls := .type "list_iterator", data := .fields #[.ref bx, .int 0 0] }
    have F3 := Fr.push F2 { cls := .type "list_iterator", data := .fields #[.ref bx, .int 0 0] }
    have d4 : (cenv.locals : Nat) < h₂.objs.size := Heap.lt_size (N2 (cenv.locals, oC') (.tail _ (.tail _ (.head _)))).1
    have hzz : j * fs.length ≤ 1000 * 1000 := Nat.mul_le_mul (Nat.le_trans hj hzn) hzf
    have main : codeAny (model prog w) A (.compLoop (twb elt (.Name x1 px1) it1 (.Name x2 px2) it2 scope pos) 1 (.ref h₂.objs.size) (.ref D) cenv) (fun r s₅ => match r with
            | .ok _ => ∃ n', n' < ns.length + 1 - j ∧ OutB s h₀ L I D cenv.locals ax m fs ns V G news n' s₅
            | .error e => cameBackBy (model prog w) A cenv (notedBy (model prog w) A cenv fun e s' => R (.error e) s') e s₅) { s with heap := h₂.push { cls := .type "list_iterator", data := .fields #[.ref bx, .int 0 0] }, toks := tk + 1 } := by
      refine innerB (G := fun ys' => ys'.length ≤ (j + 1) * fs.length ∧ ∀ zs, VOut (fun _ => true) V fs (ns.drop (j + 1)) zs → G (ys' ++ zs)) (V := V v) (x1 := x1) (nv := v) rfl hx2 hk hxx hm hh d1 d2 d4 hn
        (fun u oI2 oC mm ys h tk E' Q' hu hC h1 h2 F N hq => elts v u mm _ oI2 oI' oC ys h tk E' Q' hvm hu hC h1 h2 F N d4 hq)
        (fun h tk ys oC mm hC F N hg => ⟨ns.length + 1 - (j + 1), by omega, j + 1, h, tk, ys, oI', oC, mm, rfl, hlt, rfl, hC, hit1, F, N, hg.1, hg.2⟩) (ys := ys) hC' (by simp) ⟨rfl, rfl⟩ F3 N3 (by unfold sizeLine; omega) fun zs hzs => ⟨?_, fun z2 hz2 => ?_⟩
      · have := hzs.length
        rw [List.length_append, Nat.add_mul, Nat.one_mul]; omega
      · rw [List.append_assoc]
        refine hG _ ?_
        rw [hdr]; exact ⟨zs, z2, rfl, hzs, hz2⟩
    exact start1 (cts := []) main (wpAny_pyIter_listiter (i := 0) ⟨_, Heap.get?_push_size _ rfl, rfl, rfl⟩ main)
/-- a list comprehension with two clauses and no test -/
theorem comp2B {env : Env} {cl : List (Str × Addr)} {Q : Value → Shared → Prop} (F₀ : Fr h₀ L s.heap m) (N₀ : News h₀ L s.heap news)
    (hclos : closureFor scope env = pure cl) (hkind : scope.kind = .function) (hcell : ∀ y ∈ scope.names, y.2 ≠ .cell)
    (hnames : ∀ z ∈ scope.names, z.2 = .local → scope.names.lookup z.1 = some .local) (hxx : x1 ≠ x2)
    (k1 : ∀ C, (compEnvC scope cl C env).kindOf x1 = some .local) (k2 : ∀ C, (compEnvC scope cl C env).kindOf x2 = some .local)
    (hma : (ax, listOf ns.toArray kx) ∈ news) (hm : (bx, listOf fs.toArray ky) ∈ news) (hh : A.handled = none) (hzf : fs.length ≤ 1000) (hzn : ns.length ≤ 1000)
    (hs1 : ∀ x, foldedSetIterable it1 env x = pure x) (hs2 : ∀ C x, foldedSetIterable it2 (compEnvC scope cl C env) x = pure x)
    (src1 : ∀ Q' : Value → Shared → Prop, Q' (.ref ax) s → wpAny (model prog w) A (eval it1 env) Q' E s)
    (src : ∀ I D C oI oC ys h tk (E' : Value → Shared → Prop) (Q' : Value → Shared → Prop), Fr h₀ L h m → News h₀ L h ((I, oI) :: (D, lst ys) :: (C, oC) :: news) → Q' (.ref bx) { s with heap := h, toks := tk } → wpAny (model prog w) A (eval it2 (compEnvC scope cl C env)) Q' E' { s with heap := h, toks := tk })
    (elts : ∀ nv v mm I2 I D C oI2 oI oC ys h tk (E' : Value → Shared → Prop) (Q' : Value → Shared → Prop), nv ∈ ns → v ∈ fs → NsObj oC mm → mm x1 = some nv → mm x2 = some v → Fr h₀ L h m → News h₀ L h ((I2, oI2) :: (I, oI) :: (D, lst ys) :: (C, oC) :: news) →
      (∀ z h' tk', V nv v z → Fr h₀ L h' m → News h₀ L h' ((I2, oI2) :: (I, oI) :: (D, lst ys) :: (C, oC) :: news) → Q' z { s with heap := h', toks := tk' }) → wpAny (model prog w) A (eval elt (compEnvC scope cl C env)) Q' E' { s with heap := h, toks := tk })
    (hQ : ∀ D h tk ys, Fr h₀ L h m → News h₀ L h ((D, lst ys) :: news) → (∀ p ∈ news, p.1 < D) → VOut (fun _ => true) V fs ns ys → Q (.ref D) { s with heap := h, toks := tk }) :
    wpAny (model prog w) A (eval (twb elt (.Name x1 px1) it1 (.Name x2 px2) it2 scope pos) env) Q E s := by
  rw [eval_ListComp]
  refine wpAny_comprehension_free (use := none) rfl hs1 hclos hkind hnames (src1 _ ?_)
  refine wpAny_pyIter_list (News.isList N₀ hma) ?_
  have N1 := News.push F₀ N₀ { cls := .type "list_iterator", data := .fields #[.ref ax, .int 0 0] }
  have F1 := Fr.push F₀ { cls := .type "list_iterator", data := .fields #[.ref ax, .int 0 0] }
  have l1 : ∀ p ∈ news, p.1 < s.heap.objs.size := fun p hp => Heap.lt_size (N₀ p hp).1
  generalize hH1 : s.heap.push { cls := .type "list_iterator", data := .fields #[.ref ax, .int 0 0] } = H1 at N1 F1 ⊢
  have dI : (s.heap.objs.size : Nat) < H1.objs.size := by rw [← hH1, Heap.size_push]; exact Nat.lt_succ_self _
  generalize s.heap.objs.size = I at *
  refine wpAny_newObj_type ?_
  have N2 := News.push F1 N1 { cls := .type "list", data := .seq ([] : List Value).toArray }
  have F2 := Fr.push F1 { cls := .type "list", data := .seq ([] : List Value).toArray }
  dsimp only at N2 F2 ⊢
  generalize hH2 : H1.push { cls := .type "list", data := .seq ([] : List Value).toArray } = H2 at N2 F2 ⊢
  have dD : (H1.objs.size : Nat) < H2.objs.size := by rw [← hH2, Heap.size_push]; exact Nat.lt_succ_self _
  generalize H1.objs.size = D at *
  refine wpAny_newFunctionEnv hcell (by intro y hy; simp at hy) (fun h₁ hns₁ hsb₁ => ?_) hkind
  dsimp only at hns₁ hsb₁ ⊢
  have old : ∀ b o, H2.get? b = some o → h₁.get? b = some o := fun b o e => hsb₁.extBut b o (Nat.ne_of_lt (Heap.lt_size e)) (Heap.get?_push_of_some _ e)
  have F3 : Fr h₀ L h₁ m := F2.keeps old
  have N3 := N2.grown old
  have cL : H2.objs.size ≠ L := Ne.symm (Nat.ne_of_lt F2.ns.lt)
  have c0 := next_is_new F2
  obtain ⟨oC, eC, hC⟩ := ns_obj hns₁
  generalize H2.objs.size = C at *
  have N4 : News h₀ L h₁ ((I, { cls := .type "list_iterator", data := .fields #[.ref ax, .int 0 0] }) :: (D, lst []) :: (C, oC) :: news) := fun q hq => by
    rcases List.mem_cons.mp hq with rfl | hq
    · exact N3 _ (.tail _ (.head _))
    · rcases List.mem_cons.mp hq with rfl | hq
      · exact N3 _ (.head _)
      · rcases List.mem_cons.mp hq with rfl | hq
        · exact ⟨eC, cL, c0⟩
        · exact N3 _ (.tail _ (.tail _ hq))
  have lD : ∀ p ∈ news, p.1 < D := fun p hp => Nat.lt_trans (l1 p hp) dI
  have main : ∀ tk, codeAny (model prog w) A (.compLoop (twb elt (.Name x1 px1) it1 (.Name x2 px2) it2 scope pos) 0 (.ref I) (.ref D) (compEnvC scope cl C env))
      (compPost (model prog w) A E none Q (.ref D) C) { s with heap := h₁, toks := tk } := by
    intro tk
    refine outerB (G := VOut (fun _ => true) V fs ns) (V := V) rfl (k1 C) (k2 C) hxx hkind hma hm hh dI dD l1 hzf hzn (hs2 C) (src I D C)
      (fun nv v mm I2 oI2 oI oC ys h tk E' Q' h1 h2 h3 h4 h5 h6 h7 _ h9 => elts nv v mm I2 I D C oI2 oI oC ys h tk E' Q' h1 h2 h3 h4 h5 h6 h7 h9)
      ?_ hC ⟨rfl, rfl⟩ F3 N4 (fun zs h => h)
    intro h tk ys oC mm hC F N hG
    have hCx := N (C, oC) (.tail _ (.head _))
    refine ⟨mm, hC.ns hCx.1, fun h'' hs'' => hQ D h'' _ ys (fr_ext F hs''.extBut hCx.2.1 hCx.2.2) (fun p hp => ?_) lD hG⟩
    have hp' : p ∈ (D, lst ys) :: (C, oC) :: news := by
      rcases List.mem_cons.mp hp with rfl | hp
      · exact .head _
      · exact .tail _ (.tail _ hp)
    refine ⟨hs''.extBut _ _ ?_ (N p hp').1, (N p hp').2⟩
    rcases List.mem_cons.mp hp with rfl | hp
    · exact Nat.ne_of_lt dD
    · exact Nat.ne_of_lt (Nat.lt_trans (lD p hp) dD)
  exact codeAny_compStart_list (main _) (wpAny_pyIter_listiter (i := 0) ⟨_, (N4 _ (.head _)).1, rfl, rfl⟩ (main _))
end
end Mine
end

section
open PySem PySem.W PyProof.Rows
set_option maxRecDepth 100000
set_option maxHeartbeats 8000000
namespace Mine
noncomputable def itS (x left c : Int) : Obj := { cls := .type "range_iterator", data := .fields #[rawInt x, rawInt left, rawInt c] }
/-- the state ahead of a range loop's turn -/
@[irreducible] noncomputable def RgEnd (h₀ : Heap) (L : Addr) (P : (Str → Option Value) → List (Addr × Obj) → Shared → Prop) (I : Addr) (x left c : Int) (s' : Shared) : Prop :=
  ∃ m nw, Fr h₀ L s'.heap m ∧ News h₀ L s'.heap ((I, itS x left c) :: nw) ∧ (∀ p ∈ nw, p.1 ≠ I) ∧ P m nw s'
theorem RgEnd.mk {h₀ : Heap} {L : Addr} {P : (Str → Option Value) → List (Addr × Obj) → Shared → Prop} {I : Addr} {x left c : Int} {s' : Shared} {m : Str → Option Value} {nw : List (Addr × Obj)} (F : Fr h₀ L s'.heap m) (N : News h₀ L s'.heap ((I, itS x left c) :: nw)) (o : ∀ p ∈ nw, p.1 ≠ I) (p : P m nw s') : RgEnd h₀ L P I x left c s' := by
  unfold RgEnd; exact ⟨m, nw, F, N, o, p⟩
section
variable {prog : Program} {w : World} {A : Around} {E : Value → Shared → Prop} {s : Shared} {env : Env} {h₀ : Heap} {L : Addr} {x : Str} {px : Pos} {body : List Stmt} {Q : Flow → Shared → Prop}
theorem For_rg {r : Addr} {a b c : Int} {t u v : Tok} {n : Nat} {m₀ : Str → Option Value} {news : List (Addr × Obj)} (P : Nat → (Str → Option Value) → List (Addr × Obj) → Shared → Prop)
    (hL : env.locals = L) (hx : env.kindOf x = some .local) (hp : (env.scope.kind == .class || (env.scope.kind == .module && env.locals != env.globals)) = false) (hh : A.handled = none)
    (hr : IsRange s.heap r a b c t u v) (hsmall : Builtin.Range.small a b c = true) (hn : Builtin.Range.rangeSize a b c = (n : Int)) (F : Fr h₀ L s.heap m₀) (N : News h₀ L s.heap news)
    (h0 : ∀ h', P 0 m₀ news { s with heap := h' })
    (hP : ∀ i m nw s' h' k, P i m nw s' → P i m nw { s' with heap := h', toks := k })
    (turn : ∀ I i m nw k s', i < n → P i m nw s' → Fr h₀ L s'.heap (fun y => if y = x then some (.int (a + (i : Int) * c) k) else m y) → News h₀ L s'.heap ((I, itS (a + ((i + 1 : Nat) : Int) * c) ((n : Int) - ((i + 1 : Nat) : Int)) c) :: nw) → (∀ p ∈ nw, p.1 ≠ I) →
      wpAny (model prog w) A (execs body env) (fun f s₂ => match f with
        | .ret v => Q (.ret v) s₂
        | .brk => Q .next s₂
        | _ => RgEnd h₀ L (P (i + 1)) I (a + ((i + 1 : Nat) : Int) * c) ((n : Int) - ((i + 1 : Nat) : Int)) c s₂) E s')
    (done : ∀ m nw s', P n m nw s' → Fr h₀ L s'.heap m → News h₀ L s'.heap nw → Q .next s')
    (hE : PassesOwn (model prog w) A env E := by passes_own) :
    wpAny (model prog w) A (pyIter (.ref r)) (fun it s₂ => codeAny (model prog w) A (.forLoop (.Name x px) it body [] env) (fun r s' => match r with | .ok f => Q f s' | .error e => cameBackBy (model prog w) A env E e s') s₂) E s := by
  subst hL
  refine wpAny_pyIter_range hr hsmall ?_
  have o0 : ∀ p ∈ news, p.1 ≠ s.heap.objs.size := fun p hp => Nat.ne_of_lt (Heap.lt_size (N p hp).1)
  have N0 := News.push F N { cls := .type "range_iterator", data := .fields #[rawInt a, rawInt (Builtin.Range.rangeSize a b c), rawInt c] }
  have F0 := Fr.push F { cls := .type "range_iterator", data := .fields #[rawInt a, rawInt (Builtin.Range.rangeSize a b c), rawInt c] }
  have h0' := h0 (s.heap.push { cls := .type "range_iterator", data := .fields #[rawInt a, rawInt (Builtin.Range.rangeSize a b c), rawInt c] })
  generalize s.heap.push { cls := .type "range_iterator", data := .fields #[rawInt a, rawInt (Builtin.Range.rangeSize a b c), rawInt c] } = H at N0 F0 h0' ⊢
  generalize s.heap.objs.size = I at N0 o0 ⊢
  rw [hn] at N0
  refine codeAny_forLoop (fun k s' => ∃ i, i ≤ n ∧ k = n + 1 - i ∧ RgEnd h₀ env.locals (P i) I (a + (i : Int) * c) ((n : Int) - (i : Int)) c s') ?_ (n + 1)
    ⟨0, Nat.zero_le _, rfl, RgEnd.mk F0 (by simpa [itS] using N0) o0 h0'⟩
  rintro k s' ⟨i, hi, rfl, hR⟩
  unfold RgEnd at hR
  obtain ⟨m, nw, F1, N1, o1, hP1⟩ := hR
  have hI := N1 _ (.head _)
  by_cases hlt : i < n
  · refine wpAny_pyNext_range_item hI.1 (by omega) fun h₁ hit₁ hs₁ => ?_
    have e1 : a + (i : Int) * c + c = a + ((i + 1 : Nat) : Int) * c := by push_cast; rw [Int.add_mul, Int.one_mul, Int.add_assoc]
    have e2 : (n : Int) - (i : Int) - 1 = (n : Int) - ((i + 1 : Nat) : Int) := by push_cast; omega
    rw [e1, e2] at hit₁
    have N2 := news_set (pre := []) N1 hs₁.extBut (show h₁.get? I = some (itS _ _ _) from hit₁) (fun _ h => nomatch h) o1
    have F2 := fr_ext F1 hs₁.extBut hI.2.1 hI.2.2
    refine wpAny_assign_Name (wpAny_storeName_local hx F2.ns (fun h₂ hn₂ hs₂ => ?_) hp)
    have hL₀ : h₀.get? env.locals = none := Heap.get?_none_of_le F2.above
    have F3 : Fr h₀ env.locals h₂ (fun y => if y = x then some (.int (a + (i : Int) * c) s'.toks) else m y) := ⟨hn₂, fun b o e => hs₂.extBut b o (fun q => by rw [q, hL₀] at e; cases e) (F2.keep b o e), F2.above⟩
    have N3 : News h₀ env.locals h₂ ((I, itS (a + ((i + 1 : Nat) : Int) * c) ((n : Int) - ((i + 1 : Nat) : Int)) c) :: nw) := fun p hp => ⟨hs₂.extBut _ _ (N2 p hp).2.1 (N2 p hp).1, (N2 p hp).2⟩
    refine wpAny_mono (turn I i m nw _ _ hlt (hP _ _ _ _ h₂ _ (hP _ _ _ _ h₁ (s'.toks + 1) hP1)) F3 N3 o1) (fun f s₂ h => ?_) hE
    have fin : RgEnd h₀ env.locals (P (i + 1)) I (a + ((i + 1 : Nat) : Int) * c) ((n : Int) - ((i + 1 : Nat) : Int)) c s₂ → ∃ k, k < n + 1 - i ∧ ∃ i, i ≤ n ∧ k = n + 1 - i ∧ RgEnd h₀ env.locals (P i) I (a + (i : Int) * c) ((n : Int) - (i : Int)) c s₂ := fun h => ⟨n + 1 - (i + 1), by omega, i + 1, hlt, rfl, h⟩
    cases f with
    | ret v => exact h
    | brk => exact h
    | next => exact fin h
    | cont => exact fin h
  · have hin : i = n := by omega
    subst hin
    refine wpAny_pyNext_range_end hh hI.1 (by omega) fun h₁ he₁ => wpAny_execs_nil ?_
    show Q .next _
    refine done m nw _ (hP _ _ _ _ h₁ s'.toks hP1) (fr_ext F1 he₁ hI.2.1 hI.2.2) fun p hp => ?_
    have := N1 p (.tail _ hp)
    exact ⟨he₁ _ _ (o1 p hp) this.1, this.2⟩
end
end Mine
end

section
open PySem PySem.W PyProof.Rows PyProof.Rows.LCg PyProof.Rows.LCt
set_option maxRecDepth 100000
set_option maxHeartbeats 8000000
namespace Mine
theorem ldE {M : Model} {A : Around} {E : Value → Shared → Prop} {s : Shared} {h₀ : Heap} {L : Addr} {m : Str → Option Value} {env : Env} {x : Str} {pos : Pos} {v : Value} {Q : Value → Shared → Prop} (F : Fr h₀ L s.heap m) (hv : m x = some v) (h : Q v s) (hL : env.locals = L) (hk : env.scope.kind = .function) (hl : env.kindOf x = some .local) (hd : (x == ("__debug__" : Str)) = false) :
    wpAny M A (eval (.Name x pos) env) Q E s := by
  subst hL
  exact wpAny_Name (wpAny_loadName_local hk hl F.ns hv h) hd
theorem len_L {prog : Program} {w : World} {A : Around} {E : Value → Shared → Prop} {s : Shared} {h₀ : Heap} {L D : Addr} {news : List (Addr × Obj)} {vs : List Value} {n : Nat} {Q : Value → Shared → Prop} (N : News h₀ L s.heap news) (hm : (D, listOf vs.toArray n) ∈ news) (hz : vs.length ≤ 1000) (h : ∀ t k, Q (.int vs.length t) { s with toks := k }) :
    wpAny (model prog w) A (call (.builtin "len") [.ref D]) Q E s := by
  have e : vs.toArray.size = vs.length := by simp
  refine PyProof.Rows.len_list (News.isList N hm) (by rw [e]; omega) ?_
  rw [e]; exact h _ _
section
variable {prog : Program} {w : World} {A : Around} {s : Shared} {h₀ : Heap} {L : Addr} {m : Str → Option Value} {env : Env} {elt : PySem.Expr} {x : Str} {scope : Scope} {cl : List (Str × Addr)} {S : List (Addr × Obj) → Prop} {P : Nat → Value → Prop}
  {Fin : List Value → List (Addr × Obj) → Prop} {news : List (Addr × Obj)} {V : Nat → Value → Prop} {M : Nat}
/-- a comprehension without a test, turn by turn -/
theorem restV (hS : S news)
    (el : ∀ i v I oI C oC D ys m₂ h tk (E' : Value → Shared → Prop) (Q' : Value → Shared → Prop), i < M → P i v → NsObj oC m₂ → m₂ x = some v → Fr h₀ L h m → News h₀ L h ((I, oI) :: (C, oC) :: (D, lst ys) :: news) →
      (∀ y h' tk', V i y → Fr h₀ L h' m → News h₀ L h' ((I, oI) :: (C, oC) :: (D, lst ys) :: news) → Q' y { s with heap := h', toks := tk' }) → wpAny (model prog w) A (eval elt (compEnvC scope cl C env)) Q' E' { s with heap := h, toks := tk }) :
    ∀ n i ys, i + n ≤ M → (∀ ys', VAll V (fun _ => true) n i ys' → Fin (ys ++ ys') news) → CompRest prog w A h₀ L m env elt x scope cl s S P Fin n i ys news := by
  intro n
  induction n with
  | zero => intro i ys _ h; exact CompRest.zero (by have := h [] rfl; rwa [List.append_nil] at this)
  | succ n ih =>
    intro i ys hM hfin
    refine CompRest.succ fun v I oI C oC D m₂ h tk E' hP hN hm F N off ne => ?_
    refine el i v I oI C oC D ys m₂ h tk E' _ (by omega) hP hN hm F N fun y h' tk' hV F' N' => ?_
    refine ⟨h', tk', news, rfl, F', N', off, hS, ih _ _ (by omega) fun ys' h => ?_⟩
    have := hfin (y :: ys') (by unfold VAll; rw [if_pos rfl]; exact ⟨y, ys', rfl, hV, h⟩)
    rwa [List.append_assoc, List.singleton_append]
end
end Mine
end

section
open PySem PySem.W PyProof.Rows PyProof.Rows.LCg PyProof.Rows.LCt
set_option maxRecDepth 100000
set_option maxHeartbeats 8000000
namespace Mine
section
variable {prog : Program} {w : World} {A : Around} {E : Value → Shared → Prop} {s : Shared} {h₀ : Heap} {L D D' : Addr} {m : Str → Option Value} {news : List (Addr × Obj)} {value slice : PySem.Expr} {Q : Value → Shared → Prop} {vs ws : List Value} {n n' : Nat}
/-- a list on the ledger from a place on -/
theorem slice_from {i : Int} {ui : Tok} (F : Fr h₀ L s.heap m) (N : News h₀ L s.heap news) (hm : (D, listOf vs.toArray n) ∈ news) (h0 : 0 ≤ i) (hz : vs.length ≤ 1000)
    (h : ∀ D' h', Fr h₀ L h' m → News h₀ L h' ((D', listOf (vs.drop i.toNat).toArray 0) :: news) → (∀ p ∈ news, p.1 < D') → Q (.ref D') { s with heap := h' })
    (hs : subscripted slice false (.ref D) (.ref s.heap.objs.size) = operate [.ref s.heap.objs.size, .ref D] (getItem (.ref D) (.ref s.heap.objs.size))) (ht : ∀ r, letTemporaryGo value (.ref D) r = pure ()) :
    wpAny (model prog w) A (subscriptTail value slice (.ref D) (.ref s.heap.objs.size)) Q E { s with heap := s.heap.push { cls := .type "slice", data := .fields #[.int i ui, .none, .none] } } := by
  refine kmk_slice_lit F N (News.isList N hm) (.int i ui) .none ?_ h hs ht (by simp; unfold sizeLine; omega)
  have e : sliceBounds (some i) none none vs.toArray.size = (((min i.toNat vs.toArray.size : Nat) : Int), ((vs.toArray.size : Nat) : Int), 1) := by
    simp only [sliceBounds, Option.getD_none, show (1 : Int) > 0 by decide, if_true, if_neg (show ¬ (i < 0) by omega)]
    congr 1
    omega
  rw [kmk_pick_nat _ e]
  show (vs.drop (min i.toNat vs.toArray.size)).take (vs.toArray.size - min i.toNat vs.toArray.size) = _
  rw [List.size_toArray, kmk_drop_min, List.take_of_length_le (by rw [List.length_drop]; omega)]
/-- two lists on the ledger, one behind the other -/
theorem add_LL (F : Fr h₀ L s.heap m) (N : News h₀ L s.heap news) (hm : (D, listOf vs.toArray n) ∈ news) (hm' : (D', listOf ws.toArray n') ∈ news) (hz : vs.length ≤ 1000) (hz' : ws.length ≤ 1000)
    (h : ∀ R h', Fr h₀ L h' m → News h₀ L h' ((R, listOf (vs ++ ws).toArray 0) :: news) → (∀ p ∈ news, p.1 < R) → Q (.ref R) { s with heap := h' }) :
    wpAny (model prog w) A (binaryOp .Add (.ref D) (.ref D')) Q E s := by
  refine kmk_add_lit F N (News.isList N hm) (News.isList N hm') (by simp) h ?_
  simp; unfold sizeLine; omega
/-- a list on the ledger, grown by another one -/
theorem ext_L (F : Fr h₀ L s.heap m) (N : News h₀ L s.heap ((D, listOf vs.toArray n) :: news)) (hb : (D', listOf ws.toArray n') ∈ news) (hn : ∀ p ∈ news, p.1 ≠ D) (hz : vs.length ≤ 1000) (hz' : ws.length ≤ 1000)
    (h : ∀ h' k, Fr h₀ L h' m → News h₀ L h' ((D, listOf (vs ++ ws).toArray k) :: news) → Q .none { s with heap := h' }) :
    wpAny (model prog w) A (call (.builtin "list.extend") [.ref D, .ref D']) Q E s := by
  have hd : ¬(!vs.toArray.isEmpty && Builtin.List.listTooLong (vs.toArray.size + ws.toArray.size)) = true := by
    have e : Builtin.List.listTooLong (vs.toArray.size + ws.toArray.size) = false := by
      simp only [List.size_toArray]
      unfold Builtin.List.listTooLong
      rw [decide_eq_false_iff_not]; unfold sizeLine; omega
    rw [e, Bool.and_false]; simp
  cases ws with
  | nil =>
    refine kxn_extend (its := vs.toArray) F N (.tail _ hb) rfl (.head hn) hd (by simp; unfold sizeLine; omega) (by simp; unfold sizeLine; omega) fun h' F' N' => ?_
    refine h h' n F' ?_
    rw [List.append_nil]; exact N'
  | cons x ws =>
    refine kl_extend (l := vs ++ x :: ws) F N (.tail _ hb) (by simp) (by simp) (.head hn) hd (by simp; unfold sizeLine; omega) (by simp; unfold sizeLine; simp at hz'; omega) fun h' F' N' => h h' _ F' N'
end
end Mine
end

section
open PySem PySem.W PyProof.Rows PyProof.Rows.LCg PyProof.Rows.LCt PySem.Builtin.Str
set_option maxRecDepth 100000
set_option maxHeartbeats 8000000
namespace Mine
@[irreducible] noncomputable def whN : Stmt := nthS (fdBody (topStmt 24)) 3
theorem SgAt.split {tl : List (Addr × Obj)} : ∀ {A B : List (Nat × Bool)} {vs : List Value}, SgAt tl vs (A ++ B) → ∃ vA vB, vs = vA ++ vB ∧ vA.length = A.length ∧ SgAt tl vB B
  | [], B, vs, h => ⟨[], vs, rfl, rfl, h⟩
  | x :: A, B, [], h => h.elim
  | x :: A, B, v :: vs, h => by
    obtain ⟨vA, vB, rfl, hl, h2⟩ := SgAt.split (A := A) h.2
    exact ⟨v :: vA, vB, rfl, by simp [hl], h2⟩
theorem SgAt.un1 {tl : List (Addr × Obj)} {vs : List Value} {x : Nat × Bool} {A : List (Nat × Bool)} {P : Prop} (h : SgAt tl vs (x :: A))
    (k : ∀ r t vs', vs = .ref r :: vs' → (r, tup [.str (S [x.1]) t, .bool x.2]) ∈ tl → SgAt tl vs' A → P) : P := by
  cases vs with
  | nil => exact h.elim
  | cons v vs => obtain ⟨⟨r, t, rfl, hr⟩, h⟩ := h; exact k r t vs rfl hr h
theorem SgAt.un5 {tl : List (Addr × Obj)} {vs : List Value} {x0 x1 x2 x3 x4 : Nat × Bool} {A : List (Nat × Bool)} {P : Prop} (h : SgAt tl vs (x0 :: x1 :: x2 :: x3 :: x4 :: A))
    (k : ∀ r0 t0 r1 t1 r2 t2 r3 t3 r4 t4 vs', vs = .ref r0 :: .ref r1 :: .ref r2 :: .ref r3 :: .ref r4 :: vs' → (r0, tup [.str (S [x0.1]) t0, .bool x0.2]) ∈ tl → (r1, tup [.str (S [x1.1]) t1, .bool x1.2]) ∈ tl → (r2, tup [.str (S [x2.1]) t2, .bool x2.2]) ∈ tl →
      (r3, tup [.str (S [x3.1]) t3, .bool x3.2]) ∈ tl → (r4, tup [.str (S [x4.1]) t4, .bool x4.2]) ∈ tl → P) : P :=
  h.un1 fun r0 t0 _ e0 m0 h => h.un1 fun r1 t1 _ e1 m1 h => h.un1 fun r2 t2 _ e2 m2 h => h.un1 fun r3 t3 _ e3 m3 h => h.un1 fun r4 t4 vs' e4 m4 _ => k r0 t0 r1 t1 r2 t2 r3 t3 r4 t4 vs' (by rw [e0, e1, e2, e3, e4]) m0 m1 m2 m3 m4
theorem SgAt.un6 {tl : List (Addr × Obj)} {vs : List Value} {x0 x1 x2 x3 x4 x5 : Nat × Bool} {A : List (Nat × Bool)} {P : Prop} (h : SgAt tl vs (x0 :: x1 :: x2 :: x3 :: x4 :: x5 :: A))
    (k : ∀ r0 t0 r1 t1 r2 t2 r3 t3 r4 t4 r5 (t5 : Tok) vs', vs = .ref r0 :: .ref r1 :: .ref r2 :: .ref r3 :: .ref r4 :: .ref r5 :: vs' → (r0, tup [.str (S [x0.1]) t0, .bool x0.2]) ∈ tl → (r1, tup [.str (S [x1.1]) t1, .bool x1.2]) ∈ tl → (r2, tup [.str (S [x2.1]) t2, .bool x2.2]) ∈ tl →
      (r3, tup [.str (S [x3.1]) t3, .bool x3.2]) ∈ tl → (r4, tup [.str (S [x4.1]) t4, .bool x4.2]) ∈ tl → P) : P :=
  h.un1 fun r0 t0 _ e0 m0 h => h.un5 fun r1 t1 r2 t2 r3 t3 r4 t4 r5 t5 vs' e m1 m2 m3 m4 _ => k r0 t0 r1 t1 r2 t2 r3 t3 r4 t4 r5 t5 vs' (by rw [e0, e]) m0 m1 m2 m3 m4
theorem k0_at {vA vB : List Value} {v : Value} {k : Nat} (h : vA.length = k) : (vA ++ v :: vB)[((k : Nat) : Int).toNat]? = some v := by subst h; simp

theorem k1_at {vA vB : List Value} {v v' : Value} {k : Nat} (h : vA.length = k) : (vA ++ v :: v' :: vB)[(((k : Nat) : Int) + 1).toNat]? = some v' := by
  subst h
  rw [show ((vA.length : Int) + 1).toNat = vA.length + 1 by omega, List.getElem?_append_right (by omega)]; simp
theorem five_jj {D R : List (Nat × Bool)} {a b : Nat × Bool} : (D ++ ([(91, true), a, (45, true), b, (93, true)] ++ R))[D.length + 4]? = some (93, true) := by rw [List.getElem?_append_right (by omega)]; simp

theorem five_no {D R : List (Nat × Bool)} {a b : Nat × Bool} (ha : a ≠ (93, true)) (hb : b ≠ (93, true)) (m : Nat) (h1 : D.length ≤ m) (h2 : m < D.length + 4) : (D ++ ([(91, true), a, (45, true), b, (93, true)] ++ R))[m]? ≠ some (93, true) := by
  rw [List.getElem?_append_right h1]
  obtain ⟨d, hd⟩ : ∃ d, m - D.length = d := ⟨_, rfl⟩
  rw [hd]
  have hd4 : d < 4 := by omega
  match d, hd4 with
  | 0, _ => simp
  | 1, _ => intro h; injection h with h; exact ha h
  | 2, _ => simp
  | 3, _ => intro h; injection h with h; exact hb h
theorem six_jj {D R : List (Nat × Bool)} {a b : Nat × Bool} : (D ++ ([(91, true), (94, true), a, (45, true), b, (93, true)] ++ R))[D.length + 5]? = some (93, true) := by rw [List.getElem?_append_right (by omega)]; simp

theorem six_no {D R : List (Nat × Bool)} {a b : Nat × Bool} (ha : a ≠ (93, true)) (hb : b ≠ (93, true)) (m : Nat) (h1 : D.length ≤ m) (h2 : m < D.length + 5) : (D ++ ([(91, true), (94, true), a, (45, true), b, (93, true)] ++ R))[m]? ≠ some (93, true) := by
  rw [List.getElem?_append_right h1]
  obtain ⟨d, hd⟩ : ∃ d, m - D.length = d := ⟨_, rfl⟩
  rw [hd]
  have hd4 : d < 5 := by omega
  match d, hd4 with
  | 0, _ => simp
  | 1, _ => simp
  | 2, _ => intro h; injection h with h; exact ha h
  | 3, _ => simp
  | 4, _ => intro h; injection h with h; exact hb h
theorem lit_pipe : Str.ofString "|" = S [124] := by decide +kernel

theorem lit_po : Str.ofString "(" = S [40] := by decide +kernel

theorem lit_pc : Str.ofString ")" = S [41] := by decide +kernel

theorem SgAt.sk {tl : List (Addr × Obj)} {vA vs : List Value} {B : List (Nat × Bool)} {k : Nat} (h : SgAt tl vs B) (hk : vA.length = k) : SgAt tl ((vA ++ vs).drop ((k : Nat) : Int).toNat) B := by
  subst hk
  have e : (vA ++ vs).drop ((vA.length : Nat) : Int).toNat = vs := by simp
  rw [e]; exact h
theorem nd_true {p : Prop} [Decidable p] (h : ¬ p) : (!decide p) = true := by rw [decide_eq_false h]; rfl

theorem is_l4 {r : List (Nat × Bool)} {n : Nat} (h : n = 4) : decide (((40, true) :: (63, true) :: (33, true) :: (41, true) :: r).take n = l4) = true := by
  subst h; exact decide_eq_true rfl
theorem drop_lenV (a r : List Value) (n : Nat) : (a ++ r).drop (a.length + n) = r.drop n := by
  induction a with
  | nil => simp
  | cons x a ih => rw [List.length_cons, Nat.add_right_comm]; exact ih
theorem perm5n {h₀ h : Heap} {L : Addr} {x a b c d : Addr × Obj} {tl news : List (Addr × Obj)} (N : News h₀ L h (x :: (tl ++ a :: b :: c :: d :: news))) : News h₀ L h (a :: b :: c :: d :: x :: (tl ++ news)) := cb_drop N (s_cons (.tail _ (List.mem_append_right _ (mi 0 rfl))) (s_cons (.tail _ (List.mem_append_right _ (mi 1 rfl))) (s_cons (.tail _ (List.mem_append_right _ (mi 2 rfl))) (s_cons (.tail _ (List.mem_append_right _ (mi 3 rfl))) (s_keep (s_keepA fun _ h => .tail _ (.tail _ (.tail _ (.tail _ h)))))))))

noncomputable def CellO (o : Obj) : Prop := ∃ v, o.data = .cell v
theorem grow_len {figs : List Nat} {names : List (List Nat)} {p : Pl} : (growN figs names p).length ≤ names.length * figs.length := by
  unfold growN
  induction names with
  | nil => simp
  | cons x names ih =>
    have h := List.length_filter_le (heldP p) figs
    rw [List.flatMap_cons, List.length_append, List.length_map, List.length_cons, Nat.add_mul]
    omega
theorem grow_all {figs : List Nat} : ∀ (done : List Pl) (names : List (List Nat)) (k : Nat), (∀ x ∈ names, x.length = k) → ∀ x ∈ done.foldl (growN figs) names, x.length = k + done.length
  | [], names, k, h => h
  | p :: done, names, k, h => by
    have h1 := grow_all (figs := figs) done (growN figs names p) (k + 1) (fun x hx => by
      unfold growN at hx
      obtain ⟨nm, hnm, hx⟩ := List.mem_flatMap.mp hx
      obtain ⟨f, _, rfl⟩ := List.mem_map.mp hx
      rw [List.length_append, h nm hnm]; rfl)
    intro x hx
    have := h1 x hx
    rw [List.length_cons]; omega
theorem grow_cnt {figs : List Nat} (h4 : figs.length ≤ 4) : ∀ (done : List Pl) (names : List (List Nat)), (done.foldl (growN figs) names).length ≤ names.length * 4 ^ done.length
  | [], names => by simp
  | p :: done, names => by
    have h1 := grow_cnt h4 done (growN figs names p)
    have h2 : (growN figs names p).length ≤ names.length * 4 := Nat.le_trans grow_len (Nat.mul_le_mul_left _ h4)
    have h3 := Nat.mul_le_mul_right (4 ^ done.length) h2
    rw [List.length_cons, Nat.pow_succ, Nat.mul_comm (4 ^ done.length) 4, ← Nat.mul_assoc]
    exact Nat.le_trans h1 h3
theorem dropN {h₀ h : Heap} {L : Addr} {a : Addr × Obj} {r : List (Addr × Obj)} (N : News h₀ L h (a :: r)) : News h₀ L h r := cb_drop N fun _ hq => .tail _ hq

theorem dropN6 {h₀ h : Heap} {L : Addr} {a b c d e f : Addr × Obj} {r : List (Addr × Obj)} (N : News h₀ L h (a :: b :: c :: d :: e :: f :: r)) : News h₀ L h r := dropN (dropN (dropN (dropN (dropN (dropN N)))))

theorem pick5 {h₀ h : Heap} {L : Addr} {a b c d e : Addr × Obj} {all rest : List (Addr × Obj)} (N : News h₀ L h all) (ha : a ∈ all) (hb : b ∈ all) (hc : c ∈ all) (hd : d ∈ all) (he : e ∈ all) (hr : ∀ q ∈ rest, q ∈ all) : News h₀ L h (a :: b :: c :: d :: e :: rest) := cb_drop N (s_cons ha (s_cons hb (s_cons hc (s_cons hd (s_cons he hr)))))

/-- the state between the turns of _law_names -/
theorem SgAt.one {tl news : List (Addr × Obj)} {vs : List Value} {l D R : List (Nat × Bool)} {x : Nat × Bool} {K : Nat} {P : Prop} (h : SgAt tl vs l) (hl : l = D ++ (x :: R)) (hK : D.length = K) (hx : ∀ x ∈ l, x.1 < 1114112)
    (k : ∀ r t, vs[((K : Nat) : Int).toNat]? = some (.ref r) → (r, tup [.str (S [x.1]) t, .bool x.2]) ∈ tl ++ news → SgAt tl (vs.drop ((K : Nat) : Int).toNat) (x :: R) → (∀ y : Nat × Bool, y ∈ x :: R → y.1 < 1114112) → P) : P := by
  subst hl
  obtain ⟨vA, vB, rfl, hlA, hB⟩ := h.split
  have hlA := hlA.trans hK
  have hd := SgAt.sk hB hlA
  refine SgAt.un1 hB fun r t vs' e m _ => ?_
  subst e
  exact k r t (k0_at hlA) (List.mem_append_left _ m) hd fun y hy => hx y (List.mem_append_right _ hy)
theorem riseF {tl news : List (Addr × Obj)} {vs : List Value} {l D RR : List (Nat × Bool)} {K : Nat} {n : Bool} {a b : Nat} {P : Prop} (h : SgAt tl vs l) (hl : l = D ++ (sgP (.rng n a b) ++ RR)) (hK : D.length = K) (hab : a ≤ b) (h97 : 97 ≤ a ∧ 97 ≤ b) (hx : ∀ x ∈ l, x.1 < 1114112)
    (k : ∀ j R r0 t0 r1 t1 ra ta rm tm rb tb x y ya yb, vs[((K : Nat) : Int).toNat]? = some (.ref r0) → vs[(((K : Nat) : Int) + 1).toNat]? = some (.ref r1) → (r0, tup [.str (S [91]) t0, .bool true]) ∈ tl ++ news → (r1, tup [.str (S [x]) t1, .bool y]) ∈ tl ++ news →
      (ra, tup [.str (S [a]) ta, .bool ya]) ∈ tl ++ news → (rm, tup [.str (S [45]) tm, .bool true]) ∈ tl ++ news → (rb, tup [.str (S [b]) tb, .bool yb]) ∈ tl ++ news → decide ((x, y) = (94, true)) = n → x < 1114112 → a < 1114112 → b < 1114112 →
      SgAt tl (vs.drop ((K : Nat) : Int).toNat) ((91, true) :: R) → (∀ y : Nat × Bool, y ∈ (91, true) :: R → y.1 < 1114112) → l[j]? = some (93, true) → (∀ m, K ≤ m → m < j → l[m]? ≠ some (93, true)) → K + 4 ≤ j → j < vs.length → j + 1 = D.length + (sgP (.rng n a b)).length →
      List.take (min ((j : Nat) : Int).toNat vs.length - (((K : Nat) : Int) + 1 + if n = true then 1 else 0).toNat) (List.drop (((K : Nat) : Int) + 1 + if n = true then 1 else 0).toNat vs) = [.ref ra, .ref rm, .ref rb] → P) : P := by
  have hlen := h.length
  subst hl
  cases n with
  | false =>
    have hS : sgP (.rng false a b) = [(91, true), (a, !hit a), (45, true), (b, !hit b), (93, true)] := by simp only [sgP, if_pos hab]; rfl
    rw [hS] at h hx hlen
    obtain ⟨vA, vB, rfl, hlA, hB⟩ := h.split
    have hA := hlA.trans hK
    have hd := SgAt.sk hB hA
    refine SgAt.un5 hB fun r0 t0 r1 t1 r2 t2 r3 t3 r4 t4 vB' e m0 m1 m2 m3 _ => ?_
    subst e
    have ha9 : a < 1114112 := hx (a, !hit a) (by simp)
    have hb9 : b < 1114112 := hx (b, !hit b) (by simp)
    subst hK
    refine k (D.length + 4) _ r0 t0 r1 t1 r1 t1 r2 t2 r3 t3 a _ _ _ (k0_at hA) (k1_at hA) (List.mem_append_left _ m0) (List.mem_append_left _ m1) (List.mem_append_left _ m1) (List.mem_append_left _ m2) (List.mem_append_left _ m3) (decide_eq_false fun h => by injection h; omega) ha9 ha9 hb9 hd
      (fun y hy => hx y (List.mem_append_right _ hy)) (by rw [hS]; exact five_jj) (by rw [hS]; exact five_no (fun h => by injection h; omega) (fun h => by injection h; omega)) (Nat.le_refl _) (by simp only [List.length_append, List.length_cons]; omega) (by rw [hS]; rfl) ?_
    have x1 : (((D.length : Nat) : Int) + 1 + if false = true then 1 else 0).toNat = vA.length + 1 := by rw [hlA]; simp
    have x2 : min (((D.length + 4 : Nat) : Int)).toNat (vA ++ .ref r0 :: .ref r1 :: .ref r2 :: .ref r3 :: .ref r4 :: vB').length - (vA.length + 1) = 3 := by simp only [List.length_append, List.length_cons]; omega
    rw [x1, x2, drop_lenV]; rfl
  | true =>
    have hS : sgP (.rng true a b) = [(91, true), (94, true), (a, !hit a), (45, true), (b, !hit b), (93, true)] := by simp only [sgP, if_pos hab]; rfl
    rw [hS] at h hx hlen
    obtain ⟨vA, vB, rfl, hlA, hB⟩ := h.split
    have hA := hlA.trans hK
    have hd := SgAt.sk hB hA
    refine SgAt.un6 hB fun r0 t0 r1 t1 r2 t2 r3 t3 r4 t4 r5 t5 vB' e m0 m1 m2 m3 m4 => ?_
    subst e
    have ha9 : a < 1114112 := hx (a, !hit a) (by simp)
    have hb9 : b < 1114112 := hx (b, !hit b) (by simp)
    subst hK
    refine k (D.length + 5) _ r0 t0 r1 t1 r2 t2 r3 t3 r4 t4 94 true _ _ (k0_at hA) (k1_at hA) (List.mem_append_left _ m0) (List.mem_append_left _ m1) (List.mem_append_left _ m2) (List.mem_append_left _ m3) (List.mem_append_left _ m4) (decide_eq_true rfl) (by decide) ha9 hb9 hd
      (fun y hy => hx y (List.mem_append_right _ hy)) (by rw [hS]; exact six_jj) (by rw [hS]; exact six_no (fun h => by injection h; omega) (fun h => by injection h; omega)) (by omega) (by simp only [List.length_append, List.length_cons]; omega) (by rw [hS]; rfl) ?_
    have x1 : (((D.length : Nat) : Int) + 1 + if true = true then 1 else 0).toNat = vA.length + 2 := by rw [hlA, if_pos rfl]; omega
    have x2 : min (((D.length + 5 : Nat) : Int)).toNat (vA ++ .ref r0 :: .ref r1 :: .ref r2 :: .ref r3 :: .ref r4 :: .ref r5 :: vB').length - (vA.length + 2) = 3 := by simp only [List.length_append, List.length_cons]; omega
    rw [x1, x2, drop_lenV]; rfl
inductive NJ (g' : Heap) (L' SD FG : Addr) (s : Shared) (vs : List Value) (kS : Nat) (tl news : List (Addr × Obj)) (names : List (List Nat)) (k : Nat) (s' : Shared) : Prop
  | mk (h2 tk2 m2 ND ns c1 o1 o2 o3) (zz0 : s' = { s with heap := h2, toks := tk2 }) (zz1 : Fr g' L' h2 m2) (zz2 : News g' L' h2 ((ND, listOf ns.toArray c1) :: (L' + 1 + 1 + 1, o3) :: (L' + 1 + 1, o2) :: (L' + 1, o1) :: (SD, listOf vs.toArray kS) :: (tl ++ news))) (zz3 : o1.data = .cell (some (.ref FG))) (zz4 : CellO o2) (zz5 : CellO o3) (zz6 : m2 (Str.ofString "names") = some (.ref ND)) (zz7 : m2 (Str.ofString "signs") = some (.ref SD)) (zz8 : (∃ t, m2 (Str.ofString "k") = some (.int (k : Nat) t))) (zz9 : StrsAre ns (names.map S)) (zz10 : @LT.lt Nat _ (L' + 1 + 1 + 1) ND) : NJ g' L' SD FG s vs kS tl news names k s'
section
noncomputable def whN0 : Stmt := nthS (fdBody (topStmt 24)) 3
noncomputable def whTest : Stmt → PySem.Expr
  | .While t _ _ _ => t
  | _ => .Name ⟨#[]⟩ ⟨0, 0, 0, 0⟩
noncomputable def whBody : Stmt → List Stmt
  | .While _ b _ _ => b
  | _ => []
/-- a turn of _law_names: one place more -/
theorem namesTurn (w : World) {dp un : Nat} {gd : Option (List Code)} {cn : Str} {cs : Scope} {ac : Addr} {ccd : Value} {cl : List (Str × Addr)} {outer o9 : List Env} {base g' : Heap} {L L' SD FG ND : Addr} {sc : Scope} {s : Shared} {E : Value → Shared → Prop} {NX QB : Shared → Prop} {QR : Value → Shared → Prop} {QX : Shared → Prop}
    {p : Program} {loose : List Str} {mean : ExcName → Option Value} {mg mb : Str → Option Value} {a1 a2 pl : Pl} {fs vs ns : List Value} {kf kS c1 : Nat} {figs : List Nat} {tl news : List (Addr × Obj)} {done rest : List Pl} {names : List (List Nat)} {h2 : Heap} {tk2 : Nat} {m2 : Str → Option Value} {o1 o2 o3 : Obj} {v2 v3 : Option Value} {tk9 : Tok} : ∀ (hsc : sc = scN) (ok1 : a1.ok) (ok2 : a2.ok) (h4 : figs.length ≤ 4) (hlt9 : ∀ x ∈ sgP a1 ++ sgP a2, x.1 < 1114112) (hf : StrsAre fs (figs.map fun f => S [f])) (hm : (FG, listOf fs.toArray kf) ∈ news) (hz8 : (sgL (sgP a1 ++ sgP a2)).length ≤ 500) (X' : (mk.heap_1 w.params).In g') (T' : Top p loose mean mg mb g') (B' : Below (ktrTop dp un gd cn cs L ac ccd cl outer) base o9 g') (hd : dp + 15 < recursionLimit) (hu : un + 8 * 15 < cLine) (hSg : SgAt tl vs (sgP a1 ++ sgP a2)) (l0 : ∀ p ∈ news, p.1 < L') (dS1 : @Ne Nat (L' + 1) SD) (dS2 : @Ne Nat (L' + 1 + 1) SD) (dS3 : @Ne Nat (L' + 1 + 1 + 1) SD) (qT1 : ∀ p ∈ tl ++ news, p.1 ≠ L' + 1) (qT2 : ∀ p ∈ tl ++ news, p.1 ≠ L' + 1 + 1) (qT3 : ∀ p ∈ tl ++ news, p.1 ≠ L' + 1 + 1 + 1) (qTS : ∀ p ∈ tl ++ news, p.1 ≠ SD) (F9 : Fr g' L' h2 m2) (N9 : News g' L' h2 ((ND, listOf ns.toArray c1) :: (L' + 1 + 1 + 1, o3) :: (L' + 1 + 1, o2) :: (L' + 1, o1) :: (SD, listOf vs.toArray kS) :: (tl ++ news))) (d1 : o1.data = .cell (some (.ref FG))) (d2 : o2.data = .cell v2) (d3 : o3.data = .cell v3) (mnames : m2 (Str.ofString "names") = some (.ref ND)) (msigns : m2 (Str.ofString "signs") = some (.ref SD)) (mk9 : m2 (Str.ofString "k") = some (.int ((done.flatMap sgP).length : Nat) tk9)) (hns : StrsAre ns (names.map S)) (hND : @LT.lt Nat _ (L' + 1 + 1 + 1) ND) (hps : [a1, a2] = done ++ pl :: rest) (hnames : names = done.foldl (growN figs) [[]]) (hNX : ∀ s₃, NJ g' L' SD FG s vs kS tl news (growN figs names pl) ((done ++ [pl]).flatMap sgP).length s₃ → NX s₃),
    wpAny (model PySem.Challenge.rw_in0279_01.row.toRowW.prog w) ((ktrTop dp un gd cn cs L ac ccd cl outer).deeper (envOfC "_law_names" sc L' 142 (.ref 141))) (isTrue (whTest whN0) (envOfC "_law_names" sc L' 142 (.ref 141)) (eval (whTest whN0) (envOfC "_law_names" sc L' 142 (.ref 141))))
      (fun b s₂ => if b = true then wpAny (model PySem.Challenge.rw_in0279_01.row.toRowW.prog w) ((ktrTop dp un gd cn cs L ac ccd cl outer).deeper (envOfC "_law_names" sc L' 142 (.ref 141))) (execs (whBody whN0) (envOfC "_law_names" sc L' 142 (.ref 141))) (fun f s₃ => match f with | .next | .cont => NX s₃ | .brk => QB s₃ | .ret v => QR v s₃) E s₂ else QX s₂) E { s with heap := h2, toks := tk2 } := by
  k_with_none
  w_top off
  k_with "om" => (first | decide | (with_reducible first | (refine neN ?_; first | (refine Nat.ne_of_lt ?_; first | ((repeat (first | assumption | exact om_k1 | refine Nat.lt_succ_of_lt ?_)); done) | (apply And.left; (iterate 18 (first | done | assumption | apply And.right)); done)) | (refine Nat.ne_of_gt ?_; first | ((repeat (first | assumption | exact om_k1 | refine Nat.lt_succ_of_lt ?_)); done) | (apply And.left; (iterate 18 (first | done | assumption | apply And.right)); done)) | (refine Ne.symm ?_; assumption) | (refine om_s ?_; omega)) | exact om_le (by assumption) rfl | exact om_ll (by assumption) rfl | exact om_lt (by assumption) rfl | exact om_lg (by assumption) rfl | exact om_r1 (by assumption) rfl | exact om_r2 (by assumption) rfl | exact om_r3 (by assumption) rfl | exact om_il (by assumption) rfl | exact om_ig (by assumption) rfl | exact om_tn (by assumption) rfl | exact om_tl (by assumption) rfl | exact om_nc (by assumption) rfl | exact Int.natCast_nonneg _ | exact Int.le_of_lt (by assumption)) | (law_clear; lia))
  k_with "execs cons" => ((first | (k_here; k_gentoks) | (refine wpAny_execs_cons ?_; k_fold; (try k_extra "mlet"))))
  k_with "stp" => (repeat' (first | (k_unfold; (try dsimp only)) | (k_end; wrow_close) | (walk1; (all_goals (try dsimp only))) | (dsimp only; walk1) | (leave1; walk_say "STEP leave1"; try dsimp only) | fail "no step"))
  k_with "spliced" => (k_dflt (first | ((with_reducible show wpAny _ _ (spliced (backTo _ (starEach [_] _))) _ _ _); refine sp1 ?_) | ((with_reducible show wpAny _ _ (spliced (backTo _ (starEach [_, _] _))) _ _ _); refine sp2 ?_) | ((with_reducible show wpAny _ _ (spliced (backTo _ (starEach [_, _, _] _))) _ _ _); refine sp3 ?_)))
  k_with "subscriptTail Name Slice str ref" => ((k_dflt (first
    | ((with_reducible show wpAny _ _ (subscriptTail _ (PySem.Expr.Slice none (some _) none _) _ _) _ _ _); refine' text_4 (s := ⟨_, _, _, _, _⟩) ?w9qF ?w9qN ?w9qz ?_ ?w9qs ?w9qt; (case w9qF => k_asm); (case w9qN => k_asm); (case w9qz => assumption); (case w9qs => with_unfolding_all rfl); (case w9qt => (intro _; with_unfolding_all rfl)))
    | ((with_reducible show wpAny _ _ (subscriptTail _ (PySem.Expr.Slice (some _) none none _) _ _) _ _ _); refine' text_3 (s := ⟨_, _, _, _, _⟩) ?w9qF ?w9qN ?w9qz ?_ ?w9qs ?w9qt; (case w9qF => k_asm); (case w9qN => k_asm); (case w9qz => assumption); (case w9qs => with_unfolding_all rfl); (case w9qt => (intro _; with_unfolding_all rfl)))
    | ((with_reducible show wpAny _ _ (subscriptTail _ (PySem.Expr.Slice (some _) (some _) none _) _ _) _ _ _); refine' text_in (s := ⟨_, _, _, _, _⟩) ?w9qF ?w9qN ?w9qz ?_ ?w9qs ?w9qt; (case w9qF => k_asm); (case w9qN => k_asm); (case w9qz => assumption); (case w9qs => with_unfolding_all rfl); (case w9qt => (intro _; with_unfolding_all rfl)))); intro hW9' tW9' kW9' FW9' NW9'))
  k_with "compareOp Eq str str" => ((k_dflt (first | (refine eq_yes lit_f1 rfl ?_) | (refine eq_yes lit_f2 rfl ?_))))
  k_with "kall" => (first | assumption | exact off_lt (by assumption) (by omega))
  k_with "eval Name" => ((k_dflt (refine' ldE ?w9q1 ?w9q2 ?_ ?w9q3 ?w9q4 ?w9q5 ?w9q6; (case w9q1 => k_asm); (case w9q2 => first | with_reducible assumption | exact rfl | assumption); (case w9q3 => exact rfl); (case w9q4 => exact rfl); (case w9q5 => exact rfl); (case w9q6 => decide); k_whole)))
  k_with "call builtin:len" => (((with_reducible show wpAny _ _ (call (Value.builtin "len") [Value.ref _]) _ _ _); k_dflt (refine' len_L ?w9qN ?w9qm ?w9qz ?_; (case w9qN => k_asm); (case w9qm => k_memK); (case w9qz => omega)); intro tW9' kW9'))
  k_with "subscriptTail Name Name ref int" => ((k_dflt (refine' sub_L ?w9qN ?w9qm ?w9qa ?w9qb ?w9qz ?_ ?w9qs; (case w9qN => k_asm); (case w9qm => k_memK); (case w9qa => omega); (case w9qb => assumption); (case w9qz => omega); (case w9qs => with_unfolding_all rfl))))
  k_with "compareOp Eq ref ref" => ((k_dflt (first
  | (refine' eq_TT ?w9qN ?w9qx ?w9qy ?w9q1 ?w9q2 ?w9q3 ?w9q4 ?w9qu ?w9qr ?_; (case w9qN => k_asm); (case w9qx => (repeat (first | exact List.mem_cons_self | assumption | exact List.mem_append_right _ (by assumption) | refine List.mem_cons_of_mem _ ?_))); (case w9qy => exact List.mem_cons_self); (case w9q1 => exact rfl); (case w9q2 => first | exact lit_dot | exact lit_b1 | exact lit_hat | exact lit_da); (case w9q3 => first | assumption | decide); (case w9q4 => decide); (case w9qu => ke_room); (case w9qr => first | exact decide_eq_true rfl | exact decide_eq_false (by decide) | exact decide_eq_false (by assumption) | assumption); (rename News _ _ _ _ => nW9); (replace nW9 := dropN nW9))
  | (refine' eq_L4 ?w9qN ?w9qD ?w9qL ?w9m1 ?w9m2 ?w9m3 ?w9m4 lit_po lit_q lit_ex lit_pc ?w9qS ?w9qs ?w9qk ?w9qu ?w9qr ?_; (case w9qN => k_asm); (case w9qD => (repeat (first | exact List.mem_cons_self | assumption | exact List.mem_append_right _ (by assumption) | refine List.mem_cons_of_mem _ ?_))); (case w9qL => exact List.mem_cons_self); (case w9m4 => exact .tail _ (.head _)); (case w9m3 => exact .tail _ (.tail _ (.head _))); (case w9m2 => exact .tail _ (.tail _ (.tail _ (.head _)))); (case w9m1 => exact .tail _ (.tail _ (.tail _ (.tail _ (.head _))))); (case w9qS => exact SgAt.take _ (by assumption)); (case w9qs => (intro p9W9 h9W9; (repeat (first | exact List.mem_append_left _ h9W9 | refine List.mem_cons_of_mem _ ?_)))); (case w9qk => (intro x9W9 h9W9; exact (‹∀ x : Nat × Bool, x ∈ _ :: _ → x.1 < 1114112›) x9W9 (List.mem_of_mem_take h9W9))); (case w9qu => ke_room); (case w9qr => first | exact not_l4 (by assumption) | exact is_l4 (by omega) | exact not_l4 (by decide)); (rename News _ _ _ _ => nW9); (replace nW9 := dropN6 nW9)))))
  k_with "compareOp NotEq ref ref" => ((k_dflt (refine' ne_TT ?w9qN ?w9qx ?w9qy ?w9q1 lit_pipe ?w9q3 ?w9q4 ?w9qu ?w9qr ?_; (case w9qN => k_asm); (case w9qx => (repeat (first | exact List.mem_cons_self | assumption | exact List.mem_append_right _ (by assumption) | refine List.mem_cons_of_mem _ ?_))); (case w9qy => exact List.mem_cons_self); (case w9q1 => exact rfl); (case w9q3 => first | assumption | decide); (case w9q4 => decide); (case w9qu => ke_room); (case w9qr => exact nd_true (by assumption)); (rename News _ _ _ _ => nW9); (replace nW9 := dropN nW9))))
  k_with "subscriptTail Name Slice ref ref" => ((k_dflt (refine' slice_L (s := ⟨_, _, _, _, _⟩) rfl ?w9qF ?w9qN ?w9qm ?w9q0 ?w9q1 ?w9qz ?_ ?w9qs ?w9qt; (case w9qF => k_asm); (case w9qN => k_asm); (case w9qm => (repeat (first | exact List.mem_cons_self | assumption | exact List.mem_append_right _ (by assumption) | refine List.mem_cons_of_mem _ ?_))); (case w9q0 => omega); (case w9q1 => omega); (case w9qz => omega); (case w9qs => with_unfolding_all rfl); (case w9qt => (intro _; with_unfolding_all rfl))); intro DW9' hW9' FW9' NW9' l1W9; (try k_lt l1W9)))
  k_with "subscriptTail" => (((with_reducible show wpAny _ _ (subscriptTail (PySem.Expr.Name _ _) (PySem.Expr.Constant _ _ _) (Value.ref _) (Value.int 0 _)) _ _ _); k_dflt (refine' tup_0 ?w9qN ?w9qm ?_ ?w9qs ?w9qt; (case w9qN => k_asm); (case w9qm => (repeat (first | exact List.mem_cons_self | assumption | exact List.mem_append_right _ (by assumption) | refine List.mem_cons_of_mem _ ?_))); (case w9qs => with_unfolding_all rfl); (case w9qt => (intro _; with_unfolding_all rfl)))))
  k_with "getMethod ref" => (((with_reducible show wpAny _ _ (getMethod (Value.ref _) (PySem.Str.ofString "index") _) _ _ _); k_dflt (refine' kl_method ?w9qN ?w9qm PySem.F.slot_list_index PySem.F.type_list_index ?_; (case w9qN => k_asm); (case w9qm => (repeat (first | exact List.mem_cons_self | assumption | exact List.mem_append_right _ (by assumption) | refine List.mem_cons_of_mem _ ?_))))))
  k_with "call builtin:list.index" => ((k_dflt (refine' index_sg ?w9qN ?w9qx ?w9qy ?w9qS ?w9qs lit_cl ?w9q1 ?w9q2 ?w9qu ?w9qi ?w9qz ?w9qj ?w9qh ?w9qo ?_; (case w9qN => k_asm); (case w9qx => (repeat (first | exact List.mem_cons_self | assumption | exact List.mem_append_right _ (by assumption) | refine List.mem_cons_of_mem _ ?_))); (case w9qy => exact List.mem_cons_self); (case w9qS => assumption); (case w9qs => (intro p9W9 h9W9; (repeat (first | exact List.mem_append_left _ h9W9 | refine List.mem_cons_of_mem _ ?_)))); (case w9qh => assumption); (case w9qo => assumption); (case w9q1 => assumption); (case w9q2 => decide); (case w9qu => ke_room); (case w9qi => omega); (case w9qz => omega); (case w9qj => omega))))
  k_with "subscriptTail Name BinOp ref int" => ((k_dflt (refine' sub_L ?w9qN ?w9qm ?w9qa ?w9qb ?w9qz ?_ ?w9qs; (case w9qN => k_asm); (case w9qm => (repeat (first | exact List.mem_cons_self | assumption | exact List.mem_append_right _ (by assumption) | refine List.mem_cons_of_mem _ ?_))); (case w9qa => omega); (case w9qb => assumption); (case w9qz => omega); (case w9qs => with_unfolding_all rfl))))
  k_with "eval ListComp" => ((k_dflt (refine LCg.ListComp_U (F₀ := by k_asm) (by with_unfolding_all rfl) (by decide) (by rfl) (by decide) (by rfl) ?_)))
  k_with "exec Assign cons ListComp" => ((refine wpAny_Assign_Name ?_ (by with_unfolding_all rfl)))
  k_with "CompSrc" => ((refine Halt.of ?_))
  k_with "call ref" => (((with_reducible show wpAny _ _ (call (Value.ref 137) _) _ _ _); k_dflt (refine' Spec.use (lawSigns _ _ ?w9hb ?w9hz _ _) ?w9B ?w9F ?w9X ?w9N ?w9T ?w9k ?w9d ?w9u ?_; (case w9hb => assumption); (case w9hz => assumption); (case w9B => k_asm); (case w9F => k_asm); (case w9X => k_asm); (case w9N => k_asm); (case w9T => k_asm); (case w9k => first | exact rfl | assumption); (case w9d => ktr_room); (case w9u => ktr_units)); rotate_right; intro rW9' nwW9' hW9' tkW9' FW9' NW9' hPW9'; obtain ⟨SDW9, vsW9, kSW9, tlW9, hSgW9, hSDW9, hSAW9⟩ := hPW9'; (try dsimp only)))
  k_with "eval Name" => (((with_reducible show wpAny _ _ (eval (PySem.Expr.Name _ _) (compEnvC _ _ _ _)) _ _ _); k_dflt (refine LCgL.ld_own (by k_asm) (by k_memK) (by assumption) (by assumption) ?_)))
  k_with "subscriptTail Name Constant ref int" => ((k_dflt (refine' sub_L ?w9qN ?w9qm ?w9qa ?w9qb ?w9qz ?_ ?w9qs; (case w9qN => k_asm); (case w9qm => (repeat (first | exact List.mem_cons_self | assumption | exact List.mem_append_right _ (by assumption) | refine List.mem_cons_of_mem _ ?_))); (case w9qa => decide); (case w9qb => exact rfl); (case w9qz => decide); (case w9qs => with_unfolding_all rfl))))
  k_with "compareOp Gt str str" => ((k_dflt (refine gt_S (decide_eq_false (by omega)) ?_)))
  k_fill
  intro hsc ok1 ok2 h4 hlt9 hf hm hz8 X' T' B' hd hu hSg l0 dS1 dS2 dS3 qT1 qT2 qT3 qTS F9 N9 d1 d2 d3 mnames msigns mk9 hns hND hps hnames hNX
  conv at hsc => rhs; whnf
  subst hsc
  have hb : whN0 = whN0 := rfl
  conv at hb => rhs; unfold whN0; whnf
  rw [hb]
  clear hb
  dsimp only [whTest, whBody]
  have hc : ncS = ncS := rfl
  conv at hc => rhs; unfold ncS; whnf
  rw [← hc]
  have hsg : sgP a1 ++ sgP a2 = done.flatMap sgP ++ (sgP pl ++ rest.flatMap sgP) := by
    have : [a1, a2].flatMap sgP = (done ++ pl :: rest).flatMap sgP := by rw [← hps]
    simpa using this
  have hsz : (sgP a1 ++ sgP a2).length ≤ 500 := Nat.le_trans (sgL_len _) hz8
  have hdl : done.length ≤ 1 := by
    have := congrArg List.length hps
    simp only [List.length_append, List.length_cons, List.length_nil] at this; omega
  have hnz : ns.length ≤ 1000 := by
    have h1 := grow_cnt h4 done [[]]
    have h2 := hns.length
    rw [List.length_map, hnames] at h2
    have h3 : 4 ^ done.length ≤ 4 ^ 1 := Nat.pow_le_pow_right (by decide) hdl
    simp only [List.length_cons, List.length_nil] at h1; omega
  have hNz : ∀ x ∈ names, x.length ≤ 100 := fun x hx => by
    rw [hnames] at hx
    have := grow_all done [[]] 0 (by simp) x hx
    omega
  have hfz : fs.length ≤ 1000 := by
    have h2 := hf.length
    rw [List.length_map] at h2; omega
  have hlen : ((done ++ [pl]).flatMap sgP).length = (done.flatMap sgP).length + (sgP pl).length := by simp
  have hpl : pl = a1 ∨ pl = a2 := by
    have hx : pl ∈ [a1, a2] := by rw [hps]; simp
    simpa using hx
  have hvl := hSg.length
  have h0l : (done.flatMap sgP).length + (sgP pl).length ≤ (sgP a1 ++ sgP a2).length := by rw [hsg]; simp only [List.length_append]; omega
  have hok : pl.ok := hpl.elim (fun h => h ▸ ok1) fun h => h ▸ ok2
  clear ok1 ok2 hps hnames hdl hpl hz8
  generalize sgP a1 ++ sgP a2 = l at hSg hlt9 hsg hsz hvl h0l
  generalize (done ++ [pl]).flatMap sgP = W at hlen hNX
  generalize done.flatMap sgP = D at hlen hsg mk9 h0l
  generalize rest.flatMap sgP = RR at hsg
  obtain ⟨K, hK⟩ : ∃ K, D.length = K := ⟨_, rfl⟩
  rw [hK] at hlen mk9 h0l
  have hvs : vs.length ≤ 600 := by omega
  by_cases h46 : sgP pl = [(46, true)] ∧ (fun f => true != inSpan none f) = heldP pl
  · obtain ⟨hS, eh⟩ := h46
    rw [hS] at hsg hlen h0l
    refine SgAt.one (news := news) hSg hsg hK hlt9 fun r0 t0 hk0 hr0 _ _ => ?_
    have hlt : K < vs.length := by simp only [List.length_cons, List.length_nil] at h0l; omega
    k_extra "stp"
    k_dflt (refine' nmComp w rfl (ND := ND) (FG := FG) (T := 0) (sp := none) (t1 := 0) (t2 := 0) (names := names) (figs := figs) (bar := true) ?qF ?qN ?q1 ?q2 ?q3 ?q4 (fun _ _ h => nomatch h) ?q5 ?q6 ?q7 ?q8 ?q9 ?q10 hns hf hnz hfz hNz (fun _ _ h => nomatch h) ?qu ?_; (case qF => k_asm); (case qN => k_asm); (case q1 => assumption); (case q2 => (repeat (first | exact List.mem_cons_self | assumption | exact List.mem_append_right _ (by assumption) | refine List.mem_cons_of_mem _ ?_))); (case q3 => (repeat (first | exact List.mem_cons_self | assumption | exact List.mem_append_right _ (by assumption) | refine List.mem_cons_of_mem _ ?_))); (case q4 => (repeat (first | exact List.mem_cons_self | assumption | exact List.mem_append_right _ (by assumption) | refine List.mem_cons_of_mem _ ?_))); (case q5 => (repeat (first | exact List.mem_cons_self | assumption | exact List.mem_append_right _ (by assumption) | refine List.mem_cons_of_mem _ ?_))); (case q6 => (repeat (first | exact List.mem_cons_self | assumption | exact List.mem_append_right _ (by assumption) | refine List.mem_cons_of_mem _ ?_))); (case q7 => (repeat (first | exact List.mem_cons_self | assumption | exact List.mem_append_right _ (by assumption) | refine List.mem_cons_of_mem _ ?_))); (case q8 => assumption); (case q9 => assumption); (case q10 => assumption); (case qu => omega))
    intro D5 h5 tk5 ys5 F5 N5 l5 hys5
    (try dsimp only)
    k_extra "stp"
    rw [eh] at hys5
    have ei : ((W.length : Nat) : Int) = (K : Int) + 1 := by rw [hlen]; rfl
    refine hNX _ ⟨_, _, _, D5, ys5, _, _, _, _, rfl, by k_asm, pick5 (by k_asm) (by (repeat (first | exact List.mem_cons_self | assumption | exact List.mem_append_right _ (by assumption) | refine List.mem_cons_of_mem _ ?_))) (by (repeat (first | exact List.mem_cons_self | assumption | exact List.mem_append_right _ (by assumption) | refine List.mem_cons_of_mem _ ?_))) (by (repeat (first | exact List.mem_cons_self | assumption | exact List.mem_append_right _ (by assumption) | refine List.mem_cons_of_mem _ ?_))) (by (repeat (first | exact List.mem_cons_self | assumption | exact List.mem_append_right _ (by assumption) | refine List.mem_cons_of_mem _ ?_))) (by (repeat (first | exact List.mem_cons_self | assumption | exact List.mem_append_right _ (by assumption) | refine List.mem_cons_of_mem _ ?_))) (by (intro q hq; (repeat (first | exact hq | refine List.mem_cons_of_mem _ ?_)))), d1, ⟨_, by assumption⟩, ⟨_, by assumption⟩, rfl, by assumption, ⟨_, by rw [ei]; exact rfl⟩, hys5, l5 (L' + 1 + 1 + 1, _) (by (repeat (first | exact List.mem_cons_self | assumption | exact List.mem_append_right _ (by assumption) | refine List.mem_cons_of_mem _ ?_)))⟩
  cases pl with
  | any => exact absurd ⟨rfl, rfl⟩ h46
  | sign c =>
    clear h46
    refine SgAt.one (news := news) hSg hsg hK hlt9 fun r0 t0 hk0 hr0 hSk hbd => ?_
    have h97 : 97 ≤ c := hok
    have hc9 : c < 1114112 := hbd (c, !spec4 c) (.head _)
    have n46 : (c, !spec4 c) ≠ (46, true) := fun h => by injection h; omega
    have n91 : (c, !spec4 c) ≠ (91, true) := fun h => by injection h; omega
    have n40 : (c, !spec4 c) ≠ (40, true) := fun h => by injection h; omega
    have n124 : (c, !spec4 c) ≠ (124, true) := fun h => by
      injection h with h1 h2
      subst h1
      revert h2; decide
    have hlt : K < vs.length := by simp only [sgP, List.length_cons, List.length_nil] at h0l; omega
    dsimp only at hr0
    k_extra "stp"
    k_dflt (refine' nmComp w rfl (ND := ND) (FG := FG) (sp := some (c, c)) (t1 := t0) (t2 := t0) (names := names) (figs := figs) (bar := false) ?qF ?qN ?q1 ?q2 ?q3 ?q4 ?qT ?q5 ?q6 ?q7 ?q8 ?q9 ?q10 hns hf hnz hfz hNz (by rintro _ _ ⟨⟩; exact ⟨hc9, hc9⟩) ?qu ?_; (case qF => k_asm); (case qN => k_asm); (case q1 => assumption); (case q2 => (repeat (first | exact List.mem_cons_self | assumption | exact List.mem_append_right _ (by assumption) | refine List.mem_cons_of_mem _ ?_))); (case q3 => (repeat (first | exact List.mem_cons_self | assumption | exact List.mem_append_right _ (by assumption) | refine List.mem_cons_of_mem _ ?_))); (case q4 => exact .head _); (case qT => (rintro _ _ ⟨⟩; exact .tail _ (.head _))); (case q5 => (repeat (first | exact List.mem_cons_self | assumption | exact List.mem_append_right _ (by assumption) | refine List.mem_cons_of_mem _ ?_))); (case q6 => (repeat (first | exact List.mem_cons_self | assumption | exact List.mem_append_right _ (by assumption) | refine List.mem_cons_of_mem _ ?_))); (case q7 => (repeat (first | exact List.mem_cons_self | assumption | exact List.mem_append_right _ (by assumption) | refine List.mem_cons_of_mem _ ?_))); (case q8 => assumption); (case q9 => assumption); (case q10 => assumption); (case qu => omega))
    intro D5 h5 tk5 ys5 F5 N5 l5 hys5
    (try dsimp only)
    k_extra "stp"
    have eh : (fun f => false != inSpan (some (c, c)) f) = heldP (.sign c) := by
      funext f
      show (false != (decide (c ≤ f) && decide (f ≤ c))) = (f == c)
      by_cases h : f = c
      · subst h; simp
      · have h2 : (decide (c ≤ f) && decide (f ≤ c)) = false := by
          rw [Bool.and_eq_false_iff, decide_eq_false_iff_not, decide_eq_false_iff_not]; omega
        rw [h2]; simp [h]
    rw [eh] at hys5
    have ei : ((W.length : Nat) : Int) = (K : Int) + 1 := by rw [hlen]; rfl
    refine hNX _ ⟨_, _, _, D5, ys5, _, _, _, _, rfl, by k_asm, pick5 (by k_asm) (by (repeat (first | exact List.mem_cons_self | assumption | exact List.mem_append_right _ (by assumption) | refine List.mem_cons_of_mem _ ?_))) (by (repeat (first | exact List.mem_cons_self | assumption | exact List.mem_append_right _ (by assumption) | refine List.mem_cons_of_mem _ ?_))) (by (repeat (first | exact List.mem_cons_self | assumption | exact List.mem_append_right _ (by assumption) | refine List.mem_cons_of_mem _ ?_))) (by (repeat (first | exact List.mem_cons_self | assumption | exact List.mem_append_right _ (by assumption) | refine List.mem_cons_of_mem _ ?_))) (by (repeat (first | exact List.mem_cons_self | assumption | exact List.mem_append_right _ (by assumption) | refine List.mem_cons_of_mem _ ?_))) (by (intro q hq; (repeat (first | exact hq | refine List.mem_cons_of_mem _ ?_)))), d1, ⟨_, by assumption⟩, ⟨_, by assumption⟩, rfl, by assumption, ⟨_, by rw [ei]; exact rfl⟩, hys5, l5 (L' + 1 + 1 + 1, _) (by (repeat (first | exact List.mem_cons_self | assumption | exact List.mem_append_right _ (by assumption) | refine List.mem_cons_of_mem _ ?_)))⟩
  | rng n a b =>
    by_cases hab : a ≤ b
    · clear h46
      refine riseF (news := news) hSg hsg hK hab hok hlt9 fun j R r0 t0 r1 t1 ra ta rm tm rb tb x y ya yb hk0 hk1 hr0 hr1 hra hrm hrb hxy hx9 ha9 hb9 hSk hbd hjj hno hKj hjv hj1 e9 => ?_
      have hzz : l.length ≤ 600 := by omega
      have hwj : W.length = j + 1 := by rw [hlen, hj1, hK]
      k_extra "stp"
      rename News _ _ _ _ => N8
      rw [e9] at N8
      have qv : ∀ v ∈ [Value.ref ra, .ref rm, .ref rb], ∃ r x y, v = .ref r ∧ (r, tup [x, y]) ∈ tl ++ news := List.forall_mem_cons.mpr ⟨⟨ra, _, _, rfl, hra⟩, List.forall_mem_cons.mpr ⟨⟨rm, _, _, rfl, hrm⟩, List.forall_mem_cons.mpr ⟨⟨rb, _, _, rfl, hrb⟩, List.forall_mem_nil _⟩⟩⟩
      refine Halt.to (LCg.CompSrc.ledger rfl (by k_asm) N8 (.head _) (Nat.le_of_ble_eq_true rfl) ?_)
      intro gg
      refine restV (M := 3) (V := fun _ _ => True) ?_ ?_ _ _ _ (Nat.le_refl _) ?_
      · exact .inr ⟨_, .head _, rfl, _, rfl⟩
      · rintro i v I oI C oC D ys mm h5 tk5 E' Q' hi hP hN5 hm5 F5 N5 hret5
        obtain ⟨r, x, y, rfl, hr⟩ := qv v (by simpa using Array.mem_of_getElem? hP)
        (try dsimp only)
        k_extra "stp"
        exact hret5 _ _ _ trivial (by k_asm) (cb_drop (by k_asm) fun q hq => .tail _ hq)
      · intro ys' hys D9 h9 tk9 F9 N9 o9
        (try dsimp only)
        simp only [LCg.Off1] at o9
        k_extra "stp"
        k_dflt (refine' nmComp w rfl (ND := ND) (FG := FG) (sp := some (a, b)) (t1 := ta) (t2 := tb) (names := names) (figs := figs) (bar := (n != false)) ?qF ?qN ?q1 ?q2 ?q3 ?q4 ?qT ?q5 ?q6 ?q7 ?q8 ?q9 ?q10 hns hf hnz hfz hNz (by rintro _ _ ⟨⟩; exact ⟨ha9, hb9⟩) ?qu ?_; (case qF => k_asm); (case qN => k_asm); (case q1 => assumption); (case q2 => (repeat (first | exact List.mem_cons_self | assumption | exact List.mem_append_right _ (by assumption) | refine List.mem_cons_of_mem _ ?_))); (case q3 => (repeat (first | exact List.mem_cons_self | assumption | exact List.mem_append_right _ (by assumption) | refine List.mem_cons_of_mem _ ?_))); (case q4 => exact .head _); (case qT => (rintro _ _ ⟨⟩; exact .tail _ (.head _))); (case q5 => (repeat (first | exact List.mem_cons_self | assumption | exact List.mem_append_right _ (by assumption) | refine List.mem_cons_of_mem _ ?_))); (case q6 => (repeat (first | exact List.mem_cons_self | assumption | exact List.mem_append_right _ (by assumption) | refine List.mem_cons_of_mem _ ?_))); (case q7 => (repeat (first | exact List.mem_cons_self | assumption | exact List.mem_append_right _ (by assumption) | refine List.mem_cons_of_mem _ ?_))); (case q8 => assumption); (case q9 => assumption); (case q10 => assumption); (case qu => omega))
        intro D5 h5 tk5 ys5 F5 N5 l5 hys5
        (try dsimp only)
        k_extra "stp"
        have eh : (fun f => (n != false) != inSpan (some (a, b)) f) = heldP (.rng n a b) := by cases n <;> rfl
        rw [eh] at hys5
        have ei : ((W.length : Nat) : Int) = (j : Int) + 1 := by rw [hwj]; rfl
        refine hNX _ ⟨_, _, _, D5, ys5, _, _, _, _, rfl, by k_asm, pick5 (by k_asm) (by (repeat (first | exact List.mem_cons_self | assumption | exact List.mem_append_right _ (by assumption) | refine List.mem_cons_of_mem _ ?_))) (by (repeat (first | exact List.mem_cons_self | assumption | exact List.mem_append_right _ (by assumption) | refine List.mem_cons_of_mem _ ?_))) (by (repeat (first | exact List.mem_cons_self | assumption | exact List.mem_append_right _ (by assumption) | refine List.mem_cons_of_mem _ ?_))) (by (repeat (first | exact List.mem_cons_self | assumption | exact List.mem_append_right _ (by assumption) | refine List.mem_cons_of_mem _ ?_))) (by (repeat (first | exact List.mem_cons_self | assumption | exact List.mem_append_right _ (by assumption) | refine List.mem_cons_of_mem _ ?_))) (by (intro q hq; (repeat (first | exact hq | refine List.mem_cons_of_mem _ ?_)))), d1, ⟨_, by assumption⟩, ⟨_, by assumption⟩, rfl, by assumption, ⟨_, by rw [ei]; exact rfl⟩, hys5, l5 (L' + 1 + 1 + 1, _) (by (repeat (first | exact List.mem_cons_self | assumption | exact List.mem_append_right _ (by assumption) | refine List.mem_cons_of_mem _ ?_)))⟩
    have eh : (fun f => n != inSpan none f) = heldP (.rng n a b) := by
      funext f
      show (n != false) = (n != (decide (a ≤ f) && decide (f ≤ b)))
      have h2 : (decide (a ≤ f) && decide (f ≤ b)) = false := by
        rw [Bool.and_eq_false_iff, decide_eq_false_iff_not, decide_eq_false_iff_not]; omega
      rw [h2]
    cases n with
    | true =>
      have hS : sgP (.rng true a b) = [(46, true)] := by simp only [sgP, if_neg hab, if_true]
      exact absurd ⟨hS, eh⟩ h46
    | false =>
      clear h46
      have hS : sgP (.rng false a b) = [(40, true), (63, true), (33, true), (41, true)] := by simp only [sgP, if_neg hab]; rfl
      rw [hS] at hsg hlen h0l
      refine SgAt.one (news := news) hSg hsg hK hlt9 fun r0 t0 hk0 hr0 hSk hbd => ?_
      have hlt : K + 4 ≤ vs.length := by simp only [List.length_cons, List.length_nil] at h0l; omega
      have hbd : ∀ x : Nat × Bool, x ∈ (40, true) :: (63, true) :: (33, true) :: (41, true) :: RR → x.1 < 1114112 := hbd
      have hSk : SgAt tl (vs.drop ((K : Nat) : Int).toNat) ((40, true) :: (63, true) :: (33, true) :: (41, true) :: RR) := hSk
      k_extra "stp"
      k_dflt (refine' nmComp w rfl (ND := ND) (FG := FG) (T := 0) (sp := none) (t1 := 0) (t2 := 0) (names := names) (figs := figs) (bar := false) ?qF ?qN ?q1 ?q2 ?q3 ?q4 (fun _ _ h => nomatch h) ?q5 ?q6 ?q7 ?q8 ?q9 ?q10 hns hf hnz hfz hNz (fun _ _ h => nomatch h) ?qu ?_; (case qF => k_asm); (case qN => k_asm); (case q1 => assumption); (case q2 => (repeat (first | exact List.mem_cons_self | assumption | exact List.mem_append_right _ (by assumption) | refine List.mem_cons_of_mem _ ?_))); (case q3 => (repeat (first | exact List.mem_cons_self | assumption | exact List.mem_append_right _ (by assumption) | refine List.mem_cons_of_mem _ ?_))); (case q4 => (repeat (first | exact List.mem_cons_self | assumption | exact List.mem_append_right _ (by assumption) | refine List.mem_cons_of_mem _ ?_))); (case q5 => (repeat (first | exact List.mem_cons_self | assumption | exact List.mem_append_right _ (by assumption) | refine List.mem_cons_of_mem _ ?_))); (case q6 => (repeat (first | exact List.mem_cons_self | assumption | exact List.mem_append_right _ (by assumption) | refine List.mem_cons_of_mem _ ?_))); (case q7 => (repeat (first | exact List.mem_cons_self | assumption | exact List.mem_append_right _ (by assumption) | refine List.mem_cons_of_mem _ ?_))); (case q8 => assumption); (case q9 => assumption); (case q10 => assumption); (case qu => omega))
      intro D5 h5 tk5 ys5 F5 N5 l5 hys5
      (try dsimp only)
      k_extra "stp"
      rw [eh] at hys5
      have ei : ((W.length : Nat) : Int) = (K : Int) + 3 + 1 := by rw [hlen]; rfl
      refine hNX _ ⟨_, _, _, D5, ys5, _, _, _, _, rfl, by k_asm, pick5 (by k_asm) (by (repeat (first | exact List.mem_cons_self | assumption | exact List.mem_append_right _ (by assumption) | refine List.mem_cons_of_mem _ ?_))) (by (repeat (first | exact List.mem_cons_self | assumption | exact List.mem_append_right _ (by assumption) | refine List.mem_cons_of_mem _ ?_))) (by (repeat (first | exact List.mem_cons_self | assumption | exact List.mem_append_right _ (by assumption) | refine List.mem_cons_of_mem _ ?_))) (by (repeat (first | exact List.mem_cons_self | assumption | exact List.mem_append_right _ (by assumption) | refine List.mem_cons_of_mem _ ?_))) (by (repeat (first | exact List.mem_cons_self | assumption | exact List.mem_append_right _ (by assumption) | refine List.mem_cons_of_mem _ ?_))) (by (intro q hq; (repeat (first | exact hq | refine List.mem_cons_of_mem _ ?_)))), d1, ⟨_, by assumption⟩, ⟨_, by assumption⟩, rfl, by assumption, ⟨_, by rw [ei]; exact rfl⟩, hys5, l5 (L' + 1 + 1 + 1, _) (by (repeat (first | exact List.mem_cons_self | assumption | exact List.mem_append_right _ (by assumption) | refine List.mem_cons_of_mem _ ?_)))⟩
theorem lawNames (w : World) (a1 a2 : Pl) (FG : Addr) (fs : List Value) (kf : Nat) (figs : List Nat) (t : Tok) (news) (ok1 : a1.ok) (ok2 : a2.ok) (h4 : figs.length ≤ 4) (hlt9 : ∀ x ∈ sgP a1 ++ sgP a2, x.1 < 1114112) (hf : StrsAre fs (figs.map fun f => S [f])) (hm : (FG, listOf fs.toArray kf) ∈ news) :
    Spec w 142 [.str (S (trT a1 a2)) t, .ref FG] 15 news (PoL (fun vs => StrsAre vs ((growN figs (growN figs [[]] a1) a2).map S)) news) := by
  unfold Spec
  k_with_none
  w_top off
  k_with "om" => (first | decide | (with_reducible first | (refine neN ?_; first | (refine Nat.ne_of_lt ?_; first | ((repeat (first | assumption | exact om_k1 | refine Nat.lt_succ_of_lt ?_)); done) | (apply And.left; (iterate 18 (first | done | assumption | apply And.right)); done)) | (refine Nat.ne_of_gt ?_; first | ((repeat (first | assumption | exact om_k1 | refine Nat.lt_succ_of_lt ?_)); done) | (apply And.left; (iterate 18 (first | done | assumption | apply And.right)); done)) | (refine Ne.symm ?_; assumption) | (refine om_s ?_; omega)) | exact om_le (by assumption) rfl | exact om_ll (by assumption) rfl | exact om_lt (by assumption) rfl | exact om_lg (by assumption) rfl | exact om_r1 (by assumption) rfl | exact om_r2 (by assumption) rfl | exact om_r3 (by assumption) rfl | exact om_il (by assumption) rfl | exact om_ig (by assumption) rfl | exact om_tn (by assumption) rfl | exact om_tl (by assumption) rfl | exact om_nc (by assumption) rfl | exact Int.natCast_nonneg _ | exact Int.le_of_lt (by assumption)) | (law_clear; lia))
  k_with "execs cons" => ((first | (k_here; k_gentoks) | (refine wpAny_execs_cons ?_; k_fold; (try k_extra "mlet"))))
  k_with "stp" => (repeat' (first | (k_unfold; (try dsimp only)) | (k_end; wrow_close) | (walk1; (all_goals (try dsimp only))) | (dsimp only; walk1) | (leave1; walk_say "STEP leave1"; try dsimp only) | fail "no step"))
  k_with "spliced" => (k_dflt (first | ((with_reducible show wpAny _ _ (spliced (backTo _ (starEach [_] _))) _ _ _); refine sp1 ?_) | ((with_reducible show wpAny _ _ (spliced (backTo _ (starEach [_, _] _))) _ _ _); refine sp2 ?_) | ((with_reducible show wpAny _ _ (spliced (backTo _ (starEach [_, _, _] _))) _ _ _); refine sp3 ?_)))
  k_with "subscriptTail Name Slice str ref" => ((k_dflt (first
    | ((with_reducible show wpAny _ _ (subscriptTail _ (PySem.Expr.Slice none (some _) none _) _ _) _ _ _); refine' text_4 (s := ⟨_, _, _, _, _⟩) ?w9qF ?w9qN ?w9qz ?_ ?w9qs ?w9qt; (case w9qF => k_asm); (case w9qN => k_asm); (case w9qz => assumption); (case w9qs => with_unfolding_all rfl); (case w9qt => (intro _; with_unfolding_all rfl)))
    | ((with_reducible show wpAny _ _ (subscriptTail _ (PySem.Expr.Slice (some _) none none _) _ _) _ _ _); refine' text_3 (s := ⟨_, _, _, _, _⟩) ?w9qF ?w9qN ?w9qz ?_ ?w9qs ?w9qt; (case w9qF => k_asm); (case w9qN => k_asm); (case w9qz => assumption); (case w9qs => with_unfolding_all rfl); (case w9qt => (intro _; with_unfolding_all rfl)))
    | ((with_reducible show wpAny _ _ (subscriptTail _ (PySem.Expr.Slice (some _) (some _) none _) _ _) _ _ _); refine' text_in (s := ⟨_, _, _, _, _⟩) ?w9qF ?w9qN ?w9qz ?_ ?w9qs ?w9qt; (case w9qF => k_asm); (case w9qN => k_asm); (case w9qz => assumption); (case w9qs => with_unfolding_all rfl); (case w9qt => (intro _; with_unfolding_all rfl)))); intro hW9' tW9' kW9' FW9' NW9'))
  k_with "compareOp Eq str str" => ((k_dflt (first | (refine eq_yes lit_f1 rfl ?_) | (refine eq_yes lit_f2 rfl ?_))))
  k_with "kall" => (first | assumption | exact off_lt (by assumption) (by omega))
  k_with "eval Name" => ((k_dflt (refine' ldE ?w9q1 ?w9q2 ?_ ?w9q3 ?w9q4 ?w9q5 ?w9q6; (case w9q1 => k_asm); (case w9q2 => first | with_reducible assumption | exact rfl | assumption); (case w9q3 => exact rfl); (case w9q4 => exact rfl); (case w9q5 => exact rfl); (case w9q6 => decide); k_whole)))
  k_with "call builtin:len" => (((with_reducible show wpAny _ _ (call (Value.builtin "len") [Value.ref _]) _ _ _); k_dflt (refine' len_L ?w9qN ?w9qm ?w9qz ?_; (case w9qN => k_asm); (case w9qm => k_memK); (case w9qz => omega)); intro tW9' kW9'))
  k_with "subscriptTail Name Name ref int" => ((k_dflt (refine' sub_L ?w9qN ?w9qm ?w9qa ?w9qb ?w9qz ?_ ?w9qs; (case w9qN => k_asm); (case w9qm => k_memK); (case w9qa => omega); (case w9qb => assumption); (case w9qz => omega); (case w9qs => with_unfolding_all rfl))))
  k_with "compareOp Eq ref ref" => ((k_dflt (first
  | (refine' eq_TT ?w9qN ?w9qx ?w9qy ?w9q1 ?w9q2 ?w9q3 ?w9q4 ?w9qu ?w9qr ?_; (case w9qN => k_asm); (case w9qx => (repeat (first | exact List.mem_cons_self | assumption | exact List.mem_append_right _ (by assumption) | refine List.mem_cons_of_mem _ ?_))); (case w9qy => exact List.mem_cons_self); (case w9q1 => exact rfl); (case w9q2 => first | exact lit_dot | exact lit_b1 | exact lit_hat | exact lit_da); (case w9q3 => first | assumption | decide); (case w9q4 => decide); (case w9qu => ke_room); (case w9qr => first | exact decide_eq_true rfl | exact decide_eq_false (by decide) | exact decide_eq_false (by assumption) | assumption); (rename News _ _ _ _ => nW9); (replace nW9 := dropN nW9))
  | (refine' eq_L4 ?w9qN ?w9qD ?w9qL ?w9m1 ?w9m2 ?w9m3 ?w9m4 lit_po lit_q lit_ex lit_pc ?w9qS ?w9qs ?w9qk ?w9qu ?w9qr ?_; (case w9qN => k_asm); (case w9qD => (repeat (first | exact List.mem_cons_self | assumption | exact List.mem_append_right _ (by assumption) | refine List.mem_cons_of_mem _ ?_))); (case w9qL => exact List.mem_cons_self); (case w9m4 => exact .tail _ (.head _)); (case w9m3 => exact .tail _ (.tail _ (.head _))); (case w9m2 => exact .tail _ (.tail _ (.tail _ (.head _)))); (case w9m1 => exact .tail _ (.tail _ (.tail _ (.tail _ (.head _))))); (case w9qS => exact SgAt.take _ (by assumption)); (case w9qs => (intro p9W9 h9W9; (repeat (first | exact List.mem_append_left _ h9W9 | refine List.mem_cons_of_mem _ ?_)))); (case w9qk => (intro x9W9 h9W9; exact (‹∀ x : Nat × Bool, x ∈ _ :: _ → x.1 < 1114112›) x9W9 (List.mem_of_mem_take h9W9))); (case w9qu => ke_room); (case w9qr => first | exact not_l4 (by assumption) | exact is_l4 (by omega) | exact not_l4 (by decide)); (rename News _ _ _ _ => nW9); (replace nW9 := dropN6 nW9)))))
  k_with "compareOp NotEq ref ref" => ((k_dflt (refine' ne_TT ?w9qN ?w9qx ?w9qy ?w9q1 lit_pipe ?w9q3 ?w9q4 ?w9qu ?w9qr ?_; (case w9qN => k_asm); (case w9qx => (repeat (first | exact List.mem_cons_self | assumption | exact List.mem_append_right _ (by assumption) | refine List.mem_cons_of_mem _ ?_))); (case w9qy => exact List.mem_cons_self); (case w9q1 => exact rfl); (case w9q3 => first | assumption | decide); (case w9q4 => decide); (case w9qu => ke_room); (case w9qr => exact nd_true (by assumption)); (rename News _ _ _ _ => nW9); (replace nW9 := dropN nW9))))
  k_with "subscriptTail Name Slice ref ref" => ((k_dflt (refine' slice_L (s := ⟨_, _, _, _, _⟩) rfl ?w9qF ?w9qN ?w9qm ?w9q0 ?w9q1 ?w9qz ?_ ?w9qs ?w9qt; (case w9qF => k_asm); (case w9qN => k_asm); (case w9qm => (repeat (first | exact List.mem_cons_self | assumption | exact List.mem_append_right _ (by assumption) | refine List.mem_cons_of_mem _ ?_))); (case w9q0 => omega); (case w9q1 => omega); (case w9qz => omega); (case w9qs => with_unfolding_all rfl); (case w9qt => (intro _; with_unfolding_all rfl))); intro DW9' hW9' FW9' NW9' l1W9; (try k_lt l1W9)))
  k_with "subscriptTail" => (((with_reducible show wpAny _ _ (subscriptTail (PySem.Expr.Name _ _) (PySem.Expr.Constant _ _ _) (Value.ref _) (Value.int 0 _)) _ _ _); k_dflt (refine' tup_0 ?w9qN ?w9qm ?_ ?w9qs ?w9qt; (case w9qN => k_asm); (case w9qm => (repeat (first | exact List.mem_cons_self | assumption | exact List.mem_append_right _ (by assumption) | refine List.mem_cons_of_mem _ ?_))); (case w9qs => with_unfolding_all rfl); (case w9qt => (intro _; with_unfolding_all rfl)))))
  k_with "getMethod ref" => (((with_reducible show wpAny _ _ (getMethod (Value.ref _) (PySem.Str.ofString "index") _) _ _ _); k_dflt (refine' kl_method ?w9qN ?w9qm PySem.F.slot_list_index PySem.F.type_list_index ?_; (case w9qN => k_asm); (case w9qm => (repeat (first | exact List.mem_cons_self | assumption | exact List.mem_append_right _ (by assumption) | refine List.mem_cons_of_mem _ ?_))))))
  k_with "call builtin:list.index" => ((k_dflt (refine' index_sg ?w9qN ?w9qx ?w9qy ?w9qS ?w9qs lit_cl ?w9q1 ?w9q2 ?w9qu ?w9qi ?w9qz ?w9qj ?w9qh ?w9qo ?_; (case w9qN => k_asm); (case w9qx => (repeat (first | exact List.mem_cons_self | assumption | exact List.mem_append_right _ (by assumption) | refine List.mem_cons_of_mem _ ?_))); (case w9qy => exact List.mem_cons_self); (case w9qS => assumption); (case w9qs => (intro p9W9 h9W9; (repeat (first | exact List.mem_append_left _ h9W9 | refine List.mem_cons_of_mem _ ?_)))); (case w9qh => assumption); (case w9qo => assumption); (case w9q1 => assumption); (case w9q2 => decide); (case w9qu => ke_room); (case w9qi => omega); (case w9qz => omega); (case w9qj => omega))))
  k_with "subscriptTail Name BinOp ref int" => ((k_dflt (refine' sub_L ?w9qN ?w9qm ?w9qa ?w9qb ?w9qz ?_ ?w9qs; (case w9qN => k_asm); (case w9qm => (repeat (first | exact List.mem_cons_self | assumption | exact List.mem_append_right _ (by assumption) | refine List.mem_cons_of_mem _ ?_))); (case w9qa => omega); (case w9qb => assumption); (case w9qz => omega); (case w9qs => with_unfolding_all rfl))))
  k_with "eval ListComp" => ((k_dflt (refine LCg.ListComp_U (F₀ := by k_asm) (by with_unfolding_all rfl) (by decide) (by rfl) (by decide) (by rfl) ?_)))
  k_with "exec Assign cons ListComp" => ((refine wpAny_Assign_Name ?_ (by with_unfolding_all rfl)))
  k_with "CompSrc" => ((refine Halt.of ?_))
  k_with "call ref" => (((with_reducible show wpAny _ _ (call (Value.ref 137) _) _ _ _); k_dflt (refine' Spec.use (lawSigns _ _ ?w9hb ?w9hz _ _) ?w9B ?w9F ?w9X ?w9N ?w9T ?w9k ?w9d ?w9u ?_; (case w9hb => assumption); (case w9hz => assumption); (case w9B => k_asm); (case w9F => k_asm); (case w9X => k_asm); (case w9N => k_asm); (case w9T => k_asm); (case w9k => first | exact rfl | assumption); (case w9d => ktr_room); (case w9u => ktr_units)); rotate_right; intro rW9' nwW9' hW9' tkW9' FW9' NW9' hPW9'; obtain ⟨SDW9, vsW9, kSW9, tlW9, hSgW9, hSDW9, hSAW9⟩ := hPW9'; (try dsimp only)))
  k_with "eval Name" => (((with_reducible show wpAny _ _ (eval (PySem.Expr.Name _ _) (compEnvC _ _ _ _)) _ _ _); k_dflt (refine LCgL.ld_own (by k_asm) (by k_memK) (by assumption) (by assumption) ?_)))
  k_with "subscriptTail Name Constant ref int" => ((k_dflt (refine' sub_L ?w9qN ?w9qm ?w9qa ?w9qb ?w9qz ?_ ?w9qs; (case w9qN => k_asm); (case w9qm => (repeat (first | exact List.mem_cons_self | assumption | exact List.mem_append_right _ (by assumption) | refine List.mem_cons_of_mem _ ?_))); (case w9qa => decide); (case w9qb => exact rfl); (case w9qz => decide); (case w9qs => with_unfolding_all rfl))))
  k_with "compareOp Gt str str" => ((k_dflt (refine gt_S (decide_eq_false (by omega)) ?_)))
  k_fill
  intro dp un gd cn cs ac ccd cl outer A₀ base h₀ L m s p loose mean mg mb Q E B F X N T hk hd hu hret
  have e9 : a1.tr ++ a2.tr = sgL (sgP a1 ++ sgP a2) := by rw [sgL_app, sgP_tr, sgP_tr]
  have hz9 : (sgL (sgP a1 ++ sgP a2)).length ≤ 900 := by
    have h1 := tr_len a1
    have h2 := tr_len a2
    rw [← e9, List.length_append]; omega
  have hz8 : (sgL (sgP a1 ++ sgP a2)).length ≤ 500 := by
    have h1 := tr_len a1
    have h2 := tr_len a2
    rw [← e9, List.length_append]; omega
  have hbare : ∀ x ∈ sgP a1 ++ sgP a2, x.2 = true → x.1 ≠ 92 := fun x hx => by
    rcases List.mem_append.mp hx with hx | hx
    · exact sgP_bare a1 ok1 x hx
    · exact sgP_bare a2 ok2 x hx
  unfold trT
  rw [e9]
  refine wpAny_call ?_
  k_dflt (refine' code_defC ?k1 ?k2 ?k3 ?k4 ?k5 ?kA ?kF ?kK ?k6 ?k7 ?k8 ?k9 ?kB ?kD ?_ ?c2 ?c3 ?c4; (case kA => exact rfl); (case kF => exact rfl); (case kK => assumption); (case k1 => k_asm); (case k2 => k_asm); (case k3 => k_asm); (case k4 => k_asm); (case k5 => k_asm); (case k6 => k_is); (case k7 => k_is); (case k8 => ktr_room); (case k9 => exact BindsTo.of_eq rfl); (case kB => exact rfl); (case kD => decide +kernel); (case c2 => exact rfl); (case c3 => exact rfl); (case c4 => exact rfl); k_whole; intro g' L' h' tk' cells' FG' F' N' Y' B' X' T' l1; (try k_lt l1); k_cells Y'; (try simp only [List.cons_append, List.nil_append] at N'); (try dsimp only); (try k_lift B'); (try k_fold))
  have hb : whN = whN := rfl
  conv at hb => rhs; unfold whN; whnf
  rw [← hb]
  k_extra "stp"
  rename Fr _ _ _ _ => F9
  rename News _ _ _ _ => N9
  rename SgAt _ _ _ => hSg
  rename (∀ p : Addr × Obj, p ∈ _ → p.1 ≠ _) => hSD
  rename (∀ p : Addr × Obj, p ∈ _ → ∀ q : Addr × Obj, q ∈ _ → p.1 ≠ q.1) => hSA
  rename (_ < _ ∧ _ < _ ∧ _ < _ ∧ AllLt _ news) => lN
  rename ∀ p ∈ news, p.1 < L' => l0
  rw [hb]
  clear hb
  have dS1 : @Ne Nat (L' + 1) _ := hSD (L' + 1, _) (List.mem_append_right _ (.tail _ (.tail _ (.tail _ (.head _)))))
  have dS2 : @Ne Nat (L' + 1 + 1) _ := hSD (L' + 1 + 1, _) (List.mem_append_right _ (.tail _ (.tail _ (.head _))))
  have dS3 : @Ne Nat (L' + 1 + 1 + 1) _ := hSD (L' + 1 + 1 + 1, _) (List.mem_append_right _ (.tail _ (.head _)))
  have qT1 : ∀ p ∈ _ ++ news, p.1 ≠ L' + 1 := fun p hp => by
    rcases List.mem_append.mp hp with hp | hp
    · exact hSA p hp (L' + 1, _) (.tail _ (.tail _ (.tail _ (.head _))))
    · have := l0 p hp; exact Nat.ne_of_lt (Nat.lt_succ_of_lt this)
  have qT2 : ∀ p ∈ _ ++ news, p.1 ≠ L' + 1 + 1 := fun p hp => by
    rcases List.mem_append.mp hp with hp | hp
    · exact hSA p hp (L' + 1 + 1, _) (.tail _ (.tail _ (.head _)))
    · have := l0 p hp; exact Nat.ne_of_lt (Nat.lt_succ_of_lt (Nat.lt_succ_of_lt this))
  have qT3 : ∀ p ∈ _ ++ news, p.1 ≠ L' + 1 + 1 + 1 := fun p hp => by
    rcases List.mem_append.mp hp with hp | hp
    · exact hSA p hp (L' + 1 + 1 + 1, _) (.tail _ (.head _))
    · have := l0 p hp; exact Nat.ne_of_lt (Nat.lt_succ_of_lt (Nat.lt_succ_of_lt (Nat.lt_succ_of_lt this)))
  have qTS : ∀ p ∈ _ ++ news, p.1 ≠ _ := fun p hp => by
    rcases List.mem_append.mp hp with hp | hp
    · exact hSD p (List.mem_append_left _ hp)
    · exact hSD p (List.mem_append_right _ (.tail _ (.tail _ (.tail _ (.tail _ hp)))))
  refine (let JW9 : Nat → Shared → Prop := fun n s' => ∃ done rest names, [a1, a2] = done ++ rest ∧ n = rest.length ∧ NJ _ _ _ FG s _ _ _ news names (done.flatMap sgP).length s' ∧ names = done.foldl (growN figs) [[]]; While_nx JW9
    (n₀ := 2) ⟨[], [a1, a2], [[]], rfl, rfl, ⟨_, _, _, _, _, _, _, _, _, rfl, F9, perm5n N9, ?_, ?_, ?_, rfl, rfl, ⟨_, rfl⟩, .cons _ _ .nil, lN.1⟩, rfl⟩ ?_)
  · assumption
  · exact ⟨_, by assumption⟩
  · exact ⟨_, by assumption⟩
  clear F9 N9 lN hSD hSA
  rintro n s' ⟨done, rest, names, hps, hn, ⟨h2, tk2, m2, ND, ns, c1, o1, o2, o3, rfl, F9, N9, d1, ⟨v2, d2⟩, ⟨v3, d3⟩, mnames, msigns, ⟨tk9, mk9⟩, hns, hND⟩, hnames⟩
  cases rest with
  | nil =>
    have hil : (done.flatMap sgP).length = (sgP a1 ++ sgP a2).length := by
      rw [List.append_nil] at hps
      rw [← hps]; simp
    have hvl := hSg.length
    have hsz : (sgP a1 ++ sgP a2).length ≤ 500 := Nat.le_trans (sgL_len _) hz8
    k_extra "stp"
    refine hret _ _ _ _ (by k_asm) (cb_drop (by k_asm) fun q hq => ?_) ⟨ND, ns, c1, ?_, fun p hp => ?_⟩
    · rcases List.mem_cons.mp hq with rfl | hq
      · exact .head _
      · exact .tail _ (.tail _ (.tail _ (.tail _ (.tail _ (List.mem_append_right _ hq)))))
    · rw [List.append_nil] at hps
      rw [hnames, ← hps] at hns
      exact hns
    · have h1 := l0 p hp
      have h2 : @LT.lt Nat _ L' ND := Nat.lt_of_le_of_lt (Nat.le_add_right L' 3) hND
      exact Nat.ne_of_lt (Nat.lt_trans h1 h2)
  | cons pl rest =>
    refine namesTurn w rfl ok1 ok2 h4 hlt9 hf hm hz8 (by k_asm) (by k_asm) (by k_asm) hd hu hSg l0 dS1 dS2 dS3 qT1 qT2 qT3 qTS F9 N9 d1 d2 d3 mnames msigns mk9 hns hND hps hnames ?_
    intro s₃ hJ
    exact NextJ.mk (n' := rest.length) (by rw [hn]; exact Nat.lt_succ_self _) ⟨done ++ [pl], rest, _, by rw [hps]; simp, rfl, hJ, by rw [hnames, List.foldl_append]; rfl⟩
end
end Mine
end

section
open PySem PySem.W PyProof.Rows PyProof.Rows.LCg PyProof.Rows.LCt
set_option maxRecDepth 100000
set_option maxHeartbeats 8000000
namespace Mine
noncomputable def scW : Scope := scOfFd (topStmt 25)
/-- the statements of the law -/
@[irreducible] noncomputable def sL (i : Nat) : Stmt := nthS (fdBody (topStmt 25)) i
theorem keep14 {h₀ h : Heap} {L : Addr} {a b c d e : Addr × Obj} {r : List (Addr × Obj)} (N : News h₀ L h (a :: b :: c :: d :: e :: r)) : News h₀ L h (a :: r) := cb_drop N fun q hq => by
  rcases List.mem_cons.mp hq with rfl | hq
  · exact .head _
  · exact .tail _ (.tail _ (.tail _ (.tail _ (.tail _ hq))))
section
variable {h₀ : Heap} {L fa : Addr} {cd : Value} {sc : Scope} {s : Shared} {m : Str → Option Value} {Q : Flow → Shared → Prop} {E : Value → Shared → Prop}
theorem law01 (w : World) (hsc : sc = scW) {SC : Addr} {vals : List Value} {ns : List Int} {o1 o2 o3 o4 o5 o6 u1 u2 u3 : Obj} {p : Program} {loose : List Str} {mean : ExcName → Option Value} {mg mb : Str → Option Value} {r : List Stmt} : ∀ (B : Below callerA h₀ [] h₀) (X : (mk.heap_1 w.params).In h₀) (F : Fr h₀ L s.heap m) (N : News h₀ L s.heap [(L + 1 + 1 + 1 + 1 + 1 + 1, o6), (L + 1 + 1 + 1 + 1 + 1, o5), (L + 1 + 1 + 1 + 1, o4), (L + 1 + 1 + 1, o3), (L + 1 + 1, o2), (L + 1, o1), (106, u1), (61, u2), (54, u3)]) (T : Top p loose mean mg mb h₀) (hl : h₀.IsList SC vals.toArray) (hI : IntsAre vals ns) (hm : m "script" = some (.ref SC)) (hz : ns.length ≤ 63) (hQ : ∀ C cs k s' m', Fr h₀ L s'.heap m' → News h₀ L s'.heap ((C, listOf cs.toArray k) :: [(L + 1 + 1 + 1 + 1 + 1 + 1, o6), (L + 1 + 1 + 1 + 1 + 1, o5), (L + 1 + 1 + 1 + 1, o4), (L + 1 + 1 + 1, o3), (L + 1 + 1, o2), (L + 1, o1), (106, u1), (61, u2), (54, u3)]) → (∀ p ∈ ([(L + 1 + 1 + 1 + 1 + 1 + 1, o6), (L + 1 + 1 + 1 + 1 + 1, o5), (L + 1 + 1 + 1 + 1, o4), (L + 1 + 1 + 1, o3), (L + 1 + 1, o2), (L + 1, o1), (106, u1), (61, u2), (54, u3)] : List (Addr × Obj)), p.1 < C) → IntsAre cs (((ns.take 10).map fun x => x.fmod 2400000) ++ [905, 26, 17, 57, 41, 16].drop (min 10 ns.length)) → m' "cells" = some (.ref C) → s'.os = s.os → s'.gens = s.gens → wpAny (model PySem.Challenge.rw_in0279_01.row.toRowW.prog w) (callerA.deeper (envOfC "law" sc L fa cd)) (execs r (envOfC "law" sc L fa cd)) Q E s'),
    wpAny (model PySem.Challenge.rw_in0279_01.row.toRowW.prog w) (callerA.deeper (envOfC "law" sc L fa cd)) (execs (sL 0 :: sL 1 :: r) (envOfC "law" sc L fa cd)) Q E s := by
  k_with_none
  w_top off
  k_with "om" => (first | decide | (with_reducible first | (refine neN ?_; first | (refine Nat.ne_of_lt ?_; first | ((repeat (first | assumption | exact om_k1 | refine Nat.lt_succ_of_lt ?_)); done) | (apply And.left; (iterate 18 (first | done | assumption | apply And.right)); done)) | (refine Nat.ne_of_gt ?_; first | ((repeat (first | assumption | exact om_k1 | refine Nat.lt_succ_of_lt ?_)); done) | (apply And.left; (iterate 18 (first | done | assumption | apply And.right)); done)) | (refine Ne.symm ?_; assumption) | (refine om_s ?_; omega)) | exact om_le (by assumption) rfl | exact om_ll (by assumption) rfl | exact om_lt (by assumption) rfl | exact om_lg (by assumption) rfl | exact om_r1 (by assumption) rfl | exact om_r2 (by assumption) rfl | exact om_r3 (by assumption) rfl | exact om_il (by assumption) rfl | exact om_ig (by assumption) rfl | exact om_tn (by assumption) rfl | exact om_tl (by assumption) rfl | exact om_nc (by assumption) rfl | exact Int.natCast_nonneg _ | exact Int.le_of_lt (by assumption)) | (law_clear; lia))
  k_with "execs cons" => ((first | (k_here; k_gentoks) | (refine wpAny_execs_cons ?_; k_fold; (try k_extra "mlet"))))
  k_with "stp" => (repeat' (first | (k_unfold; (try dsimp only)) | (k_end; wrow_close) | (walk1; (all_goals (try dsimp only))) | (dsimp only; walk1) | (leave1; walk_say "STEP leave1"; try dsimp only) | fail "no step"))
  k_with "spliced" => (k_dflt (first | ((with_reducible show wpAny _ _ (spliced (backTo _ (starEach [_] _))) _ _ _); refine sp1 ?_) | ((with_reducible show wpAny _ _ (spliced (backTo _ (starEach [_, _] _))) _ _ _); refine sp2 ?_) | ((with_reducible show wpAny _ _ (spliced (backTo _ (starEach [_, _, _] _))) _ _ _); refine sp3 ?_)))
  k_with "eval Name" => ((k_dflt (refine' ldE ?w9q1 ?w9q2 ?_ ?w9q3 ?w9q4 ?w9q5 ?w9q6; (case w9q1 => k_asm); (case w9q2 => first | with_reducible assumption | exact rfl | assumption); (case w9q3 => exact rfl); (case w9q4 => exact rfl); (case w9q5 => exact rfl); (case w9q6 => decide); k_whole)))
  k_with "call builtin:len" => (((with_reducible show wpAny _ _ (call (Value.builtin "len") [Value.ref _]) _ _ _); k_dflt (refine' len_L ?w9qN ?w9qm ?w9qz ?_; (case w9qN => k_asm); (case w9qm => k_memK); (case w9qz => (simp only [List.length_map, List.length_take] at *; omega))); intro tW9' kW9'))
  k_with "subscriptTail Name Slice ref ref" => (((with_reducible show wpAny _ _ (subscriptTail _ (PySem.Expr.Slice (some _) none none _) _ _) _ _ _); k_dflt (refine' slice_from (s := ⟨_, _, _, _, _⟩) ?w9qF ?w9qN ?w9qm ?w9q0 ?w9qz ?_ ?w9qs ?w9qt; (case w9qF => k_asm); (case w9qN => k_asm); (case w9qm => k_memK); (case w9q0 => omega); (case w9qz => (simp only [List.length_cons, List.length_nil]; omega)); (case w9qs => with_unfolding_all rfl); (case w9qt => (intro _; with_unfolding_all rfl))); intro DW9' hW9' FW9' NW9' l1W9; (try k_lt l1W9)))
  k_with "binaryOp Add ref ref" => ((k_dflt (refine' add_LL ?w9qF ?w9qN ?w9qa ?w9qb ?w9qz ?w9qy ?_; (case w9qF => k_asm); (case w9qN => k_asm); (case w9qa => k_memK); (case w9qb => k_memK); (case w9qz => (simp only [List.length_map, List.length_take] at *; omega)); (case w9qy => (simp only [List.length_drop, List.length_cons, List.length_nil]; omega))); intro DW9' hW9' FW9' NW9' l1W9; (try k_lt l1W9)))
  k_fill
  intro B X F N T hl hI hm hz hQ
  conv at hsc => rhs; whnf
  subst hsc
  have hb : sL 0 = sL 0 := rfl
  conv at hb => rhs; unfold sL; whnf
  have hc : sL 1 = sL 1 := rfl
  conv at hc => rhs; unfold sL; whnf
  rw [hb, hc]
  clear hb hc
  k_extra "stp"
  have hI9 := ‹IntsAre ys _›
  have hl9 := ‹ys.length = (List.map _ _).length›
  rw [List.length_map, List.length_take] at hl9
  rename (_ < _ ∧ _ < _ ∧ _ < _ ∧ _ < _ ∧ _ < _ ∧ _ < _ ∧ _ < _ ∧ _ < _ ∧ _ < _ ∧ _ < _ ∧ _ < _ ∧ _ < _ ∧ _ < _) => l9
  rename News _ _ _ _ => N9
  refine hQ _ _ _ _ _ (by k_asm) (keep14 N9) ?_ ?_ rfl rfl rfl
  · simp only [List.forall_mem_cons, List.not_mem_nil, false_implies, implies_true, and_true]
    exact l9.2.2.2.2
  · rw [Int.toNat_natCast, hl9]
    exact IntsAre.append hI9 (IntsAre.drop (.cons 905 _ (.cons 26 _ (.cons 17 _ (.cons 57 _ (.cons 41 _ (.cons 16 _ .nil)))))) _)
end
end Mine
end

section
open PySem PySem.W PyProof.Rows PyProof.Rows.LCg PyProof.Rows.LCt
set_option maxRecDepth 100000
set_option maxHeartbeats 8000000
namespace Mine
theorem news_sub {h₀ h : Heap} {L : Addr} {l l' : List (Addr × Obj)} (N : News h₀ L h l) (hs : l'.Sublist l) : News h₀ L h l' := cb_drop N fun _ hq => hs.subset hq

section
variable {h₀ : Heap} {L fa : Addr} {cd : Value} {sc : Scope} {s : Shared} {m : Str → Option Value} {Q : Flow → Shared → Prop} {E : Value → Shared → Prop}
theorem law25 (w : World) (hsc : sc = scW) {C : Addr} {cs : List Value} {kc : Nat} {c0 c1 : Int} {t0 t1 : Tok} {o1 o2 o3 o4 o5 o6 u1 u2 u3 : Obj} {p : Program} {loose : List Str} {mean : ExcName → Option Value} {mg mb : Str → Option Value} {r : List Stmt} : ∀ (B : Below callerA h₀ [] h₀) (X : (mk.heap_1 w.params).In h₀) (F : Fr h₀ L s.heap m) (N : News h₀ L s.heap [(C, listOf (.int c0 t0 :: .int c1 t1 :: cs).toArray kc), (L + 1 + 1 + 1 + 1 + 1 + 1, o6), (L + 1 + 1 + 1 + 1 + 1, o5), (L + 1 + 1 + 1 + 1, o4), (L + 1 + 1 + 1, o3), (L + 1 + 1, o2), (L + 1, o1), (106, u1), (61, u2), (54, u3)]) (T : Top p loose mean mg mb h₀) (hm : m "cells" = some (.ref C)) (d1 : o1.data = .cell none) (d2 : o2.data = .cell none) (d3 : o3.data = .cell none) (d4 : o4.data = .cell none) (hl : ∀ p ∈ ([(L + 1 + 1 + 1 + 1 + 1 + 1, o6), (L + 1 + 1 + 1 + 1 + 1, o5), (L + 1 + 1 + 1 + 1, o4), (L + 1 + 1 + 1, o3), (L + 1 + 1, o2), (L + 1, o1), (106, u1), (61, u2), (54, u3)] : List (Addr × Obj)), p.1 < C) (h148 : 148 ≤ L) (hQ : ∀ (BG SM B0 B1 S0 S1 FG : Addr) (fs : List Value) (p1 p2 p3 p4 : Obj) (tw ts tp : Tok) s' m', Fr h₀ L s'.heap m' → News h₀ L s'.heap [(SM, listOf #[.ref S0, .ref S1] 0), (S1, listOf #[] 0), (S0, listOf #[] 0), (BG, listOf #[.ref B0, .ref B1] 0), (B1, listOf #[] 0), (B0, listOf #[] 0), (FG, lst fs), (C, listOf (.int c0 t0 :: .int c1 t1 :: cs).toArray kc), (L + 1 + 1 + 1 + 1 + 1 + 1, o6), (L + 1 + 1 + 1 + 1 + 1, o5), (L + 1 + 1 + 1 + 1, p4), (L + 1 + 1 + 1, p3), (L + 1 + 1, p2), (L + 1, p1), (106, u1), (61, u2), (54, u3)] →
      p1.data = .cell (some (.int (97 + c1.fmod 50000) ts)) → p2.data = .cell (some (.int (2 ^ (5 + c0.fmod 1200).toNat) tp)) → p3.data = .cell (some (.ref FG)) → p4.data = .cell (some (.ref BG)) →
      (C ≠ FG ∧ C < B0 ∧ FG < B0 ∧ B0 < B1 ∧ B1 < BG ∧ BG < S0 ∧ S0 < S1 ∧ S1 < SM) → StrsAre fs ((figN (97 + c1.fmod 50000).toNat).map fun f => S [f]) →
      m' "cells" = some (.ref C) → m' "width" = some (.int (5 + c0.fmod 1200) tw) → m' "sums" = some (.ref SM) → s'.os = s.os → s'.gens = s.gens →
      wpAny (model PySem.Challenge.rw_in0279_01.row.toRowW.prog w) (callerA.deeper (envOfC "law" sc L fa cd)) (execs r (envOfC "law" sc L fa cd)) Q E s'),
    wpAny (model PySem.Challenge.rw_in0279_01.row.toRowW.prog w) (callerA.deeper (envOfC "law" sc L fa cd)) (execs (sL 2 :: sL 3 :: sL 4 :: sL 5 :: r) (envOfC "law" sc L fa cd)) Q E s := by
  k_with_none
  w_top off
  k_with "om" => (first | decide | (with_reducible first | (refine neN ?_; first | (refine Nat.ne_of_lt ?_; first | ((repeat (first | assumption | exact om_k1 | refine Nat.lt_succ_of_lt ?_)); done) | (apply And.left; (iterate 18 (first | done | assumption | apply And.right)); done)) | (refine Nat.ne_of_gt ?_; first | ((repeat (first | assumption | exact om_k1 | refine Nat.lt_succ_of_lt ?_)); done) | (apply And.left; (iterate 18 (first | done | assumption | apply And.right)); done)) | (refine Ne.symm ?_; assumption) | (refine om_s ?_; omega)) | exact om_le (by assumption) rfl | exact om_ll (by assumption) rfl | exact om_lt (by assumption) rfl | exact om_lg (by assumption) rfl | exact om_r1 (by assumption) rfl | exact om_r2 (by assumption) rfl | exact om_r3 (by assumption) rfl | exact om_il (by assumption) rfl | exact om_ig (by assumption) rfl | exact om_tn (by assumption) rfl | exact om_tl (by assumption) rfl | exact om_nc (by assumption) rfl | exact Int.natCast_nonneg _ | exact Int.le_of_lt (by assumption)) | (law_clear; lia))
  k_with "execs cons" => ((first | (k_here; k_gentoks) | (refine wpAny_execs_cons ?_; k_fold; (try k_extra "mlet"))))
  k_with "stp" => (repeat' (first | (k_unfold; (try dsimp only)) | (k_end; wrow_close) | (walk1; (all_goals (try dsimp only))) | (dsimp only; walk1) | (leave1; walk_say "STEP leave1"; try dsimp only) | fail "no step"))
  k_with "spliced" => (k_dflt (first | ((with_reducible show wpAny _ _ (spliced (backTo _ (starEach [_] _))) _ _ _); refine sp1 ?_) | ((with_reducible show wpAny _ _ (spliced (backTo _ (starEach [_, _] _))) _ _ _); refine sp2 ?_) | ((with_reducible show wpAny _ _ (spliced (backTo _ (starEach [_, _, _] _))) _ _ _); refine sp3 ?_)))
  k_with "eval Name" => ((k_dflt (refine' ldE ?w9q1 ?w9q2 ?_ ?w9q3 ?w9q4 ?w9q5 ?w9q6; (case w9q1 => k_asm); (case w9q2 => first | with_reducible assumption | exact rfl | assumption); (case w9q3 => exact rfl); (case w9q4 => exact rfl); (case w9q5 => exact rfl); (case w9q6 => decide); k_whole)))
  k_with "subscriptTail Name Constant ref int" => ((k_dflt (refine' sub_L ?w9qN ?w9qm ?w9qa ?w9qb ?w9qz ?_ ?w9qs; (case w9qN => k_asm); (case w9qm => k_memK); (case w9qa => decide); (case w9qb => exact rfl); (case w9qz => decide); (case w9qs => with_unfolding_all rfl))))
  k_with "exec Assign cons ListComp" => ((refine wpAny_Assign_Name ?_ (by with_unfolding_all rfl)))
  k_with "eval ListComp" => ((k_dflt (refine LCg.ListComp_U (F₀ := by k_asm) (by with_unfolding_all rfl) (by decide) (by rfl) (by decide) (by rfl) ?_)))
  k_with "CompSrc" => ((k_dflt (refine LCg.CompSrc.range (by rfl) (by k_asm) (by k_asm) (by assumption) (by first | decide | rfl) (by first | rfl | decide) (by first | decide | exact Nat.le_of_ble_eq_true rfl) ?_); intro gW9'; refine Halt.of ?_))
  k_with "eval Name" => (((with_reducible show wpAny _ _ (eval (PySem.Expr.Name _ _) (compEnvC _ _ _ _)) _ _ _); k_dflt (first
  | (refine LCgL.ld_own (by k_asm) (by k_memK) (by assumption) (by assumption) ?_)
  | (refine' lcf_cell ?w9N ?w9c ?w9m ?w9d ?_ ?w9a ?w9b; (case w9a => rfl); (case w9b => rfl); (case w9N => k_asm); (case w9c => rfl); (case w9m => (first | assumption | k_memK)); (case w9d => k_asm); k_whole)
  | (refine' lcf_free ?w9N ?w9c ?w9m ?w9d ?_ ?w9a ?w9b; (case w9a => rfl); (case w9b => rfl); (case w9N => k_asm); (case w9c => rfl); (case w9m => (first | assumption | k_memK)); (case w9d => k_asm); k_whole))))
  k_fill
  intro B X F N T hm d1 d2 d3 d4 hl h148 hQ
  have hb : sc = sc := rfl
  conv at hsc => rhs; whnf
  subst hsc
  have hb : sL 2 = sL 2 := rfl
  conv at hb => rhs; unfold sL; whnf
  rw [hb]
  have hb : sL 3 = sL 3 := rfl
  conv at hb => rhs; unfold sL; whnf
  rw [hb]
  have hb : sL 4 = sL 4 := rfl
  conv at hb => rhs; unfold sL; whnf
  rw [hb]
  have hb : sL 5 = sL 5 := rfl
  conv at hb => rhs; unfold sL; whnf
  rw [hb]
  clear hb
  simp only [List.forall_mem_cons, List.not_mem_nil, false_implies, implies_true, and_true] at hl
  have b1 : @LT.lt Nat _ (L + 1 + 1 + 1 + 1 + 1 + 1) C := hl.1
  have b2 : @LT.lt Nat _ 106 (L + 1) := Nat.lt_of_lt_of_le (by decide) (Nat.le_succ_of_le h148)
  k_extra "stp"
  have e1 := Int.fmod_eq_emod_of_nonneg c1 (b := 50000) (by decide)
  refine Halt.to ?_
  refine restV (M := 4) (V := fun i y => ∃ t, y = .str (S [(97 + c1.fmod 50000).toNat + i]) t) trivial ?_ _ _ _ (by decide) ?_
  · rintro i v I oI C oC D ys m2 h2 tk2 E' Q' hi4 ⟨t9, rfl⟩ hN hm F9 N9 hret9
    (try dsimp only)
    k_extra "stp"
    exact hret9 _ _ _ ⟨_, by rw [show (97 + c1.fmod 50000 + (0 + (i : Int))).toNat = (97 + c1.fmod 50000).toNat + i by omega]⟩ F9 N9
  · intro ys' hys D9 h9 tk9 F9 N9 o9
    (try dsimp only)
    simp only [LCg.Off1, and_true] at o9
    k_extra "stp"
    rename News _ _ _ _ => N8
    rename (_ < _ ∧ _ < _ ∧ _) => q
    clear q
    rename (_ < _ ∧ _ < _ ∧ _) => q
    have k7 := q.1
    clear q
    rename (_ < _ ∧ _ < _ ∧ _) => q
    have k6 := q.1
    clear q
    rename (_ < _ ∧ _ < _ ∧ _) => q
    have k5 := q.1
    clear q
    rename (_ < _ ∧ _ < _ ∧ _) => q
    have k4 := q.1
    clear q
    rename (_ < _ ∧ _ < _ ∧ _) => q
    have k3 := q.1
    clear q
    rename (_ < _ ∧ _ < _ ∧ _) => q
    have k2 := q.1
    have k1 := q.2.2.1
    clear q
    refine hQ _ _ _ _ _ _ _ _ _ _ _ _ _ _ _ _ _ (by k_asm) (news_sub N8 (.cons _ (.cons_cons _ (.cons_cons _ (.cons_cons _ (.cons_cons _ (.cons_cons _ (.cons_cons _ (.cons_cons _ (.cons _ (List.Sublist.refl _)))))))))))
      (by assumption) (by assumption) (by assumption) (by assumption) ⟨o9.2.1, k1, k2, k3, k4, k5, k6, k7⟩ ?_ (by first | exact rfl | assumption) (by first | exact rfl | assumption) (by first | exact rfl | assumption) rfl rfl
    exact VAll.strs hys
end
end Mine
end

section
open PySem PySem.W PyProof.Rows PyProof.Rows.LCg PyProof.Rows.LCt
set_option maxRecDepth 100000
set_option maxHeartbeats 8000000
namespace Mine
noncomputable def forBody : Stmt → List Stmt
  | .For _ _ b _ _ => b
  | _ => []
@[irreducible] noncomputable def fL (j : Nat) : Stmt := nthS (forBody (nthS (fdBody (topStmt 25)) 6)) j
theorem ldC {M : Model} {A : Around} {E : Value → Shared → Prop} {s : Shared} {h₀ : Heap} {L K : Addr} {news : List (Addr × Obj)} {o : Obj} {env : Env} {x : Str} {pos : Pos} {v : Value} {Q : Value → Shared → Prop} (N : News h₀ L s.heap news) (hm : (K, o) ∈ news) (hd : o.data = .cell (some v)) (h : Q v s) (hc : env.cells.lookup x = some K) (hk : env.scope.kind = .function) (hl : env.kindOf x = some .cell) (hb : (x == ("__debug__" : Str)) = false) :
    wpAny M A (eval (.Name x pos) env) Q E s := wpAny_Name (wpAny_loadName_cell hk hl hc ⟨o, N.get hm, hd⟩ h) hb
section
variable {h₀ : Heap} {L fa : Addr} {cd : Value} {sc : Scope} {s : Shared} {m : Str → Option Value} {Q : Flow → Shared → Prop} {E : Value → Shared → Prop}
theorem turnA (w : World) (hsc : sc = scW) {C K1 : Addr} {cs : List Value} {kc : Nat} {kk ca cb st : Int} {ta tb tk ts : Tok} {o1 : Obj} {news : List (Addr × Obj)} {p : Program} {loose : List Str} {mean : ExcName → Option Value} {mg mb : Str → Option Value} {r : List Stmt} : ∀ (hK : K1 = L + 1) (B : Below callerA h₀ [] h₀) (X : (mk.heap_1 w.params).In h₀) (F : Fr h₀ L s.heap m) (N : News h₀ L s.heap news) (T : Top p loose mean mg mb h₀) (hm : m "cells" = some (.ref C)) (hk : m "k" = some (.int kk tk)) (hC : (C, listOf cs.toArray kc) ∈ news) (c1 : (K1, o1) ∈ news) (d1 : o1.data = .cell (some (.int st ts))) (h0 : 0 ≤ kk) (h10 : kk ≤ 100) (ea : cs[kk.toNat]? = some (.int ca ta)) (eb : cs[(kk + 1).toNat]? = some (.int cb tb)) (hca : 0 ≤ ca) (hcb : 0 ≤ cb) (hs : 97 ≤ st) (hs2 : st ≤ 60000) (hQ : ∀ (D1 D2 : Addr) (v1 v2 : List Value) (k1 k2 : Nat) (t1 t2 : Tok) s' m', Fr h₀ L s'.heap m' → News h₀ L s'.heap ((D2, listOf v2.toArray k2) :: (D1, listOf v1.toArray k1) :: news) → IntsAre v1 (heldOf ca) → IntsAre v2 (heldOf cb) →
      m' "upper" = some (.str (S (plOf ca st).pat) t1) → m' "lower" = some (.str (S (plOf cb st).pat) t2) → m' "above" = some (.ref D1) → m' "below" = some (.ref D2) → (∀ x, x ≠ Str.ofString "upper" → x ≠ Str.ofString "lower" → x ≠ Str.ofString "above" → x ≠ Str.ofString "below" → m' x = m x) → (∀ p ∈ news, p.1 ≠ D1) → (∀ p ∈ news, p.1 ≠ D2) → s'.os = s.os → s'.gens = s.gens →
      wpAny (model PySem.Challenge.rw_in0279_01.row.toRowW.prog w) (callerA.deeper (envOfC "law" sc L fa cd)) (execs r (envOfC "law" sc L fa cd)) Q E s'),
    wpAny (model PySem.Challenge.rw_in0279_01.row.toRowW.prog w) (callerA.deeper (envOfC "law" sc L fa cd)) (execs (fL 0 :: fL 1 :: r) (envOfC "law" sc L fa cd)) Q E s := by
  k_with_none
  w_top off
  k_with "om" => (first | decide | (with_reducible first | (refine neN ?_; first | (refine Nat.ne_of_lt ?_; first | ((repeat (first | assumption | exact om_k1 | refine Nat.lt_succ_of_lt ?_)); done) | (apply And.left; (iterate 18 (first | done | assumption | apply And.right)); done)) | (refine Nat.ne_of_gt ?_; first | ((repeat (first | assumption | exact om_k1 | refine Nat.lt_succ_of_lt ?_)); done) | (apply And.left; (iterate 18 (first | done | assumption | apply And.right)); done)) | (refine Ne.symm ?_; assumption) | (refine om_s ?_; omega)) | exact om_le (by assumption) rfl | exact om_ll (by assumption) rfl | exact om_lt (by assumption) rfl | exact om_lg (by assumption) rfl | exact om_r1 (by assumption) rfl | exact om_r2 (by assumption) rfl | exact om_r3 (by assumption) rfl | exact om_il (by assumption) rfl | exact om_ig (by assumption) rfl | exact om_tn (by assumption) rfl | exact om_tl (by assumption) rfl | exact om_nc (by assumption) rfl | exact Int.natCast_nonneg _ | exact Int.le_of_lt (by assumption)) | (law_clear; lia))
  k_with "execs cons" => ((first | (k_here; k_gentoks) | (refine wpAny_execs_cons ?_; k_fold; (try k_extra "mlet"))))
  k_with "stp" => (repeat' (first | (k_unfold; (try dsimp only)) | (k_end; wrow_close) | (walk1; (all_goals (try dsimp only))) | (dsimp only; walk1) | (leave1; walk_say "STEP leave1"; try dsimp only) | fail "no step"))
  k_with "spliced" => (k_dflt (first | ((with_reducible show wpAny _ _ (spliced (backTo _ (starEach [_] _))) _ _ _); refine sp1 ?_) | ((with_reducible show wpAny _ _ (spliced (backTo _ (starEach [_, _] _))) _ _ _); refine sp2 ?_) | ((with_reducible show wpAny _ _ (spliced (backTo _ (starEach [_, _, _] _))) _ _ _); refine sp3 ?_)))
  k_with "eval Name" => ((k_dflt (first
  | (refine' ldE ?w9q1 ?w9q2 ?_ ?w9q3 ?w9q4 ?w9q5 ?w9q6; (case w9q1 => k_asm); (case w9q2 => first | with_reducible assumption | exact rfl | assumption); (case w9q3 => exact rfl); (case w9q4 => exact rfl); (case w9q5 => exact rfl); (case w9q6 => decide); k_whole)
  | (refine' ldC ?w9q1 ?w9q2 ?w9q3 ?_ ?w9q4 ?w9q5 ?w9q6 ?w9q7; (case w9q4 => exact rfl); (case w9q5 => exact rfl); (case w9q6 => exact rfl); (case w9q7 => decide); (case w9q1 => k_asm); (case w9q2 => (repeat (first | exact List.mem_cons_self | assumption | exact List.mem_append_right _ (by assumption) | refine List.mem_cons_of_mem _ ?_))); (case w9q3 => assumption); k_whole))))
  k_with "subscriptTail Name" => ((k_dflt (refine' sub_L ?w9qN ?w9qm ?w9qa ?w9qb ?w9qz ?_ ?w9qs; (case w9qN => k_asm); (case w9qm => (repeat (first | exact List.mem_cons_self | assumption | exact List.mem_append_right _ (by assumption) | refine List.mem_cons_of_mem _ ?_))); (case w9qa => omega); (case w9qb => assumption); (case w9qz => omega); (case w9qs => with_unfolding_all rfl))))
  k_with "call ref" => (((with_reducible show wpAny _ _ (call (Value.ref 123) _) _ _ _); k_dflt (refine' Spec.use (lawPlace _ _ _ _ _ _ ?w9hb ?w9hz ?w9hy) ?w9B ?w9F ?w9X ?w9N ?w9T ?w9k ?w9d ?w9u ?_; (case w9hb => assumption); (case w9hz => assumption); (case w9hy => assumption); (case w9B => k_asm); (case w9F => k_asm); (case w9X => k_asm); (case w9N => k_asm); (case w9T => k_asm); (case w9k => first | exact rfl | assumption); (case w9d => ktr_room); (case w9u => ktr_units)); intro rW9' nwW9' hW9' tkW9' FW9' NW9' hPW9'; obtain ⟨xW9', tW9', DW9', vsW9', kW9', ptW9', hptW9', hIW9', hDW9'⟩ := hPW9'; subst hptW9'; (try dsimp only)))
  k_fill
  intro hK B X F N T hm hk hC c1 d1 h0 h10 ea eb hca hcb hs hs2 hQ
  subst hK
  conv at hsc => rhs; whnf
  subst hsc
  have hb : fL 0 = fL 0 := rfl
  conv at hb => rhs; unfold fL; whnf
  rw [hb]
  have hb : fL 1 = fL 1 := rfl
  conv at hb => rhs; unfold fL; whnf
  rw [hb]
  clear hb
  k_extra "stp"
  rename News _ _ _ _ => N9
  refine hQ _ _ _ _ _ _ _ _ _ _ (by k_asm) (news_sub N9 (.cons _ (.cons_cons _ (.cons _ (.cons_cons _ (List.Sublist.refl _)))))) (by assumption) (by assumption) rfl rfl rfl rfl (fun x e1 e2 e3 e4 => ?_) (by assumption) (fun p hp => by have := ‹∀ p ∈ _ :: _ :: news, p.1 ≠ _› p (.tail _ (.tail _ hp)); exact this) rfl rfl
  show (if _ then _ else _) = _
  rw [if_neg e4, if_neg e2, if_neg e3, if_neg e1]
end
end Mine
end

section
open PySem PySem.W PyProof.Rows PyProof.Rows.LCg PyProof.Rows.LCt
set_option maxRecDepth 100000
set_option maxHeartbeats 8000000
namespace Mine
theorem ne_data {h₀ h : Heap} {L a b : Addr} {o o' : Obj} {news : List (Addr × Obj)} (N : News h₀ L h news) (ha : (a, o) ∈ news) (hb : (b, o') ∈ news) (he : o.data ≠ o'.data) : a ≠ b := by
  intro e
  subst e
  have h1 := (N _ ha).1
  have h2 := (N _ hb).1
  rw [h1] at h2
  injection h2 with h2
  exact he (congrArg Obj.data h2)
theorem T2.nolist {tl : List (Addr × Obj)} (hT : T2 tl) : ∀ q ∈ tl, ∀ a n, q.2.data ≠ .seq a n := by
  intro q hq a n h
  cases hT with
  | fresh =>
    simp only [List.mem_singleton] at hq
    subst hq; cases h
  | made h1 h2 h3 =>
    simp only [List.mem_cons, List.not_mem_nil, or_false] at hq
    rcases hq with rfl | rfl
    · cases h
    · rw [h1] at h; cases h
section
variable {prog : Program} {w : World} {A : Around} {E : Value → Shared → Prop} {s : Shared} {h₀ : Heap} {L D D' : Addr} {m : Str → Option Value} {tl rest : List (Addr × Obj)} {Q : Value → Shared → Prop} {vs ws : List Value} {n n' : Nat}
theorem ext_P (F : Fr h₀ L s.heap m) (N : News h₀ L s.heap ((D', listOf ws.toArray n') :: (tl ++ ((D, listOf vs.toArray n) :: rest)))) (hT : T2 tl) (hr : ∀ p ∈ rest, p.1 ≠ D) (hD : ∀ p ∈ tl ++ ((D, listOf vs.toArray n) :: rest), p.1 ≠ D') (hz : vs.length ≤ 1000) (hz' : ws.length ≤ 1000)
    (h : ∀ h' k, Fr h₀ L h' m → News h₀ L h' ((D, listOf (vs ++ ws).toArray k) :: (tl ++ rest)) → Q .none { s with heap := h' }) :
    wpAny (model prog w) A (call (.builtin "list.extend") [.ref D, .ref D']) Q E s := by
  have hd := hD (D, listOf vs.toArray n) (List.mem_append_right _ (.head _))
  refine ext_L (n := n) (vs := vs) (news := (D', listOf ws.toArray n') :: (tl ++ rest)) F (cb_drop N fun q hq => ?_) (.head _) (fun p hp => ?_) hz hz' fun h' k F' N' => h h' k F' (cb_drop N' fun q hq => ?_)
  · rcases List.mem_cons.mp hq with rfl | hq
    · exact .tail _ (List.mem_append_right _ (.head _))
    · rcases List.mem_cons.mp hq with rfl | hq
      · exact .head _
      · rcases List.mem_append.mp hq with hq | hq
        · exact .tail _ (List.mem_append_left _ hq)
        · exact .tail _ (List.mem_append_right _ (.tail _ hq))
  · rcases List.mem_cons.mp hp with rfl | hp
    · exact Ne.symm hd
    · rcases List.mem_append.mp hp with hp | hp
      · exact ne_data N (.tail _ (List.mem_append_left _ hp)) (.tail _ (List.mem_append_right _ (.head _))) (hT.nolist p hp _ _)
      · exact hr p hp
  · rcases List.mem_cons.mp hq with rfl | hq
    · exact .head _
    · exact .tail _ (.tail _ hq)
end
theorem pl_pat_len (a : Pl) : a.pat.length ≤ 10 := by
  cases a with
  | sign c => simp [Pl.pat]
  | any => simp [Pl.pat]
  | rng n a b => cases n <;> simp [Pl.pat, negL]
section
variable {h₀ : Heap} {L fa : Addr} {cd : Value} {sc : Scope} {s : Shared} {m : Str → Option Value} {Q : Flow → Shared → Prop} {E : Value → Shared → Prop}
theorem turnB (w : World) (hsc : sc = scW) {Bx B0 B1 BG FG K3 K4 : Addr} {a1 a2 : Pl} {bx fs : List Value} {jx kf kb : Nat} {kk : Int} {tk t1 t2 : Tok} {o3 o4 : Obj} {figs : List Nat} {tl rest : List (Addr × Obj)} {p : Program} {loose : List Str} {mean : ExcName → Option Value} {mg mb : Str → Option Value} {r : List Stmt} : ∀ (hK3 : K3 = L + 1 + 1 + 1) (hK4 : K4 = L + 1 + 1 + 1 + 1) (B : Below callerA h₀ [] h₀) (X : (mk.heap_1 w.params).In h₀) (F : Fr h₀ L s.heap m) (N : News h₀ L s.heap (tl ++ ((Bx, listOf bx.toArray jx) :: rest))) (T : Top p loose mean mg mb h₀) (hg : AllBare s.gens) (hT2 : T2 tl) (h106 : ∀ q ∈ (Bx, listOf bx.toArray jx) :: rest, q.1 ≠ 106) (hr : ∀ q ∈ rest, q.1 ≠ Bx) (hBG : (BG, listOf [.ref B0, .ref B1].toArray kb) ∈ (Bx, listOf bx.toArray jx) :: rest) (c3 : (K3, o3) ∈ (Bx, listOf bx.toArray jx) :: rest) (c4 : (K4, o4) ∈ (Bx, listOf bx.toArray jx) :: rest) (hFG : (FG, listOf fs.toArray kf) ∈ (Bx, listOf bx.toArray jx) :: rest) (d3 : o3.data = .cell (some (.ref FG))) (d4 : o4.data = .cell (some (.ref BG))) (hu : m "upper" = some (.str (S a1.pat) t1)) (hl : m "lower" = some (.str (S a2.pat) t2)) (hk : m "k" = some (.int kk tk)) (ex : [Value.ref B0, .ref B1][((kk.fdiv 2).fmod 2).toNat]? = some (.ref Bx)) (i0 : 0 ≤ (kk.fdiv 2).fmod 2) (i1 : (kk.fdiv 2).fmod 2 ≤ 1) (hzb : bx.length ≤ 900) (ok1 : a1.ok) (ok2 : a2.ok) (h4 : figs.length ≤ 4) (hlt9 : ∀ x ∈ sgP a1 ++ sgP a2, x.1 < 1114112) (hf : StrsAre fs (figs.map fun f => S [f])) (hz16 : (growN figs (growN figs [[]] a1) a2).length ≤ 16) (hQ : ∀ (vs : List Value) (j : Nat) (tl' : List (Addr × Obj)) s', Fr h₀ L s'.heap m → News h₀ L s'.heap ((Bx, listOf (bx ++ vs).toArray j) :: (tl' ++ rest)) → T2 tl' → StrsAre vs ((growN figs (growN figs [[]] a1) a2).map S) → s'.os = s.os → AllBare s'.gens →
      wpAny (model PySem.Challenge.rw_in0279_01.row.toRowW.prog w) (callerA.deeper (envOfC "law" sc L fa cd)) (execs r (envOfC "law" sc L fa cd)) Q E s'),
    wpAny (model PySem.Challenge.rw_in0279_01.row.toRowW.prog w) (callerA.deeper (envOfC "law" sc L fa cd)) (execs (fL 2 :: r) (envOfC "law" sc L fa cd)) Q E s := by
  k_with_none
  w_top off
  k_with "om" => (first | decide | (with_reducible first | (refine neN ?_; first | (refine Nat.ne_of_lt ?_; first | ((repeat (first | assumption | exact om_k1 | refine Nat.lt_succ_of_lt ?_)); done) | (apply And.left; (iterate 18 (first | done | assumption | apply And.right)); done)) | (refine Nat.ne_of_gt ?_; first | ((repeat (first | assumption | exact om_k1 | refine Nat.lt_succ_of_lt ?_)); done) | (apply And.left; (iterate 18 (first | done | assumption | apply And.right)); done)) | (refine Ne.symm ?_; assumption) | (refine om_s ?_; omega)) | exact om_le (by assumption) rfl | exact om_ll (by assumption) rfl | exact om_lt (by assumption) rfl | exact om_lg (by assumption) rfl | exact om_r1 (by assumption) rfl | exact om_r2 (by assumption) rfl | exact om_r3 (by assumption) rfl | exact om_il (by assumption) rfl | exact om_ig (by assumption) rfl | exact om_tn (by assumption) rfl | exact om_tl (by assumption) rfl | exact om_nc (by assumption) rfl | exact Int.natCast_nonneg _ | exact Int.le_of_lt (by assumption)) | (law_clear; lia))
  k_with "execs cons" => ((first | (k_here; k_gentoks) | (refine wpAny_execs_cons ?_; k_fold; (try k_extra "mlet"))))
  k_with "stp" => (repeat' (first | (k_unfold; (try dsimp only)) | (k_end; wrow_close) | (walk1; (all_goals (try dsimp only))) | (dsimp only; walk1) | (leave1; walk_say "STEP leave1"; try dsimp only) | fail "no step"))
  k_with "spliced" => (k_dflt (first | ((with_reducible show wpAny _ _ (spliced (backTo _ (starEach [_] _))) _ _ _); refine sp1 ?_) | ((with_reducible show wpAny _ _ (spliced (backTo _ (starEach [_, _] _))) _ _ _); refine sp2 ?_) | ((with_reducible show wpAny _ _ (spliced (backTo _ (starEach [_, _, _] _))) _ _ _); refine sp3 ?_)))
  k_with "eval Name" => ((k_dflt (first
  | (refine' ldE ?w9q1 ?w9q2 ?_ ?w9q3 ?w9q4 ?w9q5 ?w9q6; (case w9q1 => k_asm); (case w9q2 => first | with_reducible assumption | exact rfl | assumption); (case w9q3 => exact rfl); (case w9q4 => exact rfl); (case w9q5 => exact rfl); (case w9q6 => decide); k_whole)
  | (refine' ldC ?w9q1 ?w9q2 ?w9q3 ?_ ?w9q4 ?w9q5 ?w9q6 ?w9q7; (case w9q4 => exact rfl); (case w9q5 => exact rfl); (case w9q6 => exact rfl); (case w9q7 => decide); (case w9q1 => k_asm); (case w9q2 => (repeat (first | exact List.mem_cons_self | assumption | exact List.mem_append_right _ (by assumption) | refine List.mem_cons_of_mem _ ?_))); (case w9q3 => assumption); k_whole))))
  k_with "subscriptTail Name" => ((k_dflt (refine' sub_L ?w9qN ?w9qm ?w9qa ?w9qb ?w9qz ?_ ?w9qs; (case w9qN => k_asm); (case w9qm => (repeat (first | exact List.mem_cons_self | assumption | exact List.mem_append_right _ (by assumption) | refine List.mem_cons_of_mem _ ?_))); (case w9qa => omega); (case w9qb => assumption); (case w9qz => omega); (case w9qs => with_unfolding_all rfl))))
  k_with "getMethod ref" => (((with_reducible show wpAny _ _ (getMethod (Value.ref _) (PySem.Str.ofString "extend") _) _ _ _); k_dflt (refine' kl_method ?w9qN ?w9qm PySem.F.slot_list_extend PySem.F.type_list_extend ?_; (case w9qN => k_asm); (case w9qm => (repeat (first | exact List.mem_cons_self | assumption | exact List.mem_append_right _ (by assumption) | refine List.mem_cons_of_mem _ ?_))))))
  k_with "binaryOp Add str str" => ((k_dflt (refine add_S rfl rfl (by omega) (by omega) ?_); intro tW9' kW9'))
  k_with "call ref" => ((k_dflt (first
  | ((with_reducible show wpAny _ _ (call (Value.ref 92) _) _ _ _); (refine' SpecG.use (translate2 _ _ _ ?w9h1 ?w9h2 _ _ _ ?w9h3 ?w9h4) ?w9B ?w9F ?w9X ?w9N ?w9T ?w9k ?w9d ?w9u ?w9g ?_; (case w9h1 => assumption); (case w9h2 => assumption); (case w9B => k_asm); (case w9F => k_asm); (case w9X => k_asm); (case w9N => k_asm); (case w9T => k_asm); (case w9h3 => assumption); (case w9h4 => assumption); (case w9k => first | exact rfl | assumption); (case w9d => ktr_room); (case w9u => ktr_units); (case w9g => assumption)); intro rW9' nwW9' sW9' FW9' NW9' hPW9' hosW9' hgW9'; obtain ⟨tW9', tlW9', hrW9', hnW9', hTW9'⟩ := hPW9'; subst hrW9' hnW9'; (try dsimp only))
  | ((with_reducible show wpAny _ _ (call (Value.ref 142) _) _ _ _); (refine' Spec.use (lawNames _ _ _ _ _ _ _ _ _ ?w9h1 ?w9h2 ?w9h3 ?w9h4 ?w9h5 ?w9h6) ?w9B ?w9F ?w9X ?w9N ?w9T ?w9k ?w9d ?w9u ?_; (case w9h1 => assumption); (case w9h2 => assumption); (case w9B => k_asm); (case w9F => k_asm); (case w9X => k_asm); (case w9N => k_asm); (case w9T => k_asm); (case w9h5 => assumption); (case w9h6 => (repeat (first | exact List.mem_cons_self | assumption | exact List.mem_append_right _ (by assumption) | refine List.mem_cons_of_mem _ ?_))); (case w9h3 => assumption); (case w9h4 => assumption); (case w9k => first | exact rfl | assumption); (case w9d => ktr_room); (case w9u => ktr_units)); intro rW9' nwW9' hW9' tkW9' FW9' NW9' hPW9'; obtain ⟨DW9', vsW9', kW9', hSW9', hDW9'⟩ := hPW9'; (try dsimp only)))))
  k_with "call builtin:list.extend" => ((k_dflt (refine' ext_P ?w9q1 ?w9q2 ?w9q3 ?w9q4 ?w9q5 ?w9q6 ?w9q7 ?_; (case w9q1 => k_asm); (case w9q2 => k_asm); (case w9q3 => assumption); (case w9q4 => assumption); (case w9q5 => assumption); (case w9q6 => omega); (case w9q7 => (have h9W9 := StrsAre.length ‹StrsAre _ (List.map S _)›; rw [List.length_map] at h9W9; omega))); intro hW9' kW9' FW9' NW9'))
  k_fill
  intro hK3 hK4 B X F N T hg hT2 h106 hr hBG c3 c4 hFG d3 d4 hu hl hk ex i0 i1 hzb ok1 ok2 h4 hlt9 hf hz16 hQ
  have p1 := pl_pat_len a1
  have p2 := pl_pat_len a2
  subst hK3 hK4
  conv at hsc => rhs; whnf
  subst hsc
  have hb : fL 2 = fL 2 := rfl
  conv at hb => rhs; unfold fL; whnf
  rw [hb]
  clear hb
  k_extra "stp"
  exact hQ _ _ _ _ (by k_asm) (by k_asm) (by assumption) (by assumption) (by assumption) (by assumption)
end
end Mine
end

section
open PySem PySem.W PyProof.Rows PyProof.Rows.LCg PyProof.Rows.LCt
set_option maxRecDepth 100000
set_option maxHeartbeats 8000000
namespace Mine
section
variable {h₀ : Heap} {L fa : Addr} {cd : Value} {sc : Scope} {s : Shared} {m : Str → Option Value} {Q : Flow → Shared → Prop} {E : Value → Shared → Prop}
theorem turnC (w : World) (hsc : sc = scW) {Sx S0 S1 SM D1 D2 K2 : Addr} {zx v1 v2 : List Value} {n1 n2 : List Int} {jx k1 k2 ks : Nat} {kk P : Int} {tk tp : Tok} {o2 : Obj} {rest : List (Addr × Obj)} {p : Program} {loose : List Str} {mean : ExcName → Option Value} {mg mb : Str → Option Value} {r : List Stmt} : ∀ (hK2 : K2 = L + 1 + 1) (B : Below callerA h₀ [] h₀) (X : (mk.heap_1 w.params).In h₀) (F : Fr h₀ L s.heap m) (N : News h₀ L s.heap ((Sx, listOf zx.toArray jx) :: rest)) (T : Top p loose mean mg mb h₀) (hr : ∀ q ∈ rest, q.1 ≠ Sx) (hSM : (SM, listOf [.ref S0, .ref S1].toArray ks) ∈ (Sx, listOf zx.toArray jx) :: rest) (c2 : (K2, o2) ∈ (Sx, listOf zx.toArray jx) :: rest) (hD1 : (D1, listOf v1.toArray k1) ∈ (Sx, listOf zx.toArray jx) :: rest) (hD2 : (D2, listOf v2.toArray k2) ∈ (Sx, listOf zx.toArray jx) :: rest) (d2 : o2.data = .cell (some (.int P tp))) (i1 : IntsAre v1 n1) (i2 : IntsAre v2 n2) (hsm : m "sums" = some (.ref SM)) (hab : m "above" = some (.ref D1)) (hbe : m "below" = some (.ref D2)) (hk : m "k" = some (.int kk tk)) (ex : [Value.ref S0, .ref S1][((kk.fdiv 2).fmod 2).toNat]? = some (.ref Sx)) (i0 : 0 ≤ (kk.fdiv 2).fmod 2) (i9 : (kk.fdiv 2).fmod 2 ≤ 1) (hz : zx.length ≤ 900) (hM : IntMulOk (cornW n1 (P ^ (4 : Int).toNat) 5) (cornW n2 P 5)) (hp : Builtin.Int.intBits P ≤ 6000) (hp4 : Builtin.Int.intBits (P ^ (4 : Int).toNat) ≤ 6000) (hQ : ∀ (j : Nat) (t : Tok) s', Fr h₀ L s'.heap m → News h₀ L s'.heap ((Sx, listOf (zx ++ [Value.int (cornW n1 (P ^ (4 : Int).toNat) 5 * cornW n2 P 5) t]).toArray j) :: rest) → s'.os = s.os → s'.gens = s.gens →
      wpAny (model PySem.Challenge.rw_in0279_01.row.toRowW.prog w) (callerA.deeper (envOfC "law" sc L fa cd)) (execs r (envOfC "law" sc L fa cd)) Q E s'),
    wpAny (model PySem.Challenge.rw_in0279_01.row.toRowW.prog w) (callerA.deeper (envOfC "law" sc L fa cd)) (execs (fL 3 :: r) (envOfC "law" sc L fa cd)) Q E s := by
  k_with_none
  w_top off
  k_with "om" => (first | decide | (with_reducible first | (refine neN ?_; first | (refine Nat.ne_of_lt ?_; first | ((repeat (first | assumption | exact om_k1 | refine Nat.lt_succ_of_lt ?_)); done) | (apply And.left; (iterate 18 (first | done | assumption | apply And.right)); done)) | (refine Nat.ne_of_gt ?_; first | ((repeat (first | assumption | exact om_k1 | refine Nat.lt_succ_of_lt ?_)); done) | (apply And.left; (iterate 18 (first | done | assumption | apply And.right)); done)) | (refine Ne.symm ?_; assumption) | (refine om_s ?_; omega)) | exact om_le (by assumption) rfl | exact om_ll (by assumption) rfl | exact om_lt (by assumption) rfl | exact om_lg (by assumption) rfl | exact om_r1 (by assumption) rfl | exact om_r2 (by assumption) rfl | exact om_r3 (by assumption) rfl | exact om_il (by assumption) rfl | exact om_ig (by assumption) rfl | exact om_tn (by assumption) rfl | exact om_tl (by assumption) rfl | exact om_nc (by assumption) rfl | exact Int.natCast_nonneg _ | exact Int.le_of_lt (by assumption)) | (law_clear; lia))
  k_with "execs cons" => ((first | (k_here; k_gentoks) | (refine wpAny_execs_cons ?_; k_fold; (try k_extra "mlet"))))
  k_with "stp" => (repeat' (first | (k_unfold; (try dsimp only)) | (k_end; wrow_close) | (walk1; (all_goals (try dsimp only))) | (dsimp only; walk1) | (leave1; walk_say "STEP leave1"; try dsimp only) | fail "no step"))
  k_with "spliced" => (k_dflt (first | ((with_reducible show wpAny _ _ (spliced (backTo _ (starEach [_] _))) _ _ _); refine sp1 ?_) | ((with_reducible show wpAny _ _ (spliced (backTo _ (starEach [_, _] _))) _ _ _); refine sp2 ?_) | ((with_reducible show wpAny _ _ (spliced (backTo _ (starEach [_, _, _] _))) _ _ _); refine sp3 ?_)))
  k_with "eval Name" => ((k_dflt (first
  | (refine' ldE ?w9q1 ?w9q2 ?_ ?w9q3 ?w9q4 ?w9q5 ?w9q6; (case w9q1 => k_asm); (case w9q2 => first | with_reducible assumption | exact rfl | assumption); (case w9q3 => exact rfl); (case w9q4 => exact rfl); (case w9q5 => exact rfl); (case w9q6 => decide); k_whole)
  | (refine' ldC ?w9q1 ?w9q2 ?w9q3 ?_ ?w9q4 ?w9q5 ?w9q6 ?w9q7; (case w9q4 => exact rfl); (case w9q5 => exact rfl); (case w9q6 => exact rfl); (case w9q7 => decide); (case w9q1 => k_asm); (case w9q2 => (repeat (first | exact List.mem_cons_self | assumption | exact List.mem_append_right _ (by assumption) | refine List.mem_cons_of_mem _ ?_))); (case w9q3 => assumption); k_whole))))
  k_with "subscriptTail Name" => ((k_dflt (refine' sub_L ?w9qN ?w9qm ?w9qa ?w9qb ?w9qz ?_ ?w9qs; (case w9qN => k_asm); (case w9qm => (repeat (first | exact List.mem_cons_self | assumption | exact List.mem_append_right _ (by assumption) | refine List.mem_cons_of_mem _ ?_))); (case w9qa => omega); (case w9qb => assumption); (case w9qz => omega); (case w9qs => with_unfolding_all rfl))))
  k_with "getMethod ref" => (((with_reducible show wpAny _ _ (getMethod (Value.ref _) (PySem.Str.ofString "append") _) _ _ _); k_dflt (refine' kl_method ?w9qN ?w9qm PySem.F.slot_list_append PySem.F.type_list_append ?_; (case w9qN => k_asm); (case w9qm => (repeat (first | exact List.mem_cons_self | assumption | exact List.mem_append_right _ (by assumption) | refine List.mem_cons_of_mem _ ?_))))))
  k_with "binaryOp Pow int int" => ((k_dflt (refine pow_big (by omega) (by omega) (by assumption) ?_)))
  k_with "call ref" => (((with_reducible show wpAny _ _ (call (Value.ref 130) _) _ _ _); k_dflt (refine' Spec.use (lawCorners _ _ _ _ _ _ _ _ ?w9h1 ?w9h2 ?w9h3) ?w9B ?w9F ?w9X ?w9N ?w9T ?w9k ?w9d ?w9u ?_; (case w9h2 => (repeat (first | exact List.mem_cons_self | assumption | exact List.mem_append_right _ (by assumption) | refine List.mem_cons_of_mem _ ?_))); (case w9h1 => assumption); (case w9B => k_asm); (case w9F => k_asm); (case w9X => k_asm); (case w9N => k_asm); (case w9T => k_asm); (case w9h3 => assumption); (case w9k => first | exact rfl | assumption); (case w9d => ktr_room); (case w9u => ktr_units)); intro rW9' nwW9' hW9' tkW9' FW9' NW9' hPW9'; obtain ⟨tW9'⟩ := hPW9'; (try dsimp only)))
  k_with "call builtin:list.append" => ((k_dflt (refine' app_H ?w9q1 ?w9q2 ?w9q3 ?w9q4 ?_; (case w9q1 => k_asm); (case w9q2 => k_asm); (case w9q3 => assumption); (case w9q4 => (unfold sizeLine; omega))); intro hW9' FW9' NW9'))
  k_with "binaryOp Mult int int" => ((refine mul_int ?_ (by assumption)))
  k_fill
  intro hK2 B X F N T hr hSM c2 hD1 hD2 d2 i1 i2 hsm hab hbe hk ex i0 i9 hz hM hp hp4 hQ
  subst hK2
  conv at hsc => rhs; whnf
  subst hsc
  have hb : fL 3 = fL 3 := rfl
  conv at hb => rhs; unfold fL; whnf
  rw [hb]
  clear hb
  k_extra "stp"
  exact hQ _ _ _ (by k_asm) (by k_asm) rfl rfl
end
end Mine
end

section
open PySem PySem.W PyProof.Rows PyProof.Rows.LCg PyProof.Rows.LCt
set_option maxRecDepth 100000
set_option maxHeartbeats 8000000
namespace Mine
theorem T2.tab {tl : List (Addr × Obj)} (hT : T2 tl) : ∃ ps, (106, tabObj ps) ∈ tl := by cases hT <;> exact ⟨_, .head _⟩

section
variable {h₀ h : Heap} {L : Addr} {a b i x y z u : Addr × Obj} {tl fx : List (Addr × Obj)}
theorem permA (N : News h₀ L h (a :: b :: i :: (tl ++ (x :: y :: z :: u :: fx)))) : News h₀ L h (tl ++ (x :: a :: b :: i :: y :: z :: u :: fx)) := cb_drop N (s_app (fun _ h => .tail _ (.tail _ (.tail _ (List.mem_append_left _ h)))) (s_cons (.tail _ (.tail _ (.tail _ (List.mem_append_right _ (mi 0 rfl))))) (s_cons (mi 0 rfl) (s_cons (mi 1 rfl) (s_cons (mi 2 rfl) fun _ h => .tail _ (.tail _ (.tail _ (List.mem_append_right _ (.tail _ h)))))))))

theorem permB (N : News h₀ L h (x :: (tl ++ (a :: b :: i :: y :: z :: u :: fx)))) : News h₀ L h (z :: (x :: (tl ++ (a :: b :: i :: y :: u :: fx)))) := cb_drop N fun q hq => by
  simp only [List.mem_append, List.mem_cons] at hq ⊢
  grind
theorem permC (N : News h₀ L h (z :: (x :: (tl ++ (a :: b :: i :: y :: u :: fx))))) : News h₀ L h (i :: (tl ++ (x :: y :: z :: u :: fx))) := cb_drop N fun q hq => by
  simp only [List.mem_append, List.mem_cons] at hq ⊢
  grind
end
theorem sg_lt (c : Int) {st : Nat} (hs : st ≤ 60000) : ∀ x ∈ sgP (plOf c st), x.1 < 1114112 := by
  have hl := c_lo c
  have hh := c_hi c
  intro x hx
  unfold plOf at hx
  split at hx
  · simp only [sgP, List.mem_singleton] at hx
    subst hx; dsimp only; omega
  · split at hx
    · simp only [sgP, List.mem_singleton] at hx
      subst hx; decide
    · generalize decide (cKi c ≠ 2) = n at hx
      simp only [sgP] at hx
      split at hx
      · cases n
        · simp only [Bool.false_eq_true, if_false, List.nil_append, List.mem_cons, List.not_mem_nil, or_false] at hx
          rcases hx with rfl | rfl | rfl | rfl | rfl <;> dsimp only <;> omega
        · simp only [if_true, List.cons_append, List.nil_append, List.mem_cons, List.not_mem_nil, or_false] at hx
          rcases hx with rfl | rfl | rfl | rfl | rfl | rfl <;> dsimp only <;> omega
      · cases n
        · simp only [Bool.false_eq_true, if_false, List.mem_cons, List.not_mem_nil, or_false] at hx
          rcases hx with rfl | rfl | rfl | rfl <;> decide
        · simp only [if_true, List.mem_cons, List.not_mem_nil, or_false] at hx
          subst hx; decide
theorem figs_len (s : Nat) : (figN s).length ≤ 4 := Nat.le_refl 4

section
variable {h₀ : Heap} {L fa : Addr} {cd : Value} {sc : Scope} {s : Shared} {m : Str → Option Value} {Q : Flow → Shared → Prop} {E : Value → Shared → Prop}
theorem lawTurn (w : World) (hsc : sc = scW) {C FG BG SM B0 B1 S0 S1 Bx By Sx Sy I : Addr} {cs fs bx bv zx zv : List Value} {kc kf kb ks jx jy kx ky st : Nat} {kk ca cb P : Int} {ta tb tk ts tp : Tok} {o1 o2 o3 o4 oI : Obj} {tl fx : List (Addr × Obj)} {p : Program} {loose : List Str} {mean : ExcName → Option Value} {mg mb : Str → Option Value}
    (B : Below callerA h₀ [] h₀) (X : (mk.heap_1 w.params).In h₀) (F : Fr h₀ L s.heap m) (N : News h₀ L s.heap ((I, oI) :: (tl ++ ((Bx, listOf bx.toArray jx) :: (By, listOf bv.toArray jy) :: (Sx, listOf zx.toArray kx) :: (Sy, listOf zv.toArray ky) :: fx)))) (T : Top p loose mean mg mb h₀) (hg : AllBare s.gens) (hT2 : T2 tl)
    (hI : ∀ q ∈ tl ++ ((Bx, listOf bx.toArray jx) :: (By, listOf bv.toArray jy) :: (Sx, listOf zx.toArray kx) :: (Sy, listOf zv.toArray ky) :: fx), q.1 ≠ I)
    (e1 : By ≠ Bx) (e2 : Sx ≠ Bx) (e3 : Sy ≠ Bx) (e4 : By ≠ Sx) (e5 : Sy ≠ Sx) (f1 : ∀ q ∈ fx, q.1 ≠ Bx) (f2 : ∀ q ∈ fx, q.1 ≠ Sx) (f3 : ∀ q ∈ fx, q.1 ≠ 106)
    (hC : (C, listOf cs.toArray kc) ∈ fx) (hFG : (FG, listOf fs.toArray kf) ∈ fx) (hBG : (BG, listOf [.ref B0, .ref B1].toArray kb) ∈ fx) (hSM : (SM, listOf [.ref S0, .ref S1].toArray ks) ∈ fx) (c1 : (L + 1, o1) ∈ fx) (c2 : (L + 1 + 1, o2) ∈ fx) (c3 : (L + 1 + 1 + 1, o3) ∈ fx) (c4 : (L + 1 + 1 + 1 + 1, o4) ∈ fx)
    (d1 : o1.data = .cell (some (.int (st : Int) ts))) (d2 : o2.data = .cell (some (.int P tp))) (d3 : o3.data = .cell (some (.ref FG))) (d4 : o4.data = .cell (some (.ref BG)))
    (hm : m "cells" = some (.ref C)) (hk : m "k" = some (.int kk tk)) (hsm : m "sums" = some (.ref SM)) (h0 : 0 ≤ kk) (h10 : kk ≤ 100) (ea : cs[kk.toNat]? = some (.int ca ta)) (eb : cs[(kk + 1).toNat]? = some (.int cb tb)) (hca : 0 ≤ ca) (hcb : 0 ≤ cb) (hs : 97 ≤ st) (hs2 : st ≤ 60000)
    (exB : [Value.ref B0, .ref B1][((kk.fdiv 2).fmod 2).toNat]? = some (.ref Bx)) (exS : [Value.ref S0, .ref S1][((kk.fdiv 2).fmod 2).toNat]? = some (.ref Sx)) (i0 : 0 ≤ (kk.fdiv 2).fmod 2) (i9 : (kk.fdiv 2).fmod 2 ≤ 1) (hzb : bx.length ≤ 900) (hzz : zx.length ≤ 900) (hf : StrsAre fs ((figN st).map fun f => S [f]))
    (hM : IntMulOk (cornW (heldOf ca) (P ^ (4 : Int).toNat) 5) (cornW (heldOf cb) P 5)) (hp : Builtin.Int.intBits P ≤ 6000) (hp4 : Builtin.Int.intBits (P ^ (4 : Int).toNat) ≤ 6000)
    (hQ : ∀ (vs : List Value) (j k : Nat) (t : Tok) (tl' : List (Addr × Obj)) s' m', Fr h₀ L s'.heap m' → News h₀ L s'.heap ((I, oI) :: (tl' ++ ((Bx, listOf (bx ++ vs).toArray j) :: (By, listOf bv.toArray jy) :: (Sx, listOf (zx ++ [Value.int (cornW (heldOf ca) (P ^ (4 : Int).toNat) 5 * cornW (heldOf cb) P 5) t]).toArray k) :: (Sy, listOf zv.toArray ky) :: fx))) → T2 tl' → StrsAre vs (rowN st (plOf ca st) (plOf cb st)) →
      (∀ x, x ≠ Str.ofString "upper" → x ≠ Str.ofString "lower" → x ≠ Str.ofString "above" → x ≠ Str.ofString "below" → m' x = m x) → s'.os = s.os → AllBare s'.gens → Q .next s') :
    wpAny (model PySem.Challenge.rw_in0279_01.row.toRowW.prog w) (callerA.deeper (envOfC "law" sc L fa cd)) (execs [fL 0, fL 1, fL 2, fL 3] (envOfC "law" sc L fa cd)) Q E s := by
  have up : ∀ q ∈ fx, q ∈ (I, oI) :: (tl ++ ((Bx, listOf bx.toArray jx) :: (By, listOf bv.toArray jy) :: (Sx, listOf zx.toArray kx) :: (Sy, listOf zv.toArray ky) :: fx)) := fun q hq => .tail _ (List.mem_append_right _ (.tail _ (.tail _ (.tail _ (.tail _ hq)))))
  refine turnA w hsc rfl B X F N T hm hk (up _ hC) (up _ c1) d1 h0 h10 ea eb hca hcb (by omega) (by omega) ?_
  intro D1 D2 v1 v2 k1 k2 t1 t2 s2 m2 F2 N2 i1 i2 u1 u2 a1 a2 same g1 g2 os2 gs2
  obtain ⟨ps, hps⟩ := hT2.tab
  have n106 : ∀ q ∈ (Bx, listOf bx.toArray jx) :: (D2, listOf v2.toArray k2) :: (D1, listOf v1.toArray k1) :: (I, oI) :: (By, listOf bv.toArray jy) :: (Sx, listOf zx.toArray kx) :: (Sy, listOf zv.toArray ky) :: fx, q.1 ≠ 106 := by
    have hp : (106, tabObj ps) ∈ (D2, listOf v2.toArray k2) :: (D1, listOf v1.toArray k1) :: (I, oI) :: (tl ++ ((Bx, listOf bx.toArray jx) :: (By, listOf bv.toArray jy) :: (Sx, listOf zx.toArray kx) :: (Sy, listOf zv.toArray ky) :: fx)) := .tail _ (.tail _ (.tail _ (List.mem_append_left _ hps)))
    intro q hq
    rcases List.mem_cons.mp hq with rfl | hq
    · exact ne_data N2 (.tail _ (.tail _ (.tail _ (List.mem_append_right _ (.head _))))) hp (fun h => nomatch h)
    rcases List.mem_cons.mp hq with rfl | hq
    · exact ne_data N2 (.head _) hp (fun h => nomatch h)
    rcases List.mem_cons.mp hq with rfl | hq
    · exact ne_data N2 (.tail _ (.head _)) hp (fun h => nomatch h)
    rcases List.mem_cons.mp hq with rfl | hq
    · exact Ne.symm (hI _ (List.mem_append_left _ hps))
    rcases List.mem_cons.mp hq with rfl | hq
    · exact ne_data N2 (.tail _ (.tail _ (.tail _ (List.mem_append_right _ (.tail _ (.head _)))))) hp (fun h => nomatch h)
    rcases List.mem_cons.mp hq with rfl | hq
    · exact ne_data N2 (.tail _ (.tail _ (.tail _ (List.mem_append_right _ (.tail _ (.tail _ (.head _))))))) hp (fun h => nomatch h)
    rcases List.mem_cons.mp hq with rfl | hq
    · exact ne_data N2 (.tail _ (.tail _ (.tail _ (List.mem_append_right _ (.tail _ (.tail _ (.tail _ (.head _)))))))) hp (fun h => nomatch h)
    exact f3 q hq
  have hBxI := hI (Bx, listOf bx.toArray jx) (List.mem_append_right _ (.head _))
  have hSxI := hI (Sx, listOf zx.toArray kx) (List.mem_append_right _ (.tail _ (.tail _ (.head _))))
  have hBxD1 := g1 (Bx, listOf bx.toArray jx) (.tail _ (List.mem_append_right _ (.head _)))
  have hBxD2 := g2 (Bx, listOf bx.toArray jx) (.tail _ (List.mem_append_right _ (.head _)))
  have hSxD1 := g1 (Sx, listOf zx.toArray kx) (.tail _ (List.mem_append_right _ (.tail _ (.tail _ (.head _)))))
  have hSxD2 := g2 (Sx, listOf zx.toArray kx) (.tail _ (List.mem_append_right _ (.tail _ (.tail _ (.head _)))))
  have nBx : ∀ q ∈ (D2, listOf v2.toArray k2) :: (D1, listOf v1.toArray k1) :: (I, oI) :: (By, listOf bv.toArray jy) :: (Sx, listOf zx.toArray kx) :: (Sy, listOf zv.toArray ky) :: fx, q.1 ≠ Bx := by
    simp only [List.forall_mem_cons]
    exact ⟨Ne.symm hBxD2, Ne.symm hBxD1, Ne.symm hBxI, e1, e2, e3, f1⟩
  have up2 : ∀ q ∈ fx, q ∈ (Bx, listOf bx.toArray jx) :: (D2, listOf v2.toArray k2) :: (D1, listOf v1.toArray k1) :: (I, oI) :: (By, listOf bv.toArray jy) :: (Sx, listOf zx.toArray kx) :: (Sy, listOf zv.toArray ky) :: fx := fun q hq => .tail _ (.tail _ (.tail _ (.tail _ (.tail _ (.tail _ (.tail _ hq))))))
  refine turnB w hsc rfl rfl B X F2 (permA N2) T (by rw [gs2]; exact hg) hT2 n106 nBx (up2 _ hBG) (up2 _ c3) (up2 _ c4) (up2 _ hFG) d3 d4 u1 u2 (by rw [same _ (by decide) (by decide) (by decide) (by decide)]; exact hk) exB i0 i9 hzb (plOf_ok ca hs) (plOf_ok cb hs) (figs_len st)
    (fun x hx => by rcases List.mem_append.mp hx with hx | hx; exact sg_lt ca hs2 x hx; exact sg_lt cb hs2 x hx) hf (by have := row_len (s := st) (a1 := plOf ca st) (a2 := plOf cb st); unfold rowN at this; rwa [List.length_map] at this) ?_
  intro vs j tl' s3 F3 N4 hT' hS os3 g3
  have nSx : ∀ q ∈ (Bx, listOf (bx ++ vs).toArray j) :: (tl' ++ ((D2, listOf v2.toArray k2) :: (D1, listOf v1.toArray k1) :: (I, oI) :: (By, listOf bv.toArray jy) :: (Sy, listOf zv.toArray ky) :: fx)), q.1 ≠ Sx := by
    intro q hq
    rcases List.mem_cons.mp hq with rfl | hq
    · exact Ne.symm e2
    · rcases List.mem_append.mp hq with hq | hq
      · exact ne_data N4 (.tail _ (List.mem_append_left _ hq)) (.tail _ (List.mem_append_right _ (.tail _ (.tail _ (.tail _ (.tail _ (.head _))))))) (hT'.nolist q hq _ _)
      · have : ∀ q ∈ (D2, listOf v2.toArray k2) :: (D1, listOf v1.toArray k1) :: (I, oI) :: (By, listOf bv.toArray jy) :: (Sy, listOf zv.toArray ky) :: fx, q.1 ≠ Sx := by
          simp only [List.forall_mem_cons]
          exact ⟨Ne.symm hSxD2, Ne.symm hSxD1, Ne.symm hSxI, e4, e5, f2⟩
        exact this q hq
  have up3 : ∀ q ∈ (D2, listOf v2.toArray k2) :: (D1, listOf v1.toArray k1) :: (I, oI) :: (By, listOf bv.toArray jy) :: (Sy, listOf zv.toArray ky) :: fx, q ∈ (Sx, listOf zx.toArray kx) :: (Bx, listOf (bx ++ vs).toArray j) :: (tl' ++ ((D2, listOf v2.toArray k2) :: (D1, listOf v1.toArray k1) :: (I, oI) :: (By, listOf bv.toArray jy) :: (Sy, listOf zv.toArray ky) :: fx)) := fun q hq => .tail _ (.tail _ (List.mem_append_right _ hq))
  have up4 : ∀ q ∈ fx, q ∈ (D2, listOf v2.toArray k2) :: (D1, listOf v1.toArray k1) :: (I, oI) :: (By, listOf bv.toArray jy) :: (Sy, listOf zv.toArray ky) :: fx := fun q hq => .tail _ (.tail _ (.tail _ (.tail _ (.tail _ hq))))
  refine turnC w hsc rfl B X F3 (permB N4) T nSx (up3 _ (up4 _ hSM)) (up3 _ (up4 _ c2)) (up3 _ (.tail _ (.head _))) (up3 _ (.head _)) d2 i1 i2 (by rw [same _ (by decide) (by decide) (by decide) (by decide)]; exact hsm) a1 a2 (by rw [same _ (by decide) (by decide) (by decide) (by decide)]; exact hk) exS i0 i9 hzz hM hp hp4 ?_
  intro j2 t s4 F4 N6 os4 g4
  exact wpAny_execs_nil (hQ vs j j2 t tl' s4 m2 F4 (permC N6) hT' hS same (by rw [os4, os3, os2]) (by rw [g4]; exact g3))
end
end Mine
end

section
open PySem PySem.W PyProof.Rows PyProof.Rows.LCg PyProof.Rows.LCt
set_option maxRecDepth 100000
set_option maxHeartbeats 8000000
namespace Mine
theorem ints_at {vs : List Value} {ns : List Int} (h : IntsAre vs ns) : ∀ {i : Nat} (hi : i < ns.length), ∃ t, vs[i]? = some (.int ns[i] t) := by
  induction h with
  | nil => intro i hi; cases hi
  | cons x t h ih =>
    intro i hi
    cases i with
    | zero => exact ⟨t, rfl⟩
    | succ i => exact ih (by simpa using hi)
structure BagInv (st : Nat) (P : Int) (i : Nat) (g0 g1 : List Str) (n0 n1 : List Int) : Prop where
  m0 : ∀ x ∈ g0, x ∈ namesN st
  m1 : ∀ x ∈ g1, x ∈ namesN st
  cnt : ∀ x, g0.count x + g1.count x ≤ i
  l0 : g0.length ≤ 16 * i
  l1 : g1.length ≤ 16 * i
  s0 : n0.sum = divi P * wei (namesN st) P g0
  s1 : n1.sum = divi P * wei (namesN st) P g1
  q0 : n0.length ≤ i
  q1 : n1.length ≤ i
theorem BagInv.start {st : Nat} {P : Int} : BagInv st P 0 [] [] [] [] := ⟨fun _ h => (nomatch h), fun _ h => (nomatch h), fun _ => Nat.le_refl _, Nat.le_refl _, Nat.le_refl _, by simp [wei], by simp [wei], Nat.le_refl _, Nat.le_refl _⟩

theorem BagInv.swap {st : Nat} {P : Int} {i : Nat} {g0 g1 : List Str} {n0 n1 : List Int} (h : BagInv st P i g0 g1 n0 n1) : BagInv st P i g1 g0 n1 n0 := ⟨h.m1, h.m0, fun x => by rw [Nat.add_comm]; exact h.cnt x, h.l1, h.l0, h.s1, h.s0, h.q1, h.q0⟩

theorem BagInv.step {st : Nat} {P : Int} {i : Nat} {g0 g1 : List Str} {n0 n1 : List Int} (h : BagInv st P i g0 g1 n0 n1) (c d : Int) :
    BagInv st P (i + 1) (g0 ++ rowN st (plOf c st) (plOf d st)) g1 (n0 ++ [cornW (heldOf c) (P ^ (4 : Int).toNat) 5 * cornW (heldOf d) P 5]) n1 := by
  have e : P ^ (4 : Int).toNat = P ^ 4 := rfl
  refine ⟨fun x hx => ?_, h.m1, fun x => ?_, ?_, by have := h.l1; omega, ?_, h.s1, ?_, by have := h.q1; omega⟩
  · rcases List.mem_append.mp hx with hx | hx
    · exact h.m0 x hx
    · exact row_mem x hx
  · have h1 := h.cnt x
    have h2 := row_cnt (s := st) (a1 := plOf c st) (a2 := plOf d st) x
    rw [List.count_append]; omega
  · have h1 := h.l0
    have h2 := row_len (s := st) (a1 := plOf c st) (a2 := plOf d st)
    rw [List.length_append]; omega
  · rw [List.sum_append, h.s0, wei_app, e, List.sum_cons, List.sum_nil, row_corn, Int.mul_add, Int.add_zero]
  · have := h.q0
    rw [List.length_append, List.length_cons, List.length_nil]; omega
inductive LoopP (C SM B0 B1 S0 S1 : Addr) (fx : List (Addr × Obj)) (W : Int) (st : Nat) (P : Int) (sB : Shared) (i : Nat) (m : Str → Option Value) (nw : List (Addr × Obj)) (s' : Shared) : Prop
  | mk (tl b0 b1 z0 z1 j0 j1 k0 k1 g0 g1 n0 n1) (zz0 : nw = tl ++ ((B0, listOf (List.toArray b0) j0) :: (B1, listOf (List.toArray b1) j1) :: (S0, listOf (List.toArray z0) k0) :: (S1, listOf (List.toArray z1) k1) :: fx)) (zz1 : T2 tl) (zz2 : StrsAre b0 g0) (zz3 : StrsAre b1 g1) (zz4 : IntsAre z0 n0) (zz5 : IntsAre z1 n1) (zz6 : BagInv st P i g0 g1 n0 n1) (zz7 : m "cells" = some (.ref C)) (zz8 : m "sums" = some (.ref SM)) (zz9 : (∃ t, m "width" = some (.int W t))) (zz10 : s'.os = sB.os) (zz11 : AllBare s'.gens) : LoopP C SM B0 B1 S0 S1 fx W st P sB i m nw s'
theorem LoopP.st {C SM B0 B1 S0 S1 : Addr} {fx : List (Addr × Obj)} {W : Int} {st : Nat} {P : Int} {sB : Shared} {i : Nat} {m : Str → Option Value} {nw : List (Addr × Obj)} {s' s2 : Shared} (h : LoopP C SM B0 B1 S0 S1 fx W st P sB i m nw s') (e1 : s2.os = s'.os) (e2 : s2.gens = s'.gens) : LoopP C SM B0 B1 S0 S1 fx W st P sB i m nw s2 := by
  obtain ⟨a, b, c, d, e, f, g, h, i, j, k, l, m, h1, h2, h3, h4, h5, h6, h7, h8, h9, h10, h11, h12⟩ := h
  exact ⟨a, b, c, d, e, f, g, h, i, j, k, l, m, h1, h2, h3, h4, h5, h6, h7, h8, h9, h10, e1.trans h11, by rw [e2]; exact h12⟩
theorem ne_cls {h₀ h : Heap} {L a b : Addr} {o o' : Obj} {news : List (Addr × Obj)} (N : News h₀ L h news) (ha : (a, o) ∈ news) (hb : (b, o') ∈ news) (he : o.cls ≠ o'.cls) : a ≠ b := by
  intro e
  subst e
  have h1 := (N _ ha).1
  have h2 := (N _ hb).1
  rw [h1] at h2
  injection h2 with h2
  exact he (congrArg Obj.cls h2)
theorem T2.ne_it {h₀ h : Heap} {L I : Addr} {x l c : Int} {tl news : List (Addr × Obj)} (hT : T2 tl) (N : News h₀ L h news) (hs : ∀ q ∈ tl, q ∈ news) (hI : (I, itS x l c) ∈ news) : ∀ q ∈ tl, q.1 ≠ I := by
  intro q hq
  have hq' := hs q hq
  cases hT with
  | fresh =>
    simp only [List.mem_singleton] at hq
    subst hq
    exact ne_cls N hq' hI (fun h => nomatch h)
  | made h1 h2 h3 =>
    simp only [List.mem_cons, List.not_mem_nil, or_false] at hq
    rcases hq with rfl | rfl
    · exact ne_cls N hq' hI (fun h => nomatch h)
    · refine ne_data N hq' hI (fun h => ?_)
      rw [h1] at h
      have h : Data.fields _ = Data.fields #[rawInt x, rawInt l, rawInt c] := h
      injection h with h
      rw [h] at h2
      have h2 : some (rawInt l) = some _ := h2
      injection h2 with h2
      exact nomatch h2
theorem permS {h₀ h : Heap} {L : Addr} {i a b c d : Addr × Obj} {tl fx : List (Addr × Obj)} (N : News h₀ L h (i :: (tl ++ (a :: b :: c :: d :: fx)))) : News h₀ L h (i :: (tl ++ (b :: a :: d :: c :: fx))) := cb_drop N (s_keep (s_keepA (s_cons (mi 1 rfl) (s_cons (mi 0 rfl) (s_cons (mi 3 rfl) (s_cons (mi 2 rfl) fun _ h => .tail _ (.tail _ (.tail _ (.tail _ h)))))))))

theorem permO {I : Addr} {a b c d : Addr × Obj} {tl fx : List (Addr × Obj)} (N : ∀ q ∈ tl ++ (a :: b :: c :: d :: fx), q.1 ≠ I) : ∀ q ∈ tl ++ (b :: a :: d :: c :: fx), q.1 ≠ I := fun q hq => N q (s_keepA (s_cons (mi 1 rfl) (s_cons (mi 0 rfl) (s_cons (mi 3 rfl) (s_cons (mi 2 rfl) fun _ h => .tail _ (.tail _ (.tail _ (.tail _ h))))))) q hq)

theorem rg_size {n : Nat} (h : 2 ≤ n) : Builtin.Range.rangeSize 2 ((n : Int) - 1) 2 = (((n - 2) / 2 : Nat) : Int) := by
  unfold Builtin.Range.rangeSize
  rw [if_pos (by decide)]
  split <;> omega
theorem rg_small {n : Nat} (h : n ≤ 100) : Builtin.Range.small 2 ((n : Int) - 1) 2 = true := by
  have k := (by decide +kernel : ∀ k : Fin 101, Builtin.Range.small 2 ((k.val : Int) - 1) 2 = true)
  exact k ⟨n, by omega⟩
section
variable {h₀ : Heap} {L fa : Addr} {cd : Value} {sc : Scope} {s : Shared} {m : Str → Option Value} {Q : Flow → Shared → Prop} {E : Value → Shared → Prop}
theorem lawFor (w : World) (hsc : sc = scW) {C SM BG FG B0 B1 S0 S1 : Addr} {W P : Int} {st kc kf kb ks : Nat} {cs fs : List Value} {o1 o2 o3 o4 : Obj} {ts tp : Tok} {cells : List Int} {fx nw : List (Addr × Obj)} {p : Program} {loose : List Str} {mean : ExcName → Option Value} {mg mb : Str → Option Value}
    (B : Below callerA h₀ [] h₀) (X : (mk.heap_1 w.params).In h₀) (F : Fr h₀ L s.heap m) (N : News h₀ L s.heap nw) (T : Top p loose mean mg mb h₀) (hC : (C, listOf cs.toArray kc) ∈ nw) (hm : m "cells" = some (.ref C)) (hi : IntsAre cs cells) (hz : cells.length ≤ 10)
    (h6 : 6 ≤ cells.length) (hpos : ∀ c ∈ cells, 0 ≤ c) (hs : 97 ≤ st) (hs2 : st ≤ 60000) (hP0 : LoopP C SM B0 B1 S0 S1 fx W st P s 0 m nw s)
    (hd : B0 ≠ B1 ∧ B0 ≠ S0 ∧ B0 ≠ S1 ∧ B1 ≠ S0 ∧ B1 ≠ S1 ∧ S0 ≠ S1) (fB0 : ∀ q ∈ fx, q.1 ≠ B0) (fB1 : ∀ q ∈ fx, q.1 ≠ B1) (fS0 : ∀ q ∈ fx, q.1 ≠ S0) (fS1 : ∀ q ∈ fx, q.1 ≠ S1) (f106 : ∀ q ∈ fx, q.1 ≠ 106)
    (mC : (C, listOf cs.toArray kc) ∈ fx) (mFG : (FG, listOf fs.toArray kf) ∈ fx) (mBG : (BG, listOf [.ref B0, .ref B1].toArray kb) ∈ fx) (mSM : (SM, listOf [.ref S0, .ref S1].toArray ks) ∈ fx) (c1 : (L + 1, o1) ∈ fx) (c2 : (L + 1 + 1, o2) ∈ fx) (c3 : (L + 1 + 1 + 1, o3) ∈ fx) (c4 : (L + 1 + 1 + 1 + 1, o4) ∈ fx)
    (d1 : o1.data = .cell (some (.int (st : Int) ts))) (d2 : o2.data = .cell (some (.int P tp))) (d3 : o3.data = .cell (some (.ref FG))) (d4 : o4.data = .cell (some (.ref BG))) (hf : StrsAre fs ((figN st).map fun f => S [f]))
    (hM : ∀ c d, IntMulOk (cornW (heldOf c) (P ^ (4 : Int).toNat) 5) (cornW (heldOf d) P 5)) (hp : Builtin.Int.intBits P ≤ 6000) (hp4 : Builtin.Int.intBits (P ^ (4 : Int).toNat) ≤ 6000)
    (hE : PassesOwn (model PySem.Challenge.rw_in0279_01.row.toRowW.prog w) (callerA.deeper (envOfC "law" sc L fa cd)) (envOfC "law" sc L fa cd) E)
    (hQ : ∀ m' nw' s', LoopP C SM B0 B1 S0 S1 fx W st P s ((cells.length - 2) / 2) m' nw' s' → Fr h₀ L s'.heap m' → News h₀ L s'.heap nw' → Q .next s') :
    wpAny (model PySem.Challenge.rw_in0279_01.row.toRowW.prog w) (callerA.deeper (envOfC "law" sc L fa cd)) (exec (sL 6) (envOfC "law" sc L fa cd)) Q E s := by
  have hz2 := hi.length
  revert B X F N T hC hm hz2
  k_with_none
  w_top off
  k_with "om" => (first | decide | (with_reducible first | (refine neN ?_; first | (refine Nat.ne_of_lt ?_; first | ((repeat (first | assumption | exact om_k1 | refine Nat.lt_succ_of_lt ?_)); done) | (apply And.left; (iterate 18 (first | done | assumption | apply And.right)); done)) | (refine Nat.ne_of_gt ?_; first | ((repeat (first | assumption | exact om_k1 | refine Nat.lt_succ_of_lt ?_)); done) | (apply And.left; (iterate 18 (first | done | assumption | apply And.right)); done)) | (refine Ne.symm ?_; assumption) | (refine om_s ?_; omega)) | exact om_le (by assumption) rfl | exact om_ll (by assumption) rfl | exact om_lt (by assumption) rfl | exact om_lg (by assumption) rfl | exact om_r1 (by assumption) rfl | exact om_r2 (by assumption) rfl | exact om_r3 (by assumption) rfl | exact om_il (by assumption) rfl | exact om_ig (by assumption) rfl | exact om_tn (by assumption) rfl | exact om_tl (by assumption) rfl | exact om_nc (by assumption) rfl | exact Int.natCast_nonneg _ | exact Int.le_of_lt (by assumption)) | (law_clear; lia))
  k_with "execs cons" => ((first | (k_here; k_gentoks) | (refine wpAny_execs_cons ?_; k_fold; (try k_extra "mlet"))))
  k_with "stp" => (repeat' (first | (k_unfold; (try dsimp only)) | (k_end; wrow_close) | (walk1; (all_goals (try dsimp only))) | (dsimp only; walk1) | (leave1; walk_say "STEP leave1"; try dsimp only) | fail "no step"))
  k_with "spliced" => (k_dflt (first | ((with_reducible show wpAny _ _ (spliced (backTo _ (starEach [_] _))) _ _ _); refine sp1 ?_) | ((with_reducible show wpAny _ _ (spliced (backTo _ (starEach [_, _] _))) _ _ _); refine sp2 ?_) | ((with_reducible show wpAny _ _ (spliced (backTo _ (starEach [_, _, _] _))) _ _ _); refine sp3 ?_)))
  k_with "eval Name" => ((k_dflt (refine' ldE ?w9q1 ?w9q2 ?_ ?w9q3 ?w9q4 ?w9q5 ?w9q6; (case w9q1 => k_asm); (case w9q2 => first | with_reducible assumption | exact rfl | assumption); (case w9q3 => exact rfl); (case w9q4 => exact rfl); (case w9q5 => exact rfl); (case w9q6 => decide); k_whole)))
  k_with "call builtin:len" => (((with_reducible show wpAny _ _ (call (Value.builtin "len") [Value.ref _]) _ _ _); k_dflt (refine' len_L ?w9qN ?w9qm ?w9qz ?_; (case w9qN => k_asm); (case w9qm => (repeat (first | exact List.mem_cons_self | assumption | exact List.mem_append_right _ (by assumption) | refine List.mem_cons_of_mem _ ?_))); (case w9qz => omega)); intro tW9' kW9'))
  k_with "pyIter ref" => ((refine Halt.of ?_))
  k_fill
  intro B X F N T hC hm hz2
  have hsc0 := hsc
  conv at hsc => rhs; whnf
  subst hsc
  have hb : sL 6 = sL 6 := rfl
  conv at hb => rhs; unfold sL; whnf
  rw [hb]
  clear hb
  have e0 : fL 0 = fL 0 := rfl
  conv at e0 => rhs; unfold fL; whnf
  have e1 : fL 1 = fL 1 := rfl
  conv at e1 => rhs; unfold fL; whnf
  have e2 : fL 2 = fL 2 := rfl
  conv at e2 => rhs; unfold fL; whnf
  have e3 : fL 3 = fL 3 := rfl
  conv at e3 => rhs; unfold fL; whnf
  rw [← e0, ← e1, ← e2, ← e3]
  clear e0 e1 e2 e3
  refine wpAny_For ?_
  k_extra "stp"
  refine Halt.to ?_
  rename IsRange _ _ _ _ _ _ _ _ => hR
  rename News _ _ _ _ => N9
  rename Fr _ _ _ _ => F9
  rw [hz2] at hR
  refine For_rg (LoopP C SM B0 B1 S0 S1 fx W st P s) rfl rfl rfl rfl hR (rg_small (by omega)) (rg_size (by omega)) F9 N9 (fun h' => hP0.st rfl rfl) (fun _ _ _ _ _ _ h => h.st rfl rfl) ?_ (fun m' nw' s' h F N => hQ m' nw' s' h F N) hE
  intro I i m5 nw5 k5 s5 hi5 hP5 F5 N5 o5
  obtain ⟨tl, b0, b1, z0, z1, j0, j1, k0, k1, g0, g1, n0, n1, rfl, hT2, sb0, sb1, iz0, iz1, hI, hcm, hsm, ⟨tw, hwm⟩, hos, hgs⟩ := hP5
  have hl2 : 3 + 2 * i < cells.length := by omega
  obtain ⟨ta, hta⟩ := ints_at hi (i := 2 + 2 * i) (by omega)
  obtain ⟨tb, htb⟩ := ints_at hi (i := 3 + 2 * i) (by omega)
  have hk1 : ((2 : Int) + (i : Int) * 2).toNat = 2 + 2 * i := by omega
  have hk2 : ((2 : Int) + (i : Int) * 2 + 1).toNat = 3 + 2 * i := by omega
  have lb0 := sb0.length
  have lb1 := sb1.length
  have lz0 := iz0.length
  have lz1 := iz1.length
  have h1 := hI.l0
  have h2 := hI.l1
  have h3 := hI.q0
  have h4 := hI.q1
  rcases Nat.mod_two_eq_zero_or_one i with hpar | hpar
  · have hx : (((2 : Int) + (i : Int) * 2).fdiv 2).fmod 2 = 1 := by rw [fdiv_ed (by decide), fmod_em (by decide)]; omega
    refine lawTurn w hsc0 B X F5 (permS N5) T hgs hT2 (permO o5) hd.1 hd.2.2.2.2.1.symm hd.2.2.2.1.symm hd.2.2.1 hd.2.2.2.2.2 fB1 fS1 f106 mC mFG mBG mSM c1 c2 c3 c4 d1 d2 d3 d4 ?_ rfl ?_ (by omega) (by omega) (by rw [hk1]; exact hta) (by rw [hk2]; exact htb) (hpos _ (List.getElem_mem _)) (hpos _ (List.getElem_mem _)) hs hs2 (by rw [hx]; rfl) (by rw [hx]; rfl) (by rw [hx]; decide) (by rw [hx]; decide) (by omega) (by omega) hf (hM _ _) hp hp4 ?_
    · exact hcm
    · exact hsm
    · intro vs j k t tl' s' m' F' N' hT' hS same hos' hg'
      have N6 := permS N' 
      refine RgEnd.mk F' N6 ?_ ⟨tl', _, _, _, _, _, _, _, _, _, _, _, _, rfl, hT', sb0, strs_app sb1 hS, iz0, IntsAre.append iz1 (.cons _ _ .nil), (hI.swap.step _ _).swap, ?_, ?_, ⟨tw, ?_⟩, by rw [hos', hos], hg'⟩
      · intro q hq
        rcases List.mem_append.mp hq with hq | hq
        · exact hT'.ne_it N6 (fun q hq => .tail _ (List.mem_append_left _ hq)) (.head _) q hq
        · have o6 := fun q hq => o5 q (List.mem_append_right _ hq)
          simp only [List.forall_mem_cons] at o6
          rcases List.mem_cons.mp hq with rfl | hq
          · exact o6.1
          rcases List.mem_cons.mp hq with rfl | hq
          · exact o6.2.1
          rcases List.mem_cons.mp hq with rfl | hq
          · exact o6.2.2.1
          rcases List.mem_cons.mp hq with rfl | hq
          · exact o6.2.2.2.1
          exact o6.2.2.2.2 q hq
      · rw [same _ (by decide) (by decide) (by decide) (by decide)]; exact hcm
      · rw [same _ (by decide) (by decide) (by decide) (by decide)]; exact hsm
      · rw [same _ (by decide) (by decide) (by decide) (by decide)]; exact hwm
  · have hx : (((2 : Int) + (i : Int) * 2).fdiv 2).fmod 2 = 0 := by rw [fdiv_ed (by decide), fmod_em (by decide)]; omega
    refine lawTurn w hsc0 B X F5 N5 T hgs hT2 o5 hd.1.symm hd.2.1.symm hd.2.2.1.symm hd.2.2.2.1 hd.2.2.2.2.2.symm fB0 fS0 f106 mC mFG mBG mSM c1 c2 c3 c4 d1 d2 d3 d4 ?_ rfl ?_ (by omega) (by omega) (by rw [hk1]; exact hta) (by rw [hk2]; exact htb) (hpos _ (List.getElem_mem _)) (hpos _ (List.getElem_mem _)) hs hs2 (by rw [hx]; rfl) (by rw [hx]; rfl) (by rw [hx]; decide) (by rw [hx]; decide) (by omega) (by omega) hf (hM _ _) hp hp4 ?_
    · exact hcm
    · exact hsm
    · intro vs j k t tl' s' m' F' N' hT' hS same hos' hg'
      have N6 := N'
      refine RgEnd.mk F' N6 ?_ ⟨tl', _, _, _, _, _, _, _, _, _, _, _, _, rfl, hT', strs_app sb0 hS, sb1, IntsAre.append iz0 (.cons _ _ .nil), iz1, hI.step _ _, ?_, ?_, ⟨tw, ?_⟩, by rw [hos', hos], hg'⟩
      · intro q hq
        rcases List.mem_append.mp hq with hq | hq
        · exact hT'.ne_it N6 (fun q hq => .tail _ (List.mem_append_left _ hq)) (.head _) q hq
        · have o6 := fun q hq => o5 q (List.mem_append_right _ hq)
          simp only [List.forall_mem_cons] at o6
          rcases List.mem_cons.mp hq with rfl | hq
          · exact o6.1
          rcases List.mem_cons.mp hq with rfl | hq
          · exact o6.2.1
          rcases List.mem_cons.mp hq with rfl | hq
          · exact o6.2.2.1
          rcases List.mem_cons.mp hq with rfl | hq
          · exact o6.2.2.2.1
          exact o6.2.2.2.2 q hq
      · rw [same _ (by decide) (by decide) (by decide) (by decide)]; exact hcm
      · rw [same _ (by decide) (by decide) (by decide) (by decide)]; exact hsm
      · rw [same _ (by decide) (by decide) (by decide) (by decide)]; exact hwm
end
end Mine
end

section
open PySem PySem.W PyProof.Rows PyProof.Rows.LCg PyProof.Rows.LCt
set_option maxRecDepth 100000
set_option maxHeartbeats 8000000
namespace Mine
theorem vinB {a : Nat} {tn : Tok} : ∀ {figs : List Nat} {fs zs : List Value}, StrsAre fs (figs.map fun f => S [f]) →
    VIn (fun _ => true) (fun v z => ∃ a' b t1 t2 t, Value.str (S [a]) tn = .str (S [a']) t1 ∧ v = .str (S [b]) t2 ∧ z = .str (S [a', b]) t) fs zs → StrsAre zs (figs.map fun b => S [a, b])
  | [], _, _, hf, h => by cases hf; cases h; exact .nil
  | f :: figs, _, zs, hf, h => by
    cases hf with
    | cons _ t r =>
      unfold VIn at h
      rw [if_pos rfl] at h
      obtain ⟨z, zr, rfl, ⟨a', b, t1, t2, t3, h1, h2, rfl⟩, h⟩ := h
      injection h1 with h1
      injection h2 with h2
      have h1 := S_inj h1
      have h2 := S_inj h2
      injection h1 with h1
      injection h2 with h2
      subst h1 h2
      exact .cons _ _ (vinB r h)
theorem voutB {figs : List Nat} {fs : List Value} (hf : StrsAre fs (figs.map fun f => S [f])) : ∀ {l : List Nat} {ns zs : List Value}, StrsAre ns (l.map fun f => S [f]) →
    VOut (fun _ => true) (fun nv v z => ∃ a b t1 t2 t, nv = .str (S [a]) t1 ∧ v = .str (S [b]) t2 ∧ z = .str (S [a, b]) t) fs ns zs → StrsAre zs (l.flatMap fun a => figs.map fun b => S [a, b])
  | [], _, _, hn, h => by cases hn; cases h; exact .nil
  | a :: l, _, zs, hn, h => by
    cases hn with
    | cons _ t r =>
      obtain ⟨x, c, rfl, h1, h2⟩ := h
      rw [List.flatMap_cons]
      exact strs_app (vinB hf h1) (voutB hf r h2)
theorem storeC {M : Model} {A : Around} {E : Value → Shared → Prop} {s : Shared} {h₀ : Heap} {L K : Addr} {m : Str → Option Value} {rest : List (Addr × Obj)} {o : Obj} {env : Env} {x : Str} {v : Value} {v₀ : Option Value} {Q : Unit → Shared → Prop} (F : Fr h₀ L s.heap m) (N : News h₀ L s.heap ((K, o) :: rest)) (hd : o.data = .cell v₀) (hr : ∀ p ∈ rest, p.1 ≠ K)
    (h : ∀ h' o', Fr h₀ L h' m → News h₀ L h' ((K, o') :: rest) → o'.data = .cell (some v) → Q () { s with heap := h' }) (hc : env.cells.lookup x = some K) (hk : env.scope.kind = .function) (hl : env.kindOf x = some .cell) :
    wpAny M A (storeName env x v) Q E s := by
  have hK := N (K, o) (.head _)
  refine wpAny_storeName_cell hk hl hc ⟨o, hK.1, hd⟩ fun h₂ hc₂ hs₂ => ?_
  obtain ⟨o', eK, hdK⟩ := hc₂
  exact h h₂ o' (fr_ext F hs₂.extBut hK.2.1 hK.2.2) (news_set (pre := []) N hs₂.extBut eK (fun _ h => nomatch h) hr) hdK
section
variable {h₀ : Heap} {L fa : Addr} {cd : Value} {sc : Scope} {s : Shared} {m : Str → Option Value} {Q : Flow → Shared → Prop} {E : Value → Shared → Prop}
theorem law7 (w : World) (hsc : sc = scW) {K2 : Addr} {P : Int} {tp : Tok} {o2 : Obj} {news : List (Addr × Obj)} {p : Program} {loose : List Str} {mean : ExcName → Option Value} {mg mb : Str → Option Value} {r : List Stmt} : ∀ (hK2 : K2 = L + 1 + 1) (B : Below callerA h₀ [] h₀) (X : (mk.heap_1 w.params).In h₀) (F : Fr h₀ L s.heap m) (N : News h₀ L s.heap news) (T : Top p loose mean mg mb h₀) (c2 : (K2, o2) ∈ news) (d2 : o2.data = .cell (some (.int P tp))) (hp : Builtin.Int.intBits P ≤ 6000) (hM : IntMulOk (P - 1) (P ^ (4 : Int).toNat - 1)) (hQ : ∀ (t : Tok) s' m', Fr h₀ L s'.heap m' → News h₀ L s'.heap news → m' "divisor" = some (.int ((P - 1) * (P ^ (4 : Int).toNat - 1)) t) → (∀ x, x ≠ Str.ofString "divisor" → m' x = m x) → s'.os = s.os → s'.gens = s.gens →
      wpAny (model PySem.Challenge.rw_in0279_01.row.toRowW.prog w) (callerA.deeper (envOfC "law" sc L fa cd)) (execs r (envOfC "law" sc L fa cd)) Q E s'),
    wpAny (model PySem.Challenge.rw_in0279_01.row.toRowW.prog w) (callerA.deeper (envOfC "law" sc L fa cd)) (execs (sL 7 :: r) (envOfC "law" sc L fa cd)) Q E s := by
  k_with_none
  w_top off
  k_with "om" => (first | decide | (with_reducible first | (refine neN ?_; first | (refine Nat.ne_of_lt ?_; first | ((repeat (first | assumption | exact om_k1 | refine Nat.lt_succ_of_lt ?_)); done) | (apply And.left; (iterate 18 (first | done | assumption | apply And.right)); done)) | (refine Nat.ne_of_gt ?_; first | ((repeat (first | assumption | exact om_k1 | refine Nat.lt_succ_of_lt ?_)); done) | (apply And.left; (iterate 18 (first | done | assumption | apply And.right)); done)) | (refine Ne.symm ?_; assumption) | (refine om_s ?_; omega)) | exact om_le (by assumption) rfl | exact om_ll (by assumption) rfl | exact om_lt (by assumption) rfl | exact om_lg (by assumption) rfl | exact om_r1 (by assumption) rfl | exact om_r2 (by assumption) rfl | exact om_r3 (by assumption) rfl | exact om_il (by assumption) rfl | exact om_ig (by assumption) rfl | exact om_tn (by assumption) rfl | exact om_tl (by assumption) rfl | exact om_nc (by assumption) rfl | exact Int.natCast_nonneg _ | exact Int.le_of_lt (by assumption)) | (law_clear; lia))
  k_with "execs cons" => ((first | (k_here; k_gentoks) | (refine wpAny_execs_cons ?_; k_fold; (try k_extra "mlet"))))
  k_with "stp" => (repeat' (first | (k_unfold; (try dsimp only)) | (k_end; wrow_close) | (walk1; (all_goals (try dsimp only))) | (dsimp only; walk1) | (leave1; walk_say "STEP leave1"; try dsimp only) | fail "no step"))
  k_with "spliced" => (k_dflt (first | ((with_reducible show wpAny _ _ (spliced (backTo _ (starEach [_] _))) _ _ _); refine sp1 ?_) | ((with_reducible show wpAny _ _ (spliced (backTo _ (starEach [_, _] _))) _ _ _); refine sp2 ?_) | ((with_reducible show wpAny _ _ (spliced (backTo _ (starEach [_, _, _] _))) _ _ _); refine sp3 ?_)))
  k_with "eval Name" => ((k_dflt (first
  | (refine' ldE ?w9q1 ?w9q2 ?_ ?w9q3 ?w9q4 ?w9q5 ?w9q6; (case w9q1 => k_asm); (case w9q2 => first | with_reducible assumption | exact rfl | assumption); (case w9q3 => exact rfl); (case w9q4 => exact rfl); (case w9q5 => exact rfl); (case w9q6 => decide); k_whole)
  | (refine' ldC ?w9q1 ?w9q2 ?w9q3 ?_ ?w9q4 ?w9q5 ?w9q6 ?w9q7; (case w9q4 => exact rfl); (case w9q5 => exact rfl); (case w9q6 => exact rfl); (case w9q7 => decide); (case w9q1 => k_asm); (case w9q2 => (repeat (first | exact List.mem_cons_self | assumption | exact List.mem_append_right _ (by assumption) | refine List.mem_cons_of_mem _ ?_))); (case w9q3 => assumption); k_whole))))
  k_with "binaryOp Pow int int" => ((k_dflt (refine pow_big (by omega) (by omega) (by assumption) ?_)))
  k_with "binaryOp Mult int int" => ((refine mul_int ?_ (by assumption)))
  k_fill
  intro hK2 B X F N T c2 d2 hp hM hQ
  subst hK2
  conv at hsc => rhs; whnf
  subst hsc
  have hb : sL 7 = sL 7 := rfl
  conv at hb => rhs; unfold sL; whnf
  rw [hb]
  clear hb
  k_extra "stp"
  refine hQ _ _ _ (by k_asm) (by k_asm) rfl (fun x e => ?_) rfl rfl
  show (if _ then _ else _) = _
  rw [if_neg e]
theorem law8 (w : World) (hsc : sc = scW) {K3 K5 FG : Addr} {fs : List Value} {kf : Nat} {figs : List Nat} {o3 o5 : Obj} {v₀ : Option Value} {rest : List (Addr × Obj)} {p : Program} {loose : List Str} {mean : ExcName → Option Value} {mg mb : Str → Option Value} {r : List Stmt} : ∀ (hK3 : K3 = L + 1 + 1 + 1) (hK5 : K5 = L + 1 + 1 + 1 + 1 + 1) (B : Below callerA h₀ [] h₀) (X : (mk.heap_1 w.params).In h₀) (F : Fr h₀ L s.heap m) (N : News h₀ L s.heap ((K5, o5) :: rest)) (T : Top p loose mean mg mb h₀) (hr : ∀ q ∈ rest, q.1 ≠ K5) (c3 : (K3, o3) ∈ rest) (hFG : (FG, listOf fs.toArray kf) ∈ rest) (d3 : o3.data = .cell (some (.ref FG))) (d5 : o5.data = .cell v₀) (hf : StrsAre fs (figs.map fun f => S [f])) (hz : figs.length ≤ 4) (hQ : ∀ (NM : Addr) (ys : List Value) (o5' : Obj) s', Fr h₀ L s'.heap m → News h₀ L s'.heap ((K5, o5') :: (NM, lst ys) :: rest) → o5'.data = .cell (some (.ref NM)) → (∀ q ∈ rest, q.1 ≠ NM) → StrsAre ys (figs.flatMap fun a => figs.map fun b => S [a, b]) → s'.os = s.os → s'.gens = s.gens →
      wpAny (model PySem.Challenge.rw_in0279_01.row.toRowW.prog w) (callerA.deeper (envOfC "law" sc L fa cd)) (execs r (envOfC "law" sc L fa cd)) Q E s'),
    wpAny (model PySem.Challenge.rw_in0279_01.row.toRowW.prog w) (callerA.deeper (envOfC "law" sc L fa cd)) (execs (sL 8 :: r) (envOfC "law" sc L fa cd)) Q E s := by
  k_with_none
  w_top off
  k_with "om" => (first | decide | (with_reducible first | (refine neN ?_; first | (refine Nat.ne_of_lt ?_; first | ((repeat (first | assumption | exact om_k1 | refine Nat.lt_succ_of_lt ?_)); done) | (apply And.left; (iterate 18 (first | done | assumption | apply And.right)); done)) | (refine Nat.ne_of_gt ?_; first | ((repeat (first | assumption | exact om_k1 | refine Nat.lt_succ_of_lt ?_)); done) | (apply And.left; (iterate 18 (first | done | assumption | apply And.right)); done)) | (refine Ne.symm ?_; assumption) | (refine om_s ?_; omega)) | exact om_le (by assumption) rfl | exact om_ll (by assumption) rfl | exact om_lt (by assumption) rfl | exact om_lg (by assumption) rfl | exact om_r1 (by assumption) rfl | exact om_r2 (by assumption) rfl | exact om_r3 (by assumption) rfl | exact om_il (by assumption) rfl | exact om_ig (by assumption) rfl | exact om_tn (by assumption) rfl | exact om_tl (by assumption) rfl | exact om_nc (by assumption) rfl | exact Int.natCast_nonneg _ | exact Int.le_of_lt (by assumption)) | (law_clear; lia))
  k_with "execs cons" => ((first | (k_here; k_gentoks) | (refine wpAny_execs_cons ?_; k_fold; (try k_extra "mlet"))))
  k_with "stp" => (repeat' (first | (k_unfold; (try dsimp only)) | (k_end; wrow_close) | (walk1; (all_goals (try dsimp only))) | (dsimp only; walk1) | (leave1; walk_say "STEP leave1"; try dsimp only) | fail "no step"))
  k_with "spliced" => (k_dflt (first | ((with_reducible show wpAny _ _ (spliced (backTo _ (starEach [_] _))) _ _ _); refine sp1 ?_) | ((with_reducible show wpAny _ _ (spliced (backTo _ (starEach [_, _] _))) _ _ _); refine sp2 ?_) | ((with_reducible show wpAny _ _ (spliced (backTo _ (starEach [_, _, _] _))) _ _ _); refine sp3 ?_)))
  k_with "eval Name" => ((k_dflt (first
  | (refine' ldE ?w9q1 ?w9q2 ?_ ?w9q3 ?w9q4 ?w9q5 ?w9q6; (case w9q1 => k_asm); (case w9q2 => first | with_reducible assumption | exact rfl | assumption); (case w9q3 => exact rfl); (case w9q4 => exact rfl); (case w9q5 => exact rfl); (case w9q6 => decide); k_whole)
  | (refine' ldC ?w9q1 ?w9q2 ?w9q3 ?_ ?w9q4 ?w9q5 ?w9q6 ?w9q7; (case w9q4 => exact rfl); (case w9q5 => exact rfl); (case w9q6 => exact rfl); (case w9q7 => decide); (case w9q1 => k_asm); (case w9q2 => (repeat (first | exact List.mem_cons_self | assumption | exact List.mem_append_right _ (by assumption) | refine List.mem_cons_of_mem _ ?_))); (case w9q3 => assumption); k_whole))))
  k_with "binaryOp Pow int int" => ((k_dflt (refine pow_big (by omega) (by omega) (by assumption) ?_)))
  k_with "binaryOp Mult int int" => ((refine mul_int ?_ (by assumption)))
  k_with "binaryOp Add str str" => ((k_dflt (refine add_S rfl rfl (by simp) (by simp) ?_); intro tW9' kW9'))
  k_with "eval Name" => (((with_reducible show wpAny _ _ (eval (PySem.Expr.Name _ _) (compEnvC _ _ _ _)) _ _ _); k_dflt (refine LCgL.ld_own (by k_asm) (by k_memK) (by assumption) (by assumption) ?_)))
  k_fill
  intro hK3 hK5 B X F N T hr c3 hFG d3 d5 hf hz hQ
  have hzf : fs.length ≤ 1000 := by have := hf.length; rw [List.length_map] at this; omega
  subst hK3 hK5
  conv at hsc => rhs; whnf
  subst hsc
  have hb : sL 8 = sL 8 := rfl
  conv at hb => rhs; unfold sL; whnf
  rw [hb]
  clear hb
  refine wpAny_execs_cons (wpAny_Assign_Name ?_ (by with_unfolding_all rfl))
  refine comp2B (V := fun nv v z => ∃ a b t1 t2 t, nv = .str (S [a]) t1 ∧ v = .str (S [b]) t2 ∧ z = .str (S [a, b]) t) F N (by with_unfolding_all rfl) rfl (by decide) (by decide) (by decide) (fun _ => rfl) (fun _ => rfl) (.tail _ hFG) (.tail _ hFG) rfl hzf hzf (fun _ => rfl) (fun _ _ => rfl) ?_ ?_ ?_ ?_
  · intro Q' hq
    exact ldC N (.tail _ c3) d3 hq rfl rfl rfl (by decide)
  · intro I D C oI oC ys h tk E' Q' F1 N1 hq
    exact lcf_cell N1 rfl (.tail _ (.tail _ (.tail _ (.tail _ c3)))) d3 hq rfl rfl
  · intro nv v mm I2 I D C oI2 oI oC ys h tk E' Q' hnv hv hC h1 h2 F1 N1 hq
    obtain ⟨xa, ta, rfl, ha⟩ := mem_strs hf hnv
    obtain ⟨xb, tb, rfl, hb⟩ := mem_strs hf hv
    obtain ⟨a, _, rfl⟩ := List.mem_map.mp ha
    obtain ⟨b, _, rfl⟩ := List.mem_map.mp hb
    k_extra "stp"
    exact hq _ _ _ ⟨a, b, _, _, _, rfl, rfl, rfl⟩ F1 N1
  · intro D h tk ys F1 N1 hlt hV
    (try dsimp only)
    refine storeC (K := L + 1 + 1 + 1 + 1 + 1) (o := o5) (rest := (D, lst ys) :: rest) F1 ?_ d5 ?_ ?_ rfl rfl rfl
    · exact cb_drop N1 fun q hq => by
        rcases List.mem_cons.mp hq with rfl | hq
        · exact .tail _ (.head _)
        · rcases List.mem_cons.mp hq with rfl | hq
          · exact .head _
          · exact .tail _ (.tail _ hq)
    · intro q hq
      rcases List.mem_cons.mp hq with rfl | hq
      · exact Ne.symm (Nat.ne_of_lt (hlt (L + 1 + 1 + 1 + 1 + 1, o5) (.head _)))
      · exact hr q hq
    · intro h' o' F2 N2 d'
      exact hQ D ys o' _ F2 N2 d' (fun q hq => Nat.ne_of_lt (hlt q (.tail _ hq))) (voutB hf hf hV) rfl rfl
end
end Mine
end

section
open PySem PySem.W PyProof.Rows PyProof.Rows.LCg PyProof.Rows.LCt
set_option maxRecDepth 100000
set_option maxHeartbeats 8000000
namespace Mine
theorem count_strs {k : Str} : ∀ {ys : List Str}, PySem.Spec.countIn (.str k) (ys.map PySem.PyData.str) = ((ys.count k : Nat) : Int)
  | [] => rfl
  | y :: ys => by
    rw [List.map_cons, PySem.Spec.countIn, count_strs, List.count_cons]
    have e : PySem.Spec.same (.str y) (.str k) = (y == k) := by
      first | rfl | simp [PySem.Spec.same]
    rw [e]
    by_cases h : (y == k) = true
    · rw [if_pos h, if_pos h]; omega
    · rw [if_neg h, if_neg h]; omega
theorem strs_get {vs : List Value} {xs : List Str} (h : StrsAre vs xs) : ∀ {i : Nat} {v : Value}, vs[i]? = some v → ∃ t, v = .str (xs.getD i default) t := by
  induction h with
  | nil => intro i v hv; simp at hv
  | cons y t h ih =>
    intro i v hv
    cases i with
    | zero => exact ⟨t, by simpa using hv.symm⟩
    | succ i => simpa using ih (i := i) (v := v) (by simpa using hv)
theorem range_getD {α β : Type} [Inhabited α] (f : α → β) (l : List α) : ((List.range' 0 l.length).filter (fun _ => true)).map (fun i => f (l.getD i default)) = l.map f := by
  rw [List.filter_eq_self.mpr (fun _ _ => rfl)]
  apply List.ext_getElem
  · simp
  · intro i h1 h2
    have hi : i < l.length := by simpa using h2
    simp [List.getD_eq_getElem?_getD, List.getElem?_eq_getElem hi]
theorem cnt_L {prog : Program} {w : World} {A : Around} {E : Value → Shared → Prop} {s : Shared} {h₀ : Heap} {L D : Addr} {news : List (Addr × Obj)} {vs : List Value} {n : Nat} {ys : List Str} {k : Str} {t : Tok} {Q : Value → Shared → Prop} (N : News h₀ L s.heap news) (hm : (D, listOf vs.toArray n) ∈ news) (hi : StrsAre vs ys)
    (h : ∀ tk k9, Q (.int ((ys.count k : Nat) : Int) tk) { s with toks := k9 }) : wpAny (model prog w) A (call (.builtin "list.count") [.ref D, .str k t]) Q E s := by
  refine count_list_strs (News.isList N hm) hi ?_
  rw [count_strs]; exact h _ _
section
variable {h₀ : Heap} {L fa : Addr} {cd : Value} {sc : Scope} {s : Shared} {m : Str → Option Value} {Q : Flow → Shared → Prop} {E : Value → Shared → Prop}
theorem law9 (w : World) (hsc : sc = scW) {K4 K5 BG B0 B1 NM : Addr} {b0 b1 ys : List Value} {g0 g1 nms : List Str} {j0 j1 kb kn : Nat} {o4 o5 : Obj} {news : List (Addr × Obj)} {p : Program} {loose : List Str} {mean : ExcName → Option Value} {mg mb : Str → Option Value} {r : List Stmt} : ∀ (hK4 : K4 = L + 1 + 1 + 1 + 1) (hK5 : K5 = L + 1 + 1 + 1 + 1 + 1) (B : Below callerA h₀ [] h₀) (X : (mk.heap_1 w.params).In h₀) (F : Fr h₀ L s.heap m) (N : News h₀ L s.heap news) (T : Top p loose mean mg mb h₀) (c4 : (K4, o4) ∈ news) (c5 : (K5, o5) ∈ news) (hBG : (BG, listOf [.ref B0, .ref B1].toArray kb) ∈ news) (hB0 : (B0, listOf b0.toArray j0) ∈ news) (hB1 : (B1, listOf b1.toArray j1) ∈ news) (hNM : (NM, listOf ys.toArray kn) ∈ news) (d4 : o4.data = .cell (some (.ref BG))) (d5 : o5.data = .cell (some (.ref NM))) (s0 : StrsAre b0 g0) (s1 : StrsAre b1 g1) (sn : StrsAre ys nms) (z0 : b0.length ≤ 900) (z1 : b1.length ≤ 900) (zn : ys.length ≤ 100) (hQ : ∀ (CN : Addr) (cv : List Value) s', Fr h₀ L s'.heap (fun z => if z = Str.ofString "counts" then some (.ref CN) else m z) → News h₀ L s'.heap ((CN, lst cv) :: news) → (∀ q ∈ news, q.1 ≠ CN) → IntsAre cv (nms.map fun x => (((g0 ++ g1).count x : Nat) : Int)) → s'.os = s.os → s'.gens = s.gens →
      wpAny (model PySem.Challenge.rw_in0279_01.row.toRowW.prog w) (callerA.deeper (envOfC "law" sc L fa cd)) (execs r (envOfC "law" sc L fa cd)) Q E s'),
    wpAny (model PySem.Challenge.rw_in0279_01.row.toRowW.prog w) (callerA.deeper (envOfC "law" sc L fa cd)) (execs (sL 9 :: r) (envOfC "law" sc L fa cd)) Q E s := by
  k_with_none
  w_top off
  k_with "om" => (first | decide | (with_reducible first | (refine neN ?_; first | (refine Nat.ne_of_lt ?_; first | ((repeat (first | assumption | exact om_k1 | refine Nat.lt_succ_of_lt ?_)); done) | (apply And.left; (iterate 18 (first | done | assumption | apply And.right)); done)) | (refine Nat.ne_of_gt ?_; first | ((repeat (first | assumption | exact om_k1 | refine Nat.lt_succ_of_lt ?_)); done) | (apply And.left; (iterate 18 (first | done | assumption | apply And.right)); done)) | (refine Ne.symm ?_; assumption) | (refine om_s ?_; omega)) | exact om_le (by assumption) rfl | exact om_ll (by assumption) rfl | exact om_lt (by assumption) rfl | exact om_lg (by assumption) rfl | exact om_r1 (by assumption) rfl | exact om_r2 (by assumption) rfl | exact om_r3 (by assumption) rfl | exact om_il (by assumption) rfl | exact om_ig (by assumption) rfl | exact om_tn (by assumption) rfl | exact om_tl (by assumption) rfl | exact om_nc (by assumption) rfl | exact Int.natCast_nonneg _ | exact Int.le_of_lt (by assumption)) | (law_clear; lia))
  k_with "execs cons" => ((first | (k_here; k_gentoks) | (refine wpAny_execs_cons ?_; k_fold; (try k_extra "mlet"))))
  k_with "stp" => (repeat' (first | (k_unfold; (try dsimp only)) | (k_end; wrow_close) | (walk1; (all_goals (try dsimp only))) | (dsimp only; walk1) | (leave1; walk_say "STEP leave1"; try dsimp only) | fail "no step"))
  k_with "spliced" => (k_dflt (first | ((with_reducible show wpAny _ _ (spliced (backTo _ (starEach [_] _))) _ _ _); refine sp1 ?_) | ((with_reducible show wpAny _ _ (spliced (backTo _ (starEach [_, _] _))) _ _ _); refine sp2 ?_) | ((with_reducible show wpAny _ _ (spliced (backTo _ (starEach [_, _, _] _))) _ _ _); refine sp3 ?_)))
  k_with "eval Name" => (((with_reducible show wpAny _ _ (eval (PySem.Expr.Name _ _) (compEnvC _ _ _ _)) _ _ _); k_dflt (first
  | (refine LCgL.ld_own (by k_asm) (by (repeat (first | exact List.mem_cons_self | assumption | exact List.mem_append_right _ (by assumption) | refine List.mem_cons_of_mem _ ?_))) (by assumption) (by assumption) ?_)
  | (refine' lcf_cell ?w9N ?w9c ?w9m ?w9d ?_ ?w9a ?w9b; (case w9a => rfl); (case w9b => rfl); (case w9N => k_asm); (case w9c => rfl); (case w9m => (repeat (first | exact List.mem_cons_self | assumption | exact List.mem_append_right _ (by assumption) | refine List.mem_cons_of_mem _ ?_))); (case w9d => assumption); k_whole))))
  k_with "subscriptTail Name Constant ref int" => ((k_dflt (refine' sub_L ?w9qN ?w9qm ?w9qa ?w9qb ?w9qz ?_ ?w9qs; (case w9qN => k_asm); (case w9qm => (repeat (first | exact List.mem_cons_self | assumption | exact List.mem_append_right _ (by assumption) | refine List.mem_cons_of_mem _ ?_))); (case w9qa => decide); (case w9qb => exact rfl); (case w9qz => decide); (case w9qs => with_unfolding_all rfl))))
  k_with "binaryOp Add ref ref" => ((k_dflt (refine' add_LL ?w9qF ?w9qN ?w9qa ?w9qb ?w9qz ?w9qy ?_; (case w9qF => k_asm); (case w9qN => k_asm); (case w9qa => (repeat (first | exact List.mem_cons_self | assumption | exact List.mem_append_right _ (by assumption) | refine List.mem_cons_of_mem _ ?_))); (case w9qb => (repeat (first | exact List.mem_cons_self | assumption | exact List.mem_append_right _ (by assumption) | refine List.mem_cons_of_mem _ ?_))); (case w9qz => omega); (case w9qy => omega)); intro DW9' hW9' FW9' NW9' l1W9; (try k_lt l1W9)))
  k_with "getMethod ref" => (((with_reducible show wpAny _ _ (getMethod (Value.ref _) (PySem.Str.ofString "count") _) _ _ _); k_dflt (refine' kl_method ?w9qN ?w9qm PySem.F.slot_list_count PySem.F.type_list_count ?_; (case w9qN => k_asm); (case w9qm => (repeat (first | exact List.mem_cons_self | assumption | exact List.mem_append_right _ (by assumption) | refine List.mem_cons_of_mem _ ?_))))))
  k_with "call builtin:list.count" => ((k_dflt (refine' cnt_L ?w9qN ?w9qm ?w9qi ?_; (case w9qN => k_asm); (case w9qm => (repeat (first | exact List.mem_cons_self | assumption | exact List.mem_append_right _ (by assumption) | refine List.mem_cons_of_mem _ ?_))); (case w9qi => exact strs_app (by assumption) (by assumption))); intro tW9' kW9'))
  k_fill
  intro hK4 hK5 B X F N T c4 c5 hBG hB0 hB1 hNM d4 d5 s0 s1 sn z0 z1 zn hQ
  subst hK4 hK5
  conv at hsc => rhs; whnf
  subst hsc
  have hb : sL 9 = sL 9 := rfl
  conv at hb => rhs; unfold sL; whnf
  rw [hb]
  clear hb
  have hlen := sn.length
  refine wpAny_execs_cons (LCg.Assign_ListComp_U (F₀ := F) (by rfl) (by with_unfolding_all rfl) (by rfl) (by decide) (by rfl) (by decide) (by rfl) (by rfl) (by rfl) ?_)
  refine ldC N c5 d5 ?_ rfl rfl rfl (by decide)
  refine LCg.CompSrc.ledger rfl F N hNM (by rw [List.size_toArray]; unfold sizeLine; omega) fun g => ?_
  refine restV (M := ys.toArray.size) (V := fun i y => ∃ t, y = .int ((((g0 ++ g1).count (nms.getD i default) : Nat)) : Int) t) (.inr ⟨_, hNM, rfl, _, rfl⟩) ?_ _ _ _ (by omega) ?_
  · intro i v I oI C oC D ys2 m2 h2 tk2 E' Q' hi4 hP hN hm2 F9 N9 hret9
    obtain ⟨t, rfl⟩ := strs_get sn (i := i) (v := v) (by simpa using hP)
    (try dsimp only)
    k_extra "stp"
    exact hret9 _ _ _ ⟨_, rfl⟩ (by k_asm) (cb_drop (by k_asm) fun q hq => .tail _ hq)
  · intro cv hcv D h9 tk9 F9 N9 o9
    (try dsimp only)
    refine hQ D cv _ F9 N9 (off1_mem o9) ?_ rfl rfl
    have h := VAll.ints hcv
    rw [List.size_toArray, hlen, range_getD (fun x => (((g0 ++ g1).count x : Nat) : Int)) nms] at h
    exact h
end
end Mine
end

section
open PySem PySem.W PyProof.Rows PyProof.Rows.LCg PyProof.Rows.LCt
set_option maxRecDepth 100000
set_option maxHeartbeats 8000000
namespace Mine
theorem val_snoc0 {p : Int} : ∀ xs : List Int, val p (xs ++ [0]) = val p xs
  | [] => by show (0 : Int) + p * 0 = 0; simp
  | x :: xs => by rw [List.cons_append, val, val, val_snoc0 xs]
theorem ints_snoc {vs : List Value} {xs : List Int} {y : Int} (hx : IntsAre vs (xs ++ [y])) : ∃ vs' t, vs = vs' ++ [.int y t] ∧ IntsAre vs' xs := by
  induction xs generalizing vs with
  | nil =>
    cases hx with
    | cons y t hx => cases hx; exact ⟨[], t, rfl, .nil⟩
  | cons x xs ih =>
    cases hx with
    | cons y' t hx =>
      obtain ⟨vs', t', rfl, hv⟩ := ih hx
      exact ⟨_ :: vs', t', rfl, .cons _ _ hv⟩
section
variable {prog : Program} {w : World} {A : Around} {E : Value → Shared → Prop} {s : Shared} {h₀ : Heap} {L D D' : Addr} {m : Str → Option Value} {news : List (Addr × Obj)} {Q : Value → Shared → Prop} {vs us : List Value} {n n' : Nat} {ns ms : List Int} {r : Bool}
theorem ne_I (N : News h₀ L s.heap news) (hm : (D, listOf vs.toArray n) ∈ news) (hm' : (D', listOf us.toArray n') ∈ news) (hi : IntsAre vs ns) (hi' : IntsAre us ms) (hu : A.units + 64 < cLine) (hr : (!decide (ns = ms)) = r) (h : Q (.bool r) s) : wpAny (model prog w) A (compareOp .NotEq (.ref D) (.ref D')) Q E s := by
  subst hr
  exact ne_intsK (News.isList N hm) hi (News.isList N hm') hi' hu h
theorem sub_last {value slice : PySem.Expr} {u : Tok} {v : Value} (N : News h₀ L s.heap news) (hm : (D, listOf (vs ++ [v]).toArray n) ∈ news) (hz : vs.length ≤ 1000) (h : Q v s)
    (hs : subscripted slice false (.ref D) (.int (-1) u) = operate [.ref D, .int (-1) u] (getItem (.ref D) (.int (-1) u)) := by with_unfolding_all rfl) :
    wpAny (model prog w) A (subscriptTail value slice (.ref D) (.int (-1) u)) Q E s := by
  have hl := News.isList N hm
  have e1 : (vs ++ [v]).toArray.size = vs.length + 1 := by simp
  refine tail_any hl.typeIs PySem.F.slot_list_getitem.lookup (wpAny_getItem_list_neg hl (by decide) (by rw [e1]; omega) (by decide) ?_ h) hs
  rw [e1, show ((-1 : Int) + ((vs.length + 1 : Nat) : Int)).toNat = vs.length by omega]
  simp
theorem pop_I (F : Fr h₀ L s.heap m) (N : News h₀ L s.heap ((D', o) :: (D, listOf (vs ++ [v]).toArray n) :: news)) (h1 : D' ≠ D) (hr : ∀ p ∈ news, p.1 ≠ D) (hz : vs.length ≤ 1000)
    (h : ∀ h', Fr h₀ L h' m → News h₀ L h' ((D', o) :: (D, listOf vs.toArray (n + 1)) :: news) → Q v { s with heap := h' }) : wpAny (model prog w) A (call (.builtin "list.pop") [.ref D]) Q E s := by
  refine kl_pop F N (p := vs) (y := v) ?_ (.tail h1 (.head hr)) (by unfold sizeLine; simp; omega) fun h' F' N' => h h' F' N'
  have e := kpa_last v vs
  simpa using e
end
section
variable {h₀ : Heap} {L fa : Addr} {cd : Value} {sc : Scope} {s : Shared} {m : Str → Option Value} {Q : Flow → Shared → Prop} {E : Value → Shared → Prop}
theorem law10 (w : World) (hsc : sc = scW) {CN : Addr} {cv : List Value} {kc : Nat} {cs : List Int} {P : Int} {rest : List (Addr × Obj)} {p : Program} {loose : List Str} {mean : ExcName → Option Value} {mg mb : Str → Option Value} {r : List Stmt} : ∀ (B : Below callerA h₀ [] h₀) (X : (mk.heap_1 w.params).In h₀) (F : Fr h₀ L s.heap m) (N : News h₀ L s.heap ((CN, listOf cv.toArray kc) :: rest)) (T : Top p loose mean mg mb h₀) (hr : ∀ q ∈ rest, q.1 ≠ CN) (hm : m "counts" = some (.ref CN)) (hi : IntsAre cv cs) (hz : cs.length ≤ 100) (hE : PassesOwn (model PySem.Challenge.rw_in0279_01.row.toRowW.prog w) (callerA.deeper (envOfC "law" sc L fa cd)) (envOfC "law" sc L fa cd) E) (hQ : ∀ (cs' : List Int) (cv' : List Value) (k' : Nat) h' tk', Fr h₀ L h' m → News h₀ L h' ((CN, listOf cv'.toArray k') :: rest) → IntsAre cv' cs' → val P cs' = val P cs → (∀ c ∈ cs', c ∈ cs) → cs'.length ≤ 100 → (∀ xs y, cs' = xs ++ [y] → y ≠ 0) →
      wpAny (model PySem.Challenge.rw_in0279_01.row.toRowW.prog w) (callerA.deeper (envOfC "law" sc L fa cd)) (execs r (envOfC "law" sc L fa cd)) Q E { s with heap := h', toks := tk' }),
    wpAny (model PySem.Challenge.rw_in0279_01.row.toRowW.prog w) (callerA.deeper (envOfC "law" sc L fa cd)) (execs (sL 10 :: r) (envOfC "law" sc L fa cd)) Q E s := by
  k_with_none
  w_top off
  k_with "om" => (first | decide | (with_reducible first | (refine neN ?_; first | (refine Nat.ne_of_lt ?_; first | ((repeat (first | assumption | exact om_k1 | refine Nat.lt_succ_of_lt ?_)); done) | (apply And.left; (iterate 18 (first | done | assumption | apply And.right)); done)) | (refine Nat.ne_of_gt ?_; first | ((repeat (first | assumption | exact om_k1 | refine Nat.lt_succ_of_lt ?_)); done) | (apply And.left; (iterate 18 (first | done | assumption | apply And.right)); done)) | (refine Ne.symm ?_; assumption) | (refine om_s ?_; omega)) | exact om_le (by assumption) rfl | exact om_ll (by assumption) rfl | exact om_lt (by assumption) rfl | exact om_lg (by assumption) rfl | exact om_r1 (by assumption) rfl | exact om_r2 (by assumption) rfl | exact om_r3 (by assumption) rfl | exact om_il (by assumption) rfl | exact om_ig (by assumption) rfl | exact om_tn (by assumption) rfl | exact om_tl (by assumption) rfl | exact om_nc (by assumption) rfl | exact Int.natCast_nonneg _ | exact Int.le_of_lt (by assumption)) | (law_clear; lia))
  k_with "execs cons" => ((first | (k_here; k_gentoks) | (refine wpAny_execs_cons ?_; k_fold; (try k_extra "mlet"))))
  k_with "stp" => (repeat' (first | (k_unfold; (try dsimp only)) | (k_end; wrow_close) | (walk1; (all_goals (try dsimp only))) | (dsimp only; walk1) | (leave1; walk_say "STEP leave1"; try dsimp only) | fail "no step"))
  k_with "spliced" => (k_dflt (first | ((with_reducible show wpAny _ _ (spliced (backTo _ (starEach [_] _))) _ _ _); refine sp1 ?_) | ((with_reducible show wpAny _ _ (spliced (backTo _ (starEach [_, _] _))) _ _ _); refine sp2 ?_) | ((with_reducible show wpAny _ _ (spliced (backTo _ (starEach [_, _, _] _))) _ _ _); refine sp3 ?_)))
  k_with "eval Name" => ((k_dflt (refine' ldE ?w9q1 ?w9q2 ?_ ?w9q3 ?w9q4 ?w9q5 ?w9q6; (case w9q1 => k_asm); (case w9q2 => first | with_reducible assumption | exact rfl | assumption); (case w9q3 => exact rfl); (case w9q4 => exact rfl); (case w9q5 => exact rfl); (case w9q6 => decide); k_whole)))
  k_with "compareOp NotEq ref ref" => ((k_dflt (refine' ne_I ?w9qN ?w9qa ?w9qb ?w9qi .nil ?w9qu ?w9qr ?_; (case w9qN => k_asm); (case w9qa => exact .tail _ (.head _)); (case w9qb => exact List.mem_cons_self); (case w9qi => assumption); (case w9qu => ke_room); (case w9qr => first | exact rfl | (simp; done)))))
  k_with "subscriptTail Name UnaryOp ref int" => ((k_dflt (refine' sub_last ?w9qN ?w9qm ?w9qz ?_ ?w9qs; (case w9qN => k_asm); (case w9qm => exact .tail _ (.head _)); (case w9qz => assumption); (case w9qs => with_unfolding_all rfl))))
  k_with "getMethod ref" => (((with_reducible show wpAny _ _ (getMethod (Value.ref _) (PySem.Str.ofString "pop") _) _ _ _); k_dflt (refine' kl_method ?w9N ?w9m PySem.F.slot_list_pop PySem.F.type_list_pop ?_; (case w9N => k_asm); (case w9m => exact .tail _ (.head _)))))
  k_with "call builtin:list.pop" => ((k_dflt (refine' pop_I ?w9q1 ?w9q2 ?w9q3 ?w9q4 ?w9q5 ?_; (case w9q1 => k_asm); (case w9q2 => k_asm); (case w9q3 => exact Nat.ne_of_gt (‹_ < _ ∧ _›).1); (case w9q4 => assumption); (case w9q5 => assumption)); intro hW9' FW9' NW9'))
  k_fill
  intro B X F N T hr hm hi hz hE hQ
  conv at hsc => rhs; whnf
  subst hsc
  have hb : sL 10 = sL 10 := rfl
  conv at hb => rhs; unfold sL; whnf
  rw [hb]
  clear hb
  refine wpAny_execs_cons (While_nx (fun n s' => ∃ cs' cv' k' h' tk', n = cs'.length ∧ s' = { s with heap := h', toks := tk' } ∧ Fr h₀ L h' m ∧ News h₀ L h' ((CN, listOf (List.toArray cv') k') :: rest) ∧ IntsAre cv' cs' ∧ val P cs' = val P cs ∧ (∀ c ∈ cs', c ∈ cs) ∧ cs'.length ≤ 100) (n₀ := cs.length) ⟨cs, cv, kc, s.heap, s.toks, rfl, rfl, F, N, hi, rfl, fun _ h => h, hz⟩ ?_ hE)
  clear F N hi hz
  rintro n s' ⟨cs', cv', k', h', tk', rfl, rfl, F, N, hi, hv, hsub, hz⟩
  by_cases he : cs' = []
  · subst he
    cases hi
    have hi : IntsAre [] [] := .nil
    k_extra "stp"
    exact hQ [] [] k' _ _ (by k_asm) (cb_drop (by k_asm) fun q hq => .tail _ hq) .nil hv hsub (by decide) (fun xs y h => by simp at h)
  · obtain ⟨xs, y, rfl⟩ := snocI he
    obtain ⟨vs', t, rfl, hi'⟩ := ints_snoc hi
    have hl := hi'.length
    rw [List.length_append] at hz
    have hl2 : vs'.length ≤ 1000 := by omega
    k_extra "stp"
    · have hy : y = 0 := by assumption
      subst hy
      rw [val_snoc0] at hv
      exact NextJ.mk (n' := xs.length) (by rw [List.length_append]; exact Nat.lt_succ_self _) ⟨xs, vs', _, _, _, rfl, rfl, by k_asm, cb_drop (by k_asm) fun q hq => .tail _ hq, hi', hv, fun c hc => hsub c (List.mem_append_left _ hc), by omega⟩
    · have hy : y ≠ 0 := by assumption
      exact hQ (xs ++ [y]) _ k' _ _ (by k_asm) (cb_drop (by k_asm) fun q hq => .tail _ hq) hi hv hsub (by rw [List.length_append]; exact hz) (fun xs' y' h => by
        have e := (List.append_inj' h rfl).2
        injection e with e
        rw [← e]; exact hy)
end
end Mine
end

section
open PySem PySem.W PyProof.Rows PyProof.Rows.LCg PyProof.Rows.LCt
set_option maxRecDepth 100000
set_option maxHeartbeats 8000000
namespace Mine
section
variable {h₀ : Heap} {L fa : Addr} {cd : Value} {sc : Scope} {s : Shared} {m : Str → Option Value} {Q : Flow → Shared → Prop} {E : Value → Shared → Prop}
theorem law11 (w : World) (hsc : sc = scW) {SM S0 S1 : Addr} {z0 z1 : List Value} {n0 n1 : List Int} {k0 k1 ks : Nat} {D : Int} {td : Tok} {tA tB news : List (Addr × Obj)} {p : Program} {loose : List Str} {mean : ExcName → Option Value} {mg mb : Str → Option Value} {r : List Stmt} : ∀ (B : Below callerA h₀ [] h₀) (X : (mk.heap_1 w.params).In h₀) (F : Fr h₀ L s.heap m) (N : News h₀ L s.heap (tA ++ (tB ++ news))) (T : Top p loose mean mg mb h₀) (hA : TA tA) (hB : TB tB) (oA : ∀ q ∈ news, q.1 ≠ 54) (oB : ∀ q ∈ news, q.1 ≠ 61) (hSM : (SM, listOf [.ref S0, .ref S1].toArray ks) ∈ news) (hS0 : (S0, listOf z0.toArray k0) ∈ news) (hS1 : (S1, listOf z1.toArray k1) ∈ news) (i0 : IntsAre z0 n0) (i1 : IntsAre z1 n1) (hm : m "sums" = some (.ref SM)) (hd : m "divisor" = some (.int D td)) (hD : 0 < D) (hbb : Builtin.Int.intBits D ≤ 7999) (hab : (Builtin.Int.intBits (n0.sum + n1.sum) : Int) ≤ 20 * Builtin.Int.intBits D) (hQ : ∀ (t1 t2 : Tok) (tA' tB' : List (Addr × Obj)) h' tk' m', Fr h₀ L h' m' → News h₀ L h' (tA' ++ (tB' ++ news)) → TA tA' → TB tB' → m' "quotient" = some (.int ((n0.sum + n1.sum) / D) t1) → m' "rest" = some (.int ((n0.sum + n1.sum) % D) t2) → (∀ x, x ≠ Str.ofString "quotient" → x ≠ Str.ofString "rest" → m' x = m x) →
      wpAny (model PySem.Challenge.rw_in0279_01.row.toRowW.prog w) (callerA.deeper (envOfC "law" sc L fa cd)) (execs r (envOfC "law" sc L fa cd)) Q E { s with heap := h', toks := tk' }),
    wpAny (model PySem.Challenge.rw_in0279_01.row.toRowW.prog w) (callerA.deeper (envOfC "law" sc L fa cd)) (execs (sL 11 :: r) (envOfC "law" sc L fa cd)) Q E s := by
  k_with_none
  w_top off
  k_with "om" => (first | decide | (with_reducible first | (refine neN ?_; first | (refine Nat.ne_of_lt ?_; first | ((repeat (first | assumption | exact om_k1 | refine Nat.lt_succ_of_lt ?_)); done) | (apply And.left; (iterate 18 (first | done | assumption | apply And.right)); done)) | (refine Nat.ne_of_gt ?_; first | ((repeat (first | assumption | exact om_k1 | refine Nat.lt_succ_of_lt ?_)); done) | (apply And.left; (iterate 18 (first | done | assumption | apply And.right)); done)) | (refine Ne.symm ?_; assumption) | (refine om_s ?_; omega)) | exact om_le (by assumption) rfl | exact om_ll (by assumption) rfl | exact om_lt (by assumption) rfl | exact om_lg (by assumption) rfl | exact om_r1 (by assumption) rfl | exact om_r2 (by assumption) rfl | exact om_r3 (by assumption) rfl | exact om_il (by assumption) rfl | exact om_ig (by assumption) rfl | exact om_tn (by assumption) rfl | exact om_tl (by assumption) rfl | exact om_nc (by assumption) rfl | exact Int.natCast_nonneg _ | exact Int.le_of_lt (by assumption)) | (law_clear; lia))
  k_with "execs cons" => ((first | (k_here; k_gentoks) | (refine wpAny_execs_cons ?_; k_fold; (try k_extra "mlet"))))
  k_with "stp" => (repeat' (first | (k_unfold; (try dsimp only)) | (k_end; wrow_close) | (walk1; (all_goals (try dsimp only))) | (dsimp only; walk1) | (leave1; walk_say "STEP leave1"; try dsimp only) | fail "no step"))
  k_with "spliced" => (k_dflt (first | ((with_reducible show wpAny _ _ (spliced (backTo _ (starEach [_] _))) _ _ _); refine sp1 ?_) | ((with_reducible show wpAny _ _ (spliced (backTo _ (starEach [_, _] _))) _ _ _); refine sp2 ?_) | ((with_reducible show wpAny _ _ (spliced (backTo _ (starEach [_, _, _] _))) _ _ _); refine sp3 ?_)))
  k_with "eval Name" => ((k_dflt (refine' ldE ?w9q1 ?w9q2 ?_ ?w9q3 ?w9q4 ?w9q5 ?w9q6; (case w9q1 => k_asm); (case w9q2 => first | with_reducible assumption | exact rfl | assumption); (case w9q3 => exact rfl); (case w9q4 => exact rfl); (case w9q5 => exact rfl); (case w9q6 => decide); k_whole)))
  k_with "subscriptTail Name Constant ref int" => ((k_dflt (refine' sub_L ?w9qN ?w9qm ?w9qa ?w9qb ?w9qz ?_ ?w9qs; (case w9qN => k_asm); (case w9qm => (repeat (first | exact List.mem_cons_self | assumption | exact List.mem_append_right _ (by assumption) | refine List.mem_cons_of_mem _ ?_))); (case w9qa => decide); (case w9qb => exact rfl); (case w9qz => decide); (case w9qs => with_unfolding_all rfl))))
  k_with "call builtin:sum" => ((k_dflt (refine' LSm.sum_ints ?w9q1 ?w9q2 ?w9q3 ?w9q4 ?w9q5 ?_; (case w9q1 => k_asm); (case w9q2 => k_asm); (case w9q3 => exact rfl); (case w9q4 => exact News.isList (by k_asm) (by (repeat (first | exact List.mem_cons_self | assumption | exact List.mem_append_right _ (by assumption) | refine List.mem_cons_of_mem _ ?_)))); (case w9q5 => assumption)); intro hW9' tkW9' tW9' FW9' NW9'))
  k_with "call ref" => (((with_reducible show wpAny _ _ (call (Value.ref 80) _) _ _ _); k_dflt (refine' Spec.use (int_divmod _ _ _ _ _ _ _ _ ?w9h1 ?w9h2 ?w9h3 ?w9h4 ?w9h5 ?w9h6 ?w9h7) ?w9B ?w9F ?w9X ?w9N ?w9T ?w9k ?w9d ?w9u ?_; (case w9B => k_asm); (case w9F => k_asm); (case w9X => k_asm); (case w9N => k_asm); (case w9h1 => assumption); (case w9h2 => assumption); (case w9h3 => assumption); (case w9h4 => assumption); (case w9h5 => assumption); (case w9h6 => assumption); (case w9h7 => assumption); (case w9T => k_asm); (case w9k => first | exact rfl | assumption); (case w9d => ktr_room); (case w9u => ktr_units)); intro rW9' nwW9' hW9' tkW9' FW9' NW9' hPW9'; obtain ⟨xW9', t1W9', t2W9', qW9', rrW9', tAW9', tBW9', hqW9', hrrW9', hAW9', hBW9'⟩ := hPW9'; subst hqW9' hrrW9'; (try dsimp only)))
  k_fill
  intro B X F N T hA hB oA oB hSM hS0 hS1 i0 i1 hm hd hD hbb hab hQ
  have hSM' : (SM, listOf [.ref S0, .ref S1].toArray ks) ∈ tA ++ (tB ++ news) := List.mem_append_right _ (List.mem_append_right _ hSM)
  have hS0' : (S0, listOf z0.toArray k0) ∈ tA ++ (tB ++ news) := List.mem_append_right _ (List.mem_append_right _ hS0)
  have hS1' : (S1, listOf z1.toArray k1) ∈ tA ++ (tB ++ news) := List.mem_append_right _ (List.mem_append_right _ hS1)
  conv at hsc => rhs; whnf
  subst hsc
  have hb : sL 11 = sL 11 := rfl
  conv at hb => rhs; unfold sL; whnf
  rw [hb]
  clear hb
  k_extra "stp"
  refine hQ _ _ _ _ _ _ _ (by k_asm) (cb_drop (by k_asm) fun q hq => .tail _ hq) (by assumption) (by assumption) rfl rfl (fun x e1 e2 => ?_)
  show (if _ then _ else _) = _
  rw [if_neg e2, if_neg e1]
end
end Mine
end

section
open PySem PySem.W PyProof.Rows PyProof.Rows.LCg PyProof.Rows.LCt
set_option maxRecDepth 100000
set_option maxHeartbeats 8000000
namespace Mine
section
variable {h₀ : Heap} {L fa : Addr} {cd : Value} {sc : Scope} {s : Shared} {m : Str → Option Value} {Q : Flow → Shared → Prop} {E : Value → Shared → Prop}
theorem law12 (w : World) (hsc : sc = scW) {CN : Addr} {cv : List Value} {kc : Nat} {cs : List Int} {q W : Int} {tq tr tw : Tok} {tA tB news : List (Addr × Obj)} {p : Program} {loose : List Str} {mean : ExcName → Option Value} {mg mb : Str → Option Value} {r : List Stmt} : ∀ (B : Below callerA h₀ [] h₀) (X : (mk.heap_1 w.params).In h₀) (F : Fr h₀ L s.heap m) (N : News h₀ L s.heap (tA ++ (tB ++ news))) (T : Top p loose mean mg mb h₀) (hA : TA tA) (hB : TB tB) (oA : ∀ q ∈ news, q.1 ≠ 54) (hCN : (CN, listOf cv.toArray kc) ∈ news) (hi : IntsAre cv cs) (hm : m "counts" = some (.ref CN)) (hq : m "quotient" = some (.int q tq)) (hr : m "rest" = some (.int 0 tr)) (hw : m "width" = some (.int W tw)) (w0 : 0 < W) (w1 : W ≤ 100000) (q0 : 0 ≤ q) (q1 : (Builtin.Int.intBits q + W - 1).fdiv W ≤ 256) (q2 : (Builtin.Int.intBits q : Int) + W ≤ 1000000) (heq : (!decide (digs (2 ^ W.toNat) ((Builtin.Int.intBits q + W - 1).fdiv W).toNat q = cs)) = false) (hQ : ∀ (tA' : List (Addr × Obj)) h' tk', Fr h₀ L h' m → News h₀ L h' (tA' ++ (tB ++ news)) → TA tA' →
      wpAny (model PySem.Challenge.rw_in0279_01.row.toRowW.prog w) (callerA.deeper (envOfC "law" sc L fa cd)) (execs r (envOfC "law" sc L fa cd)) Q E { s with heap := h', toks := tk' }),
    wpAny (model PySem.Challenge.rw_in0279_01.row.toRowW.prog w) (callerA.deeper (envOfC "law" sc L fa cd)) (execs (sL 12 :: r) (envOfC "law" sc L fa cd)) Q E s := by
  k_with_none
  w_top off
  k_with "om" => (first | decide | (with_reducible first | (refine neN ?_; first | (refine Nat.ne_of_lt ?_; first | ((repeat (first | assumption | exact om_k1 | refine Nat.lt_succ_of_lt ?_)); done) | (apply And.left; (iterate 18 (first | done | assumption | apply And.right)); done)) | (refine Nat.ne_of_gt ?_; first | ((repeat (first | assumption | exact om_k1 | refine Nat.lt_succ_of_lt ?_)); done) | (apply And.left; (iterate 18 (first | done | assumption | apply And.right)); done)) | (refine Ne.symm ?_; assumption) | (refine om_s ?_; omega)) | exact om_le (by assumption) rfl | exact om_ll (by assumption) rfl | exact om_lt (by assumption) rfl | exact om_lg (by assumption) rfl | exact om_r1 (by assumption) rfl | exact om_r2 (by assumption) rfl | exact om_r3 (by assumption) rfl | exact om_il (by assumption) rfl | exact om_ig (by assumption) rfl | exact om_tn (by assumption) rfl | exact om_tl (by assumption) rfl | exact om_nc (by assumption) rfl | exact Int.natCast_nonneg _ | exact Int.le_of_lt (by assumption)) | (law_clear; lia))
  k_with "execs cons" => ((first | (k_here; k_gentoks) | (refine wpAny_execs_cons ?_; k_fold; (try k_extra "mlet"))))
  k_with "stp" => (repeat' (first | (k_unfold; (try dsimp only)) | (k_end; wrow_close) | (walk1; (all_goals (try dsimp only))) | (dsimp only; walk1) | (leave1; walk_say "STEP leave1"; try dsimp only) | fail "no step"))
  k_with "spliced" => (k_dflt (first | ((with_reducible show wpAny _ _ (spliced (backTo _ (starEach [_] _))) _ _ _); refine sp1 ?_) | ((with_reducible show wpAny _ _ (spliced (backTo _ (starEach [_, _] _))) _ _ _); refine sp2 ?_) | ((with_reducible show wpAny _ _ (spliced (backTo _ (starEach [_, _, _] _))) _ _ _); refine sp3 ?_)))
  k_with "eval Name" => ((k_dflt (refine' ldE ?w9q1 ?w9q2 ?_ ?w9q3 ?w9q4 ?w9q5 ?w9q6; (case w9q1 => k_asm); (case w9q2 => first | with_reducible assumption | exact rfl | assumption); (case w9q3 => exact rfl); (case w9q4 => exact rfl); (case w9q5 => exact rfl); (case w9q6 => decide); k_whole)))
  k_with "compareOp NotEq ref ref" => ((k_dflt (refine' ne_I ?w9qN ?w9qa ?w9qb ?w9qi ?w9qj ?w9qu ?w9qr ?_; (case w9qN => k_asm); (case w9qa => exact .head _); (case w9qb => exact .tail _ (List.mem_append_right _ (by assumption))); (case w9qi => assumption); (case w9qj => assumption); (case w9qu => ke_room); (case w9qr => assumption))))
  k_with "call ref" => (((with_reducible show wpAny _ _ (call (Value.ref 59) _) _ _ _); k_dflt (refine' Spec.use (int2digits _ _ _ _ _ _ _ ?w9h1 ?w9h2 ?w9h3 ?w9h4 ?w9h5 ?w9h6 ?w9h7) ?w9B ?w9F ?w9X ?w9N ?w9T ?w9k ?w9d ?w9u ?_; (case w9B => k_asm); (case w9F => k_asm); (case w9X => k_asm); (case w9N => k_asm); (case w9h1 => assumption); (case w9h2 => assumption); (case w9h3 => assumption); (case w9h4 => assumption); (case w9h5 => assumption); (case w9h6 => assumption); (case w9h7 => assumption); (case w9T => k_asm); (case w9k => first | exact rfl | assumption); (case w9d => ktr_room); (case w9u => ktr_units)); intro rW9' nwW9' hW9' tkW9' FW9' NW9' hPW9'; obtain ⟨xW9', vsW9', tlW9', hTW9', hIW9', hxW9'⟩ := hPW9'; (try dsimp only)))
  k_fill
  intro B X F N T hA hB oA hCN hi hm hq hr hw w0 w1 q0 q1 q2 heq hQ
  have hoff : ∀ q ∈ tB ++ news, q.1 ≠ 54 := fun q hq => by
    rcases List.mem_append.mp hq with hq | hq
    · exact hB.off (by decide) (by decide) q hq
    · exact oA q hq
  have hCN1 : (CN, listOf cv.toArray kc) ∈ tB ++ news := List.mem_append_right _ hCN
  conv at hsc => rhs; whnf
  subst hsc
  have hb : sL 12 = sL 12 := rfl
  conv at hb => rhs; unfold sL; whnf
  rw [hb]
  clear hb
  k_extra "stp"
  exact hQ _ _ _ (by k_asm) (cb_drop (by k_asm) fun q hq => .tail _ hq) (by assumption)
end
end Mine
end

section
open PySem PySem.W PyProof.Rows PyProof.Rows.LCg PyProof.Rows.LCt
set_option maxRecDepth 100000
set_option maxHeartbeats 8000000
namespace Mine
theorem drop3 {h₀ h : Heap} {L : Addr} {a b c d e : Addr × Obj} {r : List (Addr × Obj)} (N : News h₀ L h (a :: b :: c :: d :: e :: r)) : News h₀ L h (e :: b :: d :: r) := cb_drop N fun q hq => by
  rcases List.mem_cons.mp hq with rfl | hq
  · exact .tail _ (.tail _ (.tail _ (.tail _ (.head _))))
  · rcases List.mem_cons.mp hq with rfl | hq
    · exact .tail _ (.head _)
    · rcases List.mem_cons.mp hq with rfl | hq
      · exact .tail _ (.tail _ (.tail _ (.head _)))
      · exact .tail _ (.tail _ (.tail _ (.tail _ (.tail _ hq))))
section
variable {h₀ : Heap} {L fa : Addr} {cd : Value} {sc : Scope} {s : Shared} {m : Str → Option Value} {Q : Flow → Shared → Prop} {E : Value → Shared → Prop}
theorem law13 (w : World) (hsc : sc = scW) {K4 K6 BG B0 B1 : Addr} {b0 b1 : List Value} {g0 g1 : List Str} {j0 j1 kb : Nat} {o4 o6 : Obj} {v₀ : Option Value} {rest : List (Addr × Obj)} {p : Program} {loose : List Str} {mean : ExcName → Option Value} {mg mb : Str → Option Value} {r : List Stmt} : ∀ (hK4 : K4 = L + 1 + 1 + 1 + 1) (hK6 : K6 = L + 1 + 1 + 1 + 1 + 1 + 1) (B : Below callerA h₀ [] h₀) (X : (mk.heap_1 w.params).In h₀) (F : Fr h₀ L s.heap m) (N : News h₀ L s.heap ((K6, o6) :: rest)) (T : Top p loose mean mg mb h₀) (hr : ∀ q ∈ rest, q.1 ≠ K6) (c4 : (K4, o4) ∈ rest) (hBG : (BG, listOf [.ref B0, .ref B1].toArray kb) ∈ rest) (hB0 : (B0, listOf b0.toArray j0) ∈ rest) (hB1 : (B1, listOf b1.toArray j1) ∈ rest) (d4 : o4.data = .cell (some (.ref BG))) (d6 : o6.data = .cell v₀) (s0 : StrsAre b0 g0) (s1 : StrsAre b1 g1) (z0 : b0.length ≤ 900) (z1 : b1.length ≤ 900) (hQ : ∀ (M LF : Addr) (vM vL : List Value) (c1 c2 : Nat) (o6' : Obj) h' tk', Fr h₀ L h' (fun z => if z = Str.ofString "missing" then some (.ref M) else m z) → News h₀ L h' ((K6, o6') :: (M, listOf vM.toArray c1) :: (LF, listOf vL.toArray c2) :: rest) → o6'.data = .cell (some (.ref LF)) → StrsAre vM (uld g0.reverse g1 []).1 → StrsAre vL (uld g0.reverse g1 []).2 →
      wpAny (model PySem.Challenge.rw_in0279_01.row.toRowW.prog w) (callerA.deeper (envOfC "law" sc L fa cd)) (execs r (envOfC "law" sc L fa cd)) Q E { s with heap := h', toks := tk' }),
    wpAny (model PySem.Challenge.rw_in0279_01.row.toRowW.prog w) (callerA.deeper (envOfC "law" sc L fa cd)) (execs (sL 13 :: r) (envOfC "law" sc L fa cd)) Q E s := by
  k_with_none
  w_top off
  k_with "om" => (first | decide | (with_reducible first | (refine neN ?_; first | (refine Nat.ne_of_lt ?_; first | ((repeat (first | assumption | exact om_k1 | refine Nat.lt_succ_of_lt ?_)); done) | (apply And.left; (iterate 18 (first | done | assumption | apply And.right)); done)) | (refine Nat.ne_of_gt ?_; first | ((repeat (first | assumption | exact om_k1 | refine Nat.lt_succ_of_lt ?_)); done) | (apply And.left; (iterate 18 (first | done | assumption | apply And.right)); done)) | (refine Ne.symm ?_; assumption) | (refine om_s ?_; omega)) | exact om_le (by assumption) rfl | exact om_ll (by assumption) rfl | exact om_lt (by assumption) rfl | exact om_lg (by assumption) rfl | exact om_r1 (by assumption) rfl | exact om_r2 (by assumption) rfl | exact om_r3 (by assumption) rfl | exact om_il (by assumption) rfl | exact om_ig (by assumption) rfl | exact om_tn (by assumption) rfl | exact om_tl (by assumption) rfl | exact om_nc (by assumption) rfl | exact Int.natCast_nonneg _ | exact Int.le_of_lt (by assumption)) | (law_clear; lia))
  k_with "execs cons" => ((first | (k_here; k_gentoks) | (refine wpAny_execs_cons ?_; k_fold; (try k_extra "mlet"))))
  k_with "stp" => (repeat' (first | (k_unfold; (try dsimp only)) | (k_end; wrow_close) | (walk1; (all_goals (try dsimp only))) | (dsimp only; walk1) | (leave1; walk_say "STEP leave1"; try dsimp only) | fail "no step"))
  k_with "spliced" => (k_dflt (first | ((with_reducible show wpAny _ _ (spliced (backTo _ (starEach [_] _))) _ _ _); refine sp1 ?_) | ((with_reducible show wpAny _ _ (spliced (backTo _ (starEach [_, _] _))) _ _ _); refine sp2 ?_) | ((with_reducible show wpAny _ _ (spliced (backTo _ (starEach [_, _, _] _))) _ _ _); refine sp3 ?_)))
  k_with "eval Name" => ((k_dflt (first
  | (refine' ldE ?w9q1 ?w9q2 ?_ ?w9q3 ?w9q4 ?w9q5 ?w9q6; (case w9q1 => k_asm); (case w9q2 => first | with_reducible assumption | exact rfl | assumption); (case w9q3 => exact rfl); (case w9q4 => exact rfl); (case w9q5 => exact rfl); (case w9q6 => decide); k_whole)
  | (refine' ldC ?w9q1 ?w9q2 ?w9q3 ?_ ?w9q4 ?w9q5 ?w9q6 ?w9q7; (case w9q4 => exact rfl); (case w9q5 => exact rfl); (case w9q6 => exact rfl); (case w9q7 => decide); (case w9q1 => k_asm); (case w9q2 => (repeat (first | exact List.mem_cons_self | assumption | exact List.mem_append_right _ (by assumption) | refine List.mem_cons_of_mem _ ?_))); (case w9q3 => assumption); k_whole))))
  k_with "subscriptTail Name Constant ref int" => ((k_dflt (refine' sub_L ?w9qN ?w9qm ?w9qa ?w9qb ?w9qz ?_ ?w9qs; (case w9qN => k_asm); (case w9qm => (repeat (first | exact List.mem_cons_self | assumption | exact List.mem_append_right _ (by assumption) | refine List.mem_cons_of_mem _ ?_))); (case w9qa => decide); (case w9qb => exact rfl); (case w9qz => decide); (case w9qs => with_unfolding_all rfl))))
  k_with "call type:list" => ((k_dflt (refine' kup_listOf ?w9q1 ?w9q2 ?w9q3 rfl ?_ ?w9q4; (case w9q1 => k_asm); (case w9q2 => k_asm); (case w9q3 => (repeat (first | exact List.mem_cons_self | assumption | exact List.mem_append_right _ (by assumption) | refine List.mem_cons_of_mem _ ?_))); (case w9q4 => (simp only [List.toList_toArray]; unfold sizeLine; omega)); intro DW9' cW9' hW9' FW9' NW9' l1W9)))
  k_with "call ref" => (((with_reducible show wpAny _ _ (call (Value.ref 38) _) _ _ _); refine Halt.of ?_))
  k_fill
  intro hK4 hK6 B X F N T hr c4 hBG hB0 hB1 d4 d6 s0 s1 z0 z1 hQ
  subst hK4 hK6
  conv at hsc => rhs; whnf
  subst hsc
  have hb : sL 13 = sL 13 := rfl
  conv at hb => rhs; unfold sL; whnf
  rw [hb]
  clear hb
  k_extra "stp"
  refine Halt.to ?_
  rename (∀ q ∈ _ :: _ :: rest, q.1 < _) => lA
  rename (∀ q ∈ _ :: rest, q.1 < _) => lE
  rename News _ _ _ _ => N9
  rename Fr _ _ _ _ => F9
  simp only [List.toList_toArray] at N9 lA
  have NS := news_swap N9
  k_dflt (refine' uldS w _ _ b0 b1 _ _ g0 g1 _ s0 s1 ?z0 ?z1 ?hne ?oE ?oA _ _ _ _ _ _ _ _ callerA h₀ h₀ L m _ p loose mean mg mb _ _ X T B F9 X NS T rfl ?hd ?hu ?_; (case z0 => omega); (case z1 => omega); (case hd => ktr_room); (case hu => ktr_units); (case hne => exact Nat.ne_of_gt (lA _ (.head _))); (case oE => exact fun q hq => Nat.ne_of_lt (lE q hq)); (case oA => exact fun q hq => Nat.ne_of_lt (lA q (.tail _ hq))))
  intro x M vM vL c1 c2 c3 h9 tk9 F8 N8 hvM hvL
  (try dsimp only)
  k_extra "stp"
  rename News _ _ _ _ => N7
  rename Fr _ _ _ _ => F7
  have N6 := drop3 N7
  refine storeC F7 N6 d6 (fun q hq => ?_) ?_ rfl rfl rfl
  · rcases List.mem_cons.mp hq with rfl | hq
    · exact ne_data N6 (.tail _ (.head _)) (.head _) (by rw [d6]; exact fun h => nomatch h)
    · rcases List.mem_cons.mp hq with rfl | hq
      · exact ne_data N6 (.tail _ (.tail _ (.head _))) (.head _) (by rw [d6]; exact fun h => nomatch h)
      · exact hr q hq
  · intro h' o' F' N' d'
    k_extra "stp"
    exact hQ _ _ _ _ _ _ _ _ _ F' N' d' hvM hvL
end
end Mine
end

section
open PySem PySem.W PyProof.Rows PyProof.Rows.LCg PyProof.Rows.LCt
set_option maxRecDepth 100000
set_option maxHeartbeats 8000000
namespace Mine
theorem vall_none {V : Nat → Value → Prop} : ∀ {n i : Nat} {ys : List Value}, VAll V (fun _ => false) n i ys → ys = []
  | 0, _, _, h => h
  | n + 1, i, ys, h => by
    unfold VAll at h
    rw [if_neg (by decide)] at h
    exact vall_none h
section
variable {h₀ : Heap} {L fa : Addr} {cd : Value} {sc : Scope} {s : Shared} {m : Str → Option Value} {Q : Flow → Shared → Prop} {E : Value → Shared → Prop}
theorem law14 (w : World) (hsc : sc = scW) {K6 M LF : Addr} {vM vL : List Value} {xs ys : List Str} {c1 c2 : Nat} {o6 : Obj} {news : List (Addr × Obj)} {p : Program} {loose : List Str} {mean : ExcName → Option Value} {mg mb : Str → Option Value} {r : List Stmt} : ∀ (hK6 : K6 = L + 1 + 1 + 1 + 1 + 1 + 1) (B : Below callerA h₀ [] h₀) (X : (mk.heap_1 w.params).In h₀) (F : Fr h₀ L s.heap m) (N : News h₀ L s.heap news) (T : Top p loose mean mg mb h₀) (c6 : (K6, o6) ∈ news) (hM : (M, listOf vM.toArray c1) ∈ news) (hL : (LF, listOf vL.toArray c2) ∈ news) (d6 : o6.data = .cell (some (.ref LF))) (sM : StrsAre vM xs) (sL' : StrsAre vL ys) (zM : vM.length ≤ 900) (hm : m "missing" = some (.ref M)) (hdis : ∀ x ∈ xs, x ∉ ys) (hQ : ∀ h' tk', Fr h₀ L h' m → News h₀ L h' news →
      wpAny (model PySem.Challenge.rw_in0279_01.row.toRowW.prog w) (callerA.deeper (envOfC "law" sc L fa cd)) (execs r (envOfC "law" sc L fa cd)) Q E { s with heap := h', toks := tk' }),
    wpAny (model PySem.Challenge.rw_in0279_01.row.toRowW.prog w) (callerA.deeper (envOfC "law" sc L fa cd)) (execs (sL 14 :: r) (envOfC "law" sc L fa cd)) Q E s := by
  k_with_none
  w_top off
  k_with "om" => (first | decide | (with_reducible first | (refine neN ?_; first | (refine Nat.ne_of_lt ?_; first | ((repeat (first | assumption | exact om_k1 | refine Nat.lt_succ_of_lt ?_)); done) | (apply And.left; (iterate 18 (first | done | assumption | apply And.right)); done)) | (refine Nat.ne_of_gt ?_; first | ((repeat (first | assumption | exact om_k1 | refine Nat.lt_succ_of_lt ?_)); done) | (apply And.left; (iterate 18 (first | done | assumption | apply And.right)); done)) | (refine Ne.symm ?_; assumption) | (refine om_s ?_; omega)) | exact om_le (by assumption) rfl | exact om_ll (by assumption) rfl | exact om_lt (by assumption) rfl | exact om_lg (by assumption) rfl | exact om_r1 (by assumption) rfl | exact om_r2 (by assumption) rfl | exact om_r3 (by assumption) rfl | exact om_il (by assumption) rfl | exact om_ig (by assumption) rfl | exact om_tn (by assumption) rfl | exact om_tl (by assumption) rfl | exact om_nc (by assumption) rfl | exact Int.natCast_nonneg _ | exact Int.le_of_lt (by assumption)) | (law_clear; lia))
  k_with "execs cons" => ((first | (k_here; k_gentoks) | (refine wpAny_execs_cons ?_; k_fold; (try k_extra "mlet"))))
  k_with "stp" => (repeat' (first | (k_unfold; (try dsimp only)) | (k_end; wrow_close) | (walk1; (all_goals (try dsimp only))) | (dsimp only; walk1) | (leave1; walk_say "STEP leave1"; try dsimp only) | fail "no step"))
  k_with "spliced" => (k_dflt (first | ((with_reducible show wpAny _ _ (spliced (backTo _ (starEach [_] _))) _ _ _); refine sp1 ?_) | ((with_reducible show wpAny _ _ (spliced (backTo _ (starEach [_, _] _))) _ _ _); refine sp2 ?_) | ((with_reducible show wpAny _ _ (spliced (backTo _ (starEach [_, _, _] _))) _ _ _); refine sp3 ?_)))
  k_with "eval Name" => ((k_dflt (refine' ldE ?w9q1 ?w9q2 ?_ ?w9q3 ?w9q4 ?w9q5 ?w9q6; (case w9q1 => k_asm); (case w9q2 => first | with_reducible assumption | exact rfl | assumption); (case w9q3 => exact rfl); (case w9q4 => exact rfl); (case w9q5 => exact rfl); (case w9q6 => decide); k_whole)))
  k_with "eval Name" => (((with_reducible show wpAny _ _ (eval (PySem.Expr.Name _ _) (compEnvC _ _ _ _)) _ _ _); k_dflt (first
  | (refine LCgL.ld_own (by k_asm) (by (repeat (first | exact List.mem_cons_self | assumption | exact List.mem_append_right _ (by assumption) | refine List.mem_cons_of_mem _ ?_))) (by assumption) (by assumption) ?_)
  | (refine' lcf_cell ?w9N ?w9c ?w9m ?w9d ?_ ?w9a ?w9b; (case w9a => rfl); (case w9b => rfl); (case w9N => k_asm); (case w9c => rfl); (case w9m => (repeat (first | exact List.mem_cons_self | assumption | exact List.mem_append_right _ (by assumption) | refine List.mem_cons_of_mem _ ?_))); (case w9d => assumption); k_whole))))
  k_with "eval ListComp" => ((k_dflt (refine LCt.ListComp_T (F₀ := by k_asm) (by with_unfolding_all rfl) (by decide) (by rfl) (by decide) (by rfl) ?_)))
  k_with "CompSrcT" => ((k_dflt (refine LCt.CompSrcT.ledger (by rfl) (by k_asm) (by k_asm) (by assumption) (by (rw [List.size_toArray]; unfold sizeLine; omega)) ?_); intro gW9'; refine Halt.of ?_))
  k_with "compareOp In str ref" => ((k_dflt (refine' in_list_strs (News.isList (by k_asm) ?w9qm) ?w9qi ?_; (case w9qm => (repeat (first | exact List.mem_cons_self | assumption | exact List.mem_append_right _ (by assumption) | refine List.mem_cons_of_mem _ ?_))); (case w9qi => assumption))))
  k_with "compareOp NotEq ref ref" => ((k_dflt (refine' ne_I (vs := []) (us := []) ?w9qN ?w9qa ?w9qb .nil .nil ?w9qu ?w9qr ?_; (case w9qN => k_asm); (case w9qa => exact .tail _ (.head _)); (case w9qb => exact .head _); (case w9qu => ke_room); (case w9qr => exact rfl))))
  k_fill
  intro hK6 B X F N T c6 hM hL d6 sM sL' zM hm hdis hQ
  subst hK6
  conv at hsc => rhs; whnf
  subst hsc
  have hb : sL 14 = sL 14 := rfl
  conv at hb => rhs; unfold sL; whnf
  rw [hb]
  clear hb
  have hml := sM.length
  k_extra "stp"
  refine Halt.to ?_
  refine restT (M := vM.toArray.size) (b := fun _ => false) (V := fun _ _ => True) (.inr ⟨_, hM, rfl, _, rfl⟩) ?_ ?_ _ _ _ (by omega) ?_
  · intro i v I oI C oC D ys2 m2 h2 tk2 E' Q' hi4 hP hN hm2 F9 N9 hret9
    obtain ⟨t, rfl⟩ := strs_get sM (i := i) (v := v) (by simpa using hP)
    have hin : i < xs.length := by rw [List.size_toArray] at hi4; omega
    have hx : xs.getD i default ∈ xs := by
      rw [List.getD_eq_getElem?_getD, List.getElem?_eq_getElem hin]; exact List.getElem_mem hin
    have hany : (ys.any (· == xs.getD i default)) = false := by
      rw [List.any_eq_false]
      intro y hy
      have := hdis _ hx
      intro e
      exact this (by rw [← eq_of_beq e]; exact hy)
    have hr := hret9 h2 tk2 F9 N9
    (try dsimp only)
    k_extra "stp"
    rw [hany]; exact hr
  · intro i v I oI C oC D ys m2 h2 tk2 E' Q' hi4 hb
    exact nomatch hb
  · intro ys' hys D9 h9 tk9 F9 N9 o9
    have := vall_none hys
    subst this
    (try dsimp only)
    k_extra "stp"
    exact hQ _ _ (by k_asm) (cb_drop (by k_asm) fun q hq => .tail _ (.tail _ hq))
end
end Mine
end

section
open PySem PySem.W PyProof.Rows PyProof.Rows.LCg PyProof.Rows.LCt PySem.Calls
set_option maxRecDepth 100000
set_option maxHeartbeats 8000000
namespace Mine
theorem idx_L {prog : Program} {w : World} {A : Around} {E : Value → Shared → Prop} {s : Shared} {h₀ : Heap} {L D : Addr} {news : List (Addr × Obj)} {vs : List Value} {n : Nat} {xs : List Str} {k : Str} {t : Tok} {Q : Value → Shared → Prop} (N : News h₀ L s.heap news) (hm : (D, listOf vs.toArray n) ∈ news) (hi : StrsAre vs xs) (hk : k ∈ xs) (hz : xs.length ≤ 1000)
    (h : ∀ tk k9, Q (.int ((xs.idxOf k : Nat) : Int) tk) { s with toks := k9 }) : wpAny (model prog w) A (call (.builtin "list.index") [.ref D, .str k t]) Q E s := by
  have z := N _ hm
  have hj : xs.idxOf k < xs.length := List.idxOf_lt_length_iff.mpr hk
  have hl := hi.length
  have hes : ∀ y, y ∈ vs.toArray → MeetsSeq.EqGives y (.str k t) (isStrOf k y) := fun y hy => eq_isStrOf k t hi y (by simpa using hy)
  refine call_meets PySem.F.slot_list_index ⟨_, z.1, rfl⟩ PySem.F.entry_list_index (PySem.F.args_list_index_2 _ _)
    (MeetsSeq.list_index D vs.toArray n (.str k t) (isStrOf k) hes (xs.idxOf k) (by simp; omega) (by omega) ?_ ?_) ⟨z.1, h _ _⟩
  · have := strs_at hi k (xs.idxOf k) (by omega)
    simp only [List.getElem_idxOf, beq_self_eq_true] at this
    simpa using this
  · intro i hi' hlt
    have h3 : i < vs.length := by simpa using hi'
    have := strs_at hi k i h3
    have h4 : (xs[i]'(by omega) == k) = false := by
      rw [beq_eq_false_iff_ne]
      intro e
      have h5 : xs.idxOf k ≤ i := idxOf_le (by omega) e
      omega
    rw [h4] at this
    simpa using this
theorem wei_sum {ns : List Str} {p : Int} : ∀ xs : List Str, (xs.map (wt ns p)).sum = wei ns p xs
  | [] => rfl
  | x :: xs => by rw [List.map_cons, List.sum_cons, wei, wei_sum xs]
theorem pow_idx {prog : Program} {w : World} {A : Around} {E : Value → Shared → Prop} {s : Shared} {a : Int} {n : Nat} {t u : Tok} {Q : Value → Shared → Prop} (hn4 : n ≤ 1000) (ha : Builtin.Int.intBits a ≤ 6000) (h : ∀ tk k9, Q (.int (a ^ n) tk) { s with toks := k9 }) : wpAny (model prog w) A (binaryOp .Pow (.int a t) (.int (n : Int) u)) Q E s := by
  refine pow_int (by omega) ?_ ?_
  · have h1 : (Builtin.Int.intBits a : Int) * n ≤ 6000 * n := Int.mul_le_mul_of_nonneg_right (by omega) (by omega)
    have : (6000 : Int) * n ≤ 6000000 := by omega
    exact Int.le_trans h1 (Int.le_trans this (by decide))
  · rw [Int.toNat_natCast]; exact h _ _
section
variable {h₀ : Heap} {L fa : Addr} {cd : Value} {sc : Scope} {s : Shared} {m : Str → Option Value} {Q : Flow → Shared → Prop} {E : Value → Shared → Prop}
theorem law15 (w : World) (hsc : sc = scW) {K2 K5 M NM : Addr} {vM ys : List Value} {xs nms : List Str} {c1 kn : Nat} {P : Int} {tp : Tok} {o2 o5 : Obj} {news : List (Addr × Obj)} {p : Program} {loose : List Str} {mean : ExcName → Option Value} {mg mb : Str → Option Value} {r : List Stmt} : ∀ (hK2 : K2 = L + 1 + 1) (hK5 : K5 = L + 1 + 1 + 1 + 1 + 1) (B : Below callerA h₀ [] h₀) (X : (mk.heap_1 w.params).In h₀) (F : Fr h₀ L s.heap m) (N : News h₀ L s.heap news) (T : Top p loose mean mg mb h₀) (c2 : (K2, o2) ∈ news) (c5 : (K5, o5) ∈ news) (hM : (M, listOf vM.toArray c1) ∈ news) (hNM : (NM, listOf ys.toArray kn) ∈ news) (d2 : o2.data = .cell (some (.int P tp))) (d5 : o5.data = .cell (some (.ref NM))) (sM : StrsAre vM xs) (sn : StrsAre ys nms) (zM : vM.length ≤ 900) (zn : nms.length ≤ 100) (hm : m "missing" = some (.ref M)) (hsub : ∀ x ∈ xs, x ∈ nms) (hp : Builtin.Int.intBits P ≤ 6000) (hQ : ∀ (td : Tok) h' tk', Fr h₀ L h' (fun z => if z = Str.ofString "due" then some (.int (wei nms P xs) td) else m z) → News h₀ L h' news →
      wpAny (model PySem.Challenge.rw_in0279_01.row.toRowW.prog w) (callerA.deeper (envOfC "law" sc L fa cd)) (execs r (envOfC "law" sc L fa cd)) Q E { s with heap := h', toks := tk' }),
    wpAny (model PySem.Challenge.rw_in0279_01.row.toRowW.prog w) (callerA.deeper (envOfC "law" sc L fa cd)) (execs (sL 15 :: r) (envOfC "law" sc L fa cd)) Q E s := by
  k_with_none
  w_top off
  k_with "om" => (first | decide | (with_reducible first | (refine neN ?_; first | (refine Nat.ne_of_lt ?_; first | ((repeat (first | assumption | exact om_k1 | refine Nat.lt_succ_of_lt ?_)); done) | (apply And.left; (iterate 18 (first | done | assumption | apply And.right)); done)) | (refine Nat.ne_of_gt ?_; first | ((repeat (first | assumption | exact om_k1 | refine Nat.lt_succ_of_lt ?_)); done) | (apply And.left; (iterate 18 (first | done | assumption | apply And.right)); done)) | (refine Ne.symm ?_; assumption) | (refine om_s ?_; omega)) | exact om_le (by assumption) rfl | exact om_ll (by assumption) rfl | exact om_lt (by assumption) rfl | exact om_lg (by assumption) rfl | exact om_r1 (by assumption) rfl | exact om_r2 (by assumption) rfl | exact om_r3 (by assumption) rfl | exact om_il (by assumption) rfl | exact om_ig (by assumption) rfl | exact om_tn (by assumption) rfl | exact om_tl (by assumption) rfl | exact om_nc (by assumption) rfl | exact Int.natCast_nonneg _ | exact Int.le_of_lt (by assumption)) | (law_clear; lia))
  k_with "execs cons" => ((first | (k_here; k_gentoks) | (refine wpAny_execs_cons ?_; k_fold; (try k_extra "mlet"))))
  k_with "stp" => (repeat' (first | (k_unfold; (try dsimp only)) | (k_end; wrow_close) | (walk1; (all_goals (try dsimp only))) | (dsimp only; walk1) | (leave1; walk_say "STEP leave1"; try dsimp only) | fail "no step"))
  k_with "spliced" => (k_dflt (first | ((with_reducible show wpAny _ _ (spliced (backTo _ (starEach [_] _))) _ _ _); refine sp1 ?_) | ((with_reducible show wpAny _ _ (spliced (backTo _ (starEach [_, _] _))) _ _ _); refine sp2 ?_) | ((with_reducible show wpAny _ _ (spliced (backTo _ (starEach [_, _, _] _))) _ _ _); refine sp3 ?_)))
  k_with "eval Name" => ((k_dflt (first
  | (refine' ldE ?w9q1 ?w9q2 ?_ ?w9q3 ?w9q4 ?w9q5 ?w9q6; (case w9q1 => k_asm); (case w9q2 => first | with_reducible assumption | exact rfl | assumption); (case w9q3 => exact rfl); (case w9q4 => exact rfl); (case w9q5 => exact rfl); (case w9q6 => decide); k_whole)
  | (refine' ldC ?w9q1 ?w9q2 ?w9q3 ?_ ?w9q4 ?w9q5 ?w9q6 ?w9q7; (case w9q4 => exact rfl); (case w9q5 => exact rfl); (case w9q6 => exact rfl); (case w9q7 => decide); (case w9q1 => k_asm); (case w9q2 => (repeat (first | exact List.mem_cons_self | assumption | exact List.mem_append_right _ (by assumption) | refine List.mem_cons_of_mem _ ?_))); (case w9q3 => assumption); k_whole))))
  k_with "eval Name" => (((with_reducible show wpAny _ _ (eval (PySem.Expr.Name _ _) (compEnvC _ _ _ _)) _ _ _); k_dflt (first
  | (refine LCgL.ld_own (by k_asm) (by (repeat (first | exact List.mem_cons_self | assumption | exact List.mem_append_right _ (by assumption) | refine List.mem_cons_of_mem _ ?_))) (by assumption) (by assumption) ?_)
  | (refine' lcf_cell ?w9N ?w9c ?w9m ?w9d ?_ ?w9a ?w9b; (case w9a => rfl); (case w9b => rfl); (case w9N => k_asm); (case w9c => rfl); (case w9m => (repeat (first | exact List.mem_cons_self | assumption | exact List.mem_append_right _ (by assumption) | refine List.mem_cons_of_mem _ ?_))); (case w9d => assumption); k_whole))))
  k_with "eval ListComp" => ((k_dflt (refine LCg.ListComp_U (F₀ := by k_asm) (by with_unfolding_all rfl) (by decide) (by rfl) (by decide) (by rfl) ?_)))
  k_with "CompSrc" => ((k_dflt (refine LCg.CompSrc.ledger (by rfl) (by k_asm) (by k_asm) (by assumption) (by (rw [List.size_toArray]; unfold sizeLine; omega)) ?_); intro gW9'; refine Halt.of ?_))
  k_with "getMethod ref" => (((with_reducible show wpAny _ _ (getMethod (Value.ref _) (PySem.Str.ofString "index") _) _ _ _); k_dflt (refine' kl_method ?w9qN ?w9qm PySem.F.slot_list_index PySem.F.type_list_index ?_; (case w9qN => k_asm); (case w9qm => (repeat (first | exact List.mem_cons_self | assumption | exact List.mem_append_right _ (by assumption) | refine List.mem_cons_of_mem _ ?_))))))
  k_with "call builtin:list.index" => ((k_dflt (refine' idx_L ?w9qN ?w9qm ?w9qi ?w9qk ?w9qz ?_; (case w9qN => k_asm); (case w9qm => (repeat (first | exact List.mem_cons_self | assumption | exact List.mem_append_right _ (by assumption) | refine List.mem_cons_of_mem _ ?_))); (case w9qi => assumption); (case w9qk => assumption); (case w9qz => omega)); intro tW9' kW9'))
  k_with "binaryOp Pow int int" => ((k_dflt (refine' pow_idx ?w9q1 ?w9q2 ?_; (case w9q1 => omega); (case w9q2 => assumption)); intro tW9' kW9'))
  k_with "call builtin:sum" => ((k_dflt (refine' LSm.sum_ints ?w9q1 ?w9q2 ?w9q3 ?w9q4 ?w9q5 ?_; (case w9q1 => k_asm); (case w9q2 => k_asm); (case w9q3 => exact rfl); (case w9q4 => exact News.isList (by k_asm) (by (repeat (first | exact List.mem_cons_self | assumption | exact List.mem_append_right _ (by assumption) | refine List.mem_cons_of_mem _ ?_)))); (case w9q5 => assumption)); intro hW9' tkW9' tW9' FW9' NW9'))
  k_fill
  intro hK2 hK5 B X F N T c2 c5 hM hNM d2 d5 sM sn zM zn hm hsub hp hQ
  subst hK2 hK5
  conv at hsc => rhs; whnf
  subst hsc
  have hb : sL 15 = sL 15 := rfl
  conv at hb => rhs; unfold sL; whnf
  rw [hb]
  clear hb
  have hml := sM.length
  k_extra "stp"
  refine Halt.to ?_
  refine restV (M := vM.toArray.size) (V := fun i y => ∃ t, y = .int (wt nms P (xs.getD i default)) t) (.inr ⟨_, hM, rfl, _, rfl⟩) ?_ _ _ _ (by omega) ?_
  · intro i v I oI C oC D ys2 m2 h2 tk2 E' Q' hi4 hP hN hm2 F9 N9 hret9
    obtain ⟨t, rfl⟩ := strs_get sM (i := i) (v := v) (by simpa using hP)
    have hin : i < xs.length := by rw [List.size_toArray] at hi4; omega
    have hx : xs.getD i default ∈ nms := by
      rw [List.getD_eq_getElem?_getD, List.getElem?_eq_getElem hin]; exact hsub _ (List.getElem_mem hin)
    have hix : nms.idxOf (xs.getD i default) < nms.length := List.idxOf_lt_length_iff.mpr hx
    (try dsimp only)
    k_extra "stp"
    exact hret9 _ _ _ ⟨_, rfl⟩ F9 N9
  · intro ys' hys D9 h9 tk9 F9 N9 o9
    have hys := VAll.ints hys
    rw [List.size_toArray, hml, range_getD (wt nms P) xs] at hys
    (try dsimp only)
    rw [List.nil_append] at N9
    k_extra "stp"
    rename Fr _ _ _ _ => F7
    rw [wei_sum] at F7
    exact hQ _ _ _ F7 (cb_drop (by k_asm) fun q hq => .tail _ hq)
theorem law16 (w : World) (hsc : sc = scW) {K2 K5 K6 M NM : Addr} {vM ys : List Value} {xs nms : List Str} {c1 kn : Nat} {P : Int} {tp : Tok} {o2 o5 o6 : Obj} {dv : Int} {td0 : Tok} {news : List (Addr × Obj)} {p : Program} {loose : List Str} {mean : ExcName → Option Value} {mg mb : Str → Option Value} {r : List Stmt} : ∀ (hK2 : K2 = L + 1 + 1) (hK5 : K5 = L + 1 + 1 + 1 + 1 + 1) (hK6 : K6 = L + 1 + 1 + 1 + 1 + 1 + 1) (B : Below callerA h₀ [] h₀) (X : (mk.heap_1 w.params).In h₀) (F : Fr h₀ L s.heap m) (N : News h₀ L s.heap news) (T : Top p loose mean mg mb h₀) (c2 : (K2, o2) ∈ news) (c5 : (K5, o5) ∈ news) (c6 : (K6, o6) ∈ news) (hM : (M, listOf vM.toArray c1) ∈ news) (hNM : (NM, listOf ys.toArray kn) ∈ news) (d2 : o2.data = .cell (some (.int P tp))) (d5 : o5.data = .cell (some (.ref NM))) (sM : StrsAre vM xs) (sn : StrsAre ys nms) (zM : vM.length ≤ 900) (zn : nms.length ≤ 100) (d6 : o6.data = .cell (some (.ref M))) (hdue : m "due" = some (.int dv td0)) (hsub : ∀ x ∈ xs, x ∈ nms) (hp : Builtin.Int.intBits P ≤ 6000) (hQ : ∀ (td : Tok) h' tk', Fr h₀ L h' (fun z => if z = Str.ofString "due" then some (.int (dv - wei nms P xs) td) else m z) → News h₀ L h' news →
      wpAny (model PySem.Challenge.rw_in0279_01.row.toRowW.prog w) (callerA.deeper (envOfC "law" sc L fa cd)) (execs r (envOfC "law" sc L fa cd)) Q E { s with heap := h', toks := tk' }),
    wpAny (model PySem.Challenge.rw_in0279_01.row.toRowW.prog w) (callerA.deeper (envOfC "law" sc L fa cd)) (execs (sL 16 :: r) (envOfC "law" sc L fa cd)) Q E s := by
  k_with_none
  w_top off
  k_with "om" => (first | decide | (with_reducible first | (refine neN ?_; first | (refine Nat.ne_of_lt ?_; first | ((repeat (first | assumption | exact om_k1 | refine Nat.lt_succ_of_lt ?_)); done) | (apply And.left; (iterate 18 (first | done | assumption | apply And.right)); done)) | (refine Nat.ne_of_gt ?_; first | ((repeat (first | assumption | exact om_k1 | refine Nat.lt_succ_of_lt ?_)); done) | (apply And.left; (iterate 18 (first | done | assumption | apply And.right)); done)) | (refine Ne.symm ?_; assumption) | (refine om_s ?_; omega)) | exact om_le (by assumption) rfl | exact om_ll (by assumption) rfl | exact om_lt (by assumption) rfl | exact om_lg (by assumption) rfl | exact om_r1 (by assumption) rfl | exact om_r2 (by assumption) rfl | exact om_r3 (by assumption) rfl | exact om_il (by assumption) rfl | exact om_ig (by assumption) rfl | exact om_tn (by assumption) rfl | exact om_tl (by assumption) rfl | exact om_nc (by assumption) rfl | exact Int.natCast_nonneg _ | exact Int.le_of_lt (by assumption)) | (law_clear; lia))
  k_with "execs cons" => ((first | (k_here; k_gentoks) | (refine wpAny_execs_cons ?_; k_fold; (try k_extra "mlet"))))
  k_with "stp" => (repeat' (first | (k_unfold; (try dsimp only)) | (k_end; wrow_close) | (walk1; (all_goals (try dsimp only))) | (dsimp only; walk1) | (leave1; walk_say "STEP leave1"; try dsimp only) | fail "no step"))
  k_with "spliced" => (k_dflt (first | ((with_reducible show wpAny _ _ (spliced (backTo _ (starEach [_] _))) _ _ _); refine sp1 ?_) | ((with_reducible show wpAny _ _ (spliced (backTo _ (starEach [_, _] _))) _ _ _); refine sp2 ?_) | ((with_reducible show wpAny _ _ (spliced (backTo _ (starEach [_, _, _] _))) _ _ _); refine sp3 ?_)))
  k_with "eval Name" => ((k_dflt (first
  | (refine' ldE ?w9q1 ?w9q2 ?_ ?w9q3 ?w9q4 ?w9q5 ?w9q6; (case w9q1 => k_asm); (case w9q2 => first | with_reducible assumption | exact rfl | assumption); (case w9q3 => exact rfl); (case w9q4 => exact rfl); (case w9q5 => exact rfl); (case w9q6 => decide); k_whole)
  | (refine' ldC ?w9q1 ?w9q2 ?w9q3 ?_ ?w9q4 ?w9q5 ?w9q6 ?w9q7; (case w9q4 => exact rfl); (case w9q5 => exact rfl); (case w9q6 => exact rfl); (case w9q7 => decide); (case w9q1 => k_asm); (case w9q2 => (repeat (first | exact List.mem_cons_self | assumption | exact List.mem_append_right _ (by assumption) | refine List.mem_cons_of_mem _ ?_))); (case w9q3 => assumption); k_whole))))
  k_with "eval Name" => (((with_reducible show wpAny _ _ (eval (PySem.Expr.Name _ _) (compEnvC _ _ _ _)) _ _ _); k_dflt (first
  | (refine LCgL.ld_own (by k_asm) (by (repeat (first | exact List.mem_cons_self | assumption | exact List.mem_append_right _ (by assumption) | refine List.mem_cons_of_mem _ ?_))) (by assumption) (by assumption) ?_)
  | (refine' lcf_cell ?w9N ?w9c ?w9m ?w9d ?_ ?w9a ?w9b; (case w9a => rfl); (case w9b => rfl); (case w9N => k_asm); (case w9c => rfl); (case w9m => (repeat (first | exact List.mem_cons_self | assumption | exact List.mem_append_right _ (by assumption) | refine List.mem_cons_of_mem _ ?_))); (case w9d => assumption); k_whole))))
  k_with "eval ListComp" => ((k_dflt (refine LCg.ListComp_U (F₀ := by k_asm) (by with_unfolding_all rfl) (by decide) (by rfl) (by decide) (by rfl) ?_)))
  k_with "CompSrc" => ((k_dflt (refine LCg.CompSrc.ledger (by rfl) (by k_asm) (by k_asm) (by assumption) (by (rw [List.size_toArray]; unfold sizeLine; omega)) ?_); intro gW9'; refine Halt.of ?_))
  k_with "getMethod ref" => (((with_reducible show wpAny _ _ (getMethod (Value.ref _) (PySem.Str.ofString "index") _) _ _ _); k_dflt (refine' kl_method ?w9qN ?w9qm PySem.F.slot_list_index PySem.F.type_list_index ?_; (case w9qN => k_asm); (case w9qm => (repeat (first | exact List.mem_cons_self | assumption | exact List.mem_append_right _ (by assumption) | refine List.mem_cons_of_mem _ ?_))))))
  k_with "call builtin:list.index" => ((k_dflt (refine' idx_L ?w9qN ?w9qm ?w9qi ?w9qk ?w9qz ?_; (case w9qN => k_asm); (case w9qm => (repeat (first | exact List.mem_cons_self | assumption | exact List.mem_append_right _ (by assumption) | refine List.mem_cons_of_mem _ ?_))); (case w9qi => assumption); (case w9qk => assumption); (case w9qz => omega)); intro tW9' kW9'))
  k_with "binaryOp Pow int int" => ((k_dflt (refine' pow_idx ?w9q1 ?w9q2 ?_; (case w9q1 => omega); (case w9q2 => assumption)); intro tW9' kW9'))
  k_with "call builtin:sum" => ((k_dflt (refine' LSm.sum_ints ?w9q1 ?w9q2 ?w9q3 ?w9q4 ?w9q5 ?_; (case w9q1 => k_asm); (case w9q2 => k_asm); (case w9q3 => exact rfl); (case w9q4 => exact News.isList (by k_asm) (by (repeat (first | exact List.mem_cons_self | assumption | exact List.mem_append_right _ (by assumption) | refine List.mem_cons_of_mem _ ?_)))); (case w9q5 => assumption)); intro hW9' tkW9' tW9' FW9' NW9'))
  k_fill
  intro hK2 hK5 hK6 B X F N T c2 c5 c6 hM hNM d2 d5 sM sn zM zn d6 hdue hsub hp hQ
  subst hK2 hK5 hK6
  conv at hsc => rhs; whnf
  subst hsc
  have hb : sL 16 = sL 16 := rfl
  conv at hb => rhs; unfold sL; whnf
  rw [hb]
  clear hb
  have hml := sM.length
  k_extra "stp"
  refine Halt.to ?_
  refine restV (M := vM.toArray.size) (V := fun i y => ∃ t, y = .int (wt nms P (xs.getD i default)) t) (.inr ⟨_, hM, rfl, _, rfl⟩) ?_ _ _ _ (by omega) ?_
  · intro i v I oI C oC D ys2 m2 h2 tk2 E' Q' hi4 hP hN hm2 F9 N9 hret9
    obtain ⟨t, rfl⟩ := strs_get sM (i := i) (v := v) (by simpa using hP)
    have hin : i < xs.length := by rw [List.size_toArray] at hi4; omega
    have hx : xs.getD i default ∈ nms := by
      rw [List.getD_eq_getElem?_getD, List.getElem?_eq_getElem hin]; exact hsub _ (List.getElem_mem hin)
    have hix : nms.idxOf (xs.getD i default) < nms.length := List.idxOf_lt_length_iff.mpr hx
    (try dsimp only)
    k_extra "stp"
    exact hret9 _ _ _ ⟨_, rfl⟩ F9 N9
  · intro ys' hys D9 h9 tk9 F9 N9 o9
    have hys := VAll.ints hys
    rw [List.size_toArray, hml, range_getD (wt nms P) xs] at hys
    (try dsimp only)
    rw [List.nil_append] at N9
    k_extra "stp"
    rename Fr _ _ _ _ => F7
    rw [wei_sum] at F7
    exact hQ _ _ _ F7 (cb_drop (by k_asm) fun q hq => .tail _ hq)
end
end Mine
end

section
open PySem PySem.W PyProof.Rows PyProof.Rows.LCg PyProof.Rows.LCt
set_option maxRecDepth 100000
set_option maxHeartbeats 8000000
namespace Mine
section
variable {h₀ : Heap} {L fa : Addr} {cd : Value} {sc : Scope} {s : Shared} {m : Str → Option Value} {Q : Flow → Shared → Prop} {E : Value → Shared → Prop}
theorem law17 (w : World) (hsc : sc = scW) {SM S0 S1 : Addr} {z0 z1 : List Value} {n0 n1 : List Int} {k0 k1 ks : Nat} {D : Int} {du : Int} {td td0 : Tok} {tA tB news : List (Addr × Obj)} {p : Program} {loose : List Str} {mean : ExcName → Option Value} {mg mb : Str → Option Value} {r : List Stmt} : ∀ (B : Below callerA h₀ [] h₀) (X : (mk.heap_1 w.params).In h₀) (F : Fr h₀ L s.heap m) (N : News h₀ L s.heap (tA ++ (tB ++ news))) (T : Top p loose mean mg mb h₀) (hA : TA tA) (hB : TB tB) (oA : ∀ q ∈ news, q.1 ≠ 54) (oB : ∀ q ∈ news, q.1 ≠ 61) (hSM : (SM, listOf [.ref S0, .ref S1].toArray ks) ∈ news) (hS0 : (S0, listOf z0.toArray k0) ∈ news) (hS1 : (S1, listOf z1.toArray k1) ∈ news) (i0 : IntsAre z0 n0) (i1 : IntsAre z1 n1) (hm : m "sums" = some (.ref SM)) (hdue : m "due" = some (.int du td0)) (hq : (n0.sum - n1.sum) / D = du) (hrm : (n0.sum - n1.sum) % D = 0) (hd : m "divisor" = some (.int D td)) (hD : 0 < D) (hbb : Builtin.Int.intBits D ≤ 7999) (hab : (Builtin.Int.intBits (n0.sum - n1.sum) : Int) ≤ 20 * Builtin.Int.intBits D) (hQ : ∀ (tA' tB' : List (Addr × Obj)) h' tk', Fr h₀ L h' m → News h₀ L h' (tA' ++ (tB' ++ news)) → TA tA' → TB tB' → Q (.ret (.bool true)) { s with heap := h', toks := tk' }),
    wpAny (model PySem.Challenge.rw_in0279_01.row.toRowW.prog w) (callerA.deeper (envOfC "law" sc L fa cd)) (execs (sL 17 :: r) (envOfC "law" sc L fa cd)) Q E s := by
  k_with_none
  w_top off
  k_with "om" => (first | decide | (with_reducible first | (refine neN ?_; first | (refine Nat.ne_of_lt ?_; first | ((repeat (first | assumption | exact om_k1 | refine Nat.lt_succ_of_lt ?_)); done) | (apply And.left; (iterate 18 (first | done | assumption | apply And.right)); done)) | (refine Nat.ne_of_gt ?_; first | ((repeat (first | assumption | exact om_k1 | refine Nat.lt_succ_of_lt ?_)); done) | (apply And.left; (iterate 18 (first | done | assumption | apply And.right)); done)) | (refine Ne.symm ?_; assumption) | (refine om_s ?_; omega)) | exact om_le (by assumption) rfl | exact om_ll (by assumption) rfl | exact om_lt (by assumption) rfl | exact om_lg (by assumption) rfl | exact om_r1 (by assumption) rfl | exact om_r2 (by assumption) rfl | exact om_r3 (by assumption) rfl | exact om_il (by assumption) rfl | exact om_ig (by assumption) rfl | exact om_tn (by assumption) rfl | exact om_tl (by assumption) rfl | exact om_nc (by assumption) rfl | exact Int.natCast_nonneg _ | exact Int.le_of_lt (by assumption)) | (law_clear; lia))
  k_with "execs cons" => ((first | (k_here; k_gentoks) | (refine wpAny_execs_cons ?_; k_fold; (try k_extra "mlet"))))
  k_with "stp" => (repeat' (first | (k_unfold; (try dsimp only)) | (k_end; wrow_close) | (walk1; (all_goals (try dsimp only))) | (dsimp only; walk1) | (leave1; walk_say "STEP leave1"; try dsimp only) | fail "no step"))
  k_with "spliced" => (k_dflt (first | ((with_reducible show wpAny _ _ (spliced (backTo _ (starEach [_] _))) _ _ _); refine sp1 ?_) | ((with_reducible show wpAny _ _ (spliced (backTo _ (starEach [_, _] _))) _ _ _); refine sp2 ?_) | ((with_reducible show wpAny _ _ (spliced (backTo _ (starEach [_, _, _] _))) _ _ _); refine sp3 ?_)))
  k_with "eval Name" => ((k_dflt (refine' ldE ?w9q1 ?w9q2 ?_ ?w9q3 ?w9q4 ?w9q5 ?w9q6; (case w9q1 => k_asm); (case w9q2 => first | with_reducible assumption | exact rfl | assumption); (case w9q3 => exact rfl); (case w9q4 => exact rfl); (case w9q5 => exact rfl); (case w9q6 => decide); k_whole)))
  k_with "subscriptTail Name Constant ref int" => ((k_dflt (refine' sub_L ?w9qN ?w9qm ?w9qa ?w9qb ?w9qz ?_ ?w9qs; (case w9qN => k_asm); (case w9qm => (repeat (first | exact List.mem_cons_self | assumption | exact List.mem_append_right _ (by assumption) | refine List.mem_cons_of_mem _ ?_))); (case w9qa => decide); (case w9qb => exact rfl); (case w9qz => decide); (case w9qs => with_unfolding_all rfl))))
  k_with "call builtin:sum" => ((k_dflt (refine' LSm.sum_ints ?w9q1 ?w9q2 ?w9q3 ?w9q4 ?w9q5 ?_; (case w9q1 => k_asm); (case w9q2 => k_asm); (case w9q3 => exact rfl); (case w9q4 => exact News.isList (by k_asm) (by (repeat (first | exact List.mem_cons_self | assumption | exact List.mem_append_right _ (by assumption) | refine List.mem_cons_of_mem _ ?_)))); (case w9q5 => assumption)); intro hW9' tkW9' tW9' FW9' NW9'))
  k_with "call ref" => (((with_reducible show wpAny _ _ (call (Value.ref 80) _) _ _ _); k_dflt (refine' Spec.use (int_divmod _ _ _ _ _ _ _ _ ?w9h1 ?w9h2 ?w9h3 ?w9h4 ?w9h5 ?w9h6 ?w9h7) ?w9B ?w9F ?w9X ?w9N ?w9T ?w9k ?w9d ?w9u ?_; (case w9B => k_asm); (case w9F => k_asm); (case w9X => k_asm); (case w9N => k_asm); (case w9h1 => assumption); (case w9h2 => assumption); (case w9h3 => assumption); (case w9h4 => assumption); (case w9h5 => assumption); (case w9h6 => assumption); (case w9h7 => assumption); (case w9T => k_asm); (case w9k => first | exact rfl | assumption); (case w9d => ktr_room); (case w9u => ktr_units)); intro rW9' nwW9' hW9' tkW9' FW9' NW9' hPW9'; obtain ⟨xW9', t1W9', t2W9', qW9', rrW9', tAW9', tBW9', hqW9', hrrW9', hAW9', hBW9'⟩ := hPW9'; subst hqW9' hrrW9'; (try dsimp only)))
  k_fill
  intro B X F N T hA hB oA oB hSM hS0 hS1 i0 i1 hm hdue hq hrm hd hD hbb hab hQ
  have hSM' : (SM, listOf [.ref S0, .ref S1].toArray ks) ∈ tA ++ (tB ++ news) := List.mem_append_right _ (List.mem_append_right _ hSM)
  have hS0' : (S0, listOf z0.toArray k0) ∈ tA ++ (tB ++ news) := List.mem_append_right _ (List.mem_append_right _ hS0)
  have hS1' : (S1, listOf z1.toArray k1) ∈ tA ++ (tB ++ news) := List.mem_append_right _ (List.mem_append_right _ hS1)
  conv at hsc => rhs; whnf
  subst hsc
  have hb : sL 17 = sL 17 := rfl
  conv at hb => rhs; unfold sL; whnf
  rw [hb]
  clear hb
  k_extra "stp"
  rw [hq, hrm, show (du == du && (0 : Int) == 0) = true by simp]
  exact hQ _ _ _ _ (by k_asm) (cb_drop (by k_asm) fun q hq => .tail _ (.tail _ hq)) (by assumption) (by assumption)
end
end Mine
end

section
open PySem PySem.W PyProof.Rows
set_option maxRecDepth 100000
set_option maxHeartbeats 8000000
namespace Mine
theorem bits_lt {x : Int} {k : Nat} (h0 : 0 ≤ x) (h : x < (2 : Int) ^ k) : Builtin.Int.intBits x ≤ k := intBits_le_iff.mpr ((two_natAbs h0).mpr h)

theorem bits_abs {x : Int} {k : Nat} (h1 : -(2 : Int) ^ k < x) (h2 : x < (2 : Int) ^ k) : Builtin.Int.intBits x ≤ k := intBits_le_iff.mpr (by
  have e : ((2 ^ k : Nat) : Int) = (2 : Int) ^ k := by rw [Int.natCast_pow]; rfl
  rw [← e] at h1 h2; omega)
theorem bits_ge {x : Int} {k : Nat} (h : (2 : Int) ^ k ≤ x) : k + 1 ≤ Builtin.Int.intBits x := by
  have h0 : (0 : Int) < 2 ^ k := Int.pow_pos (by decide)
  rcases Nat.lt_or_ge (Builtin.Int.intBits x) (k + 1) with hlt | hge
  · have h1 := (two_natAbs (k := k) (x := x) (by omega)).mp (intBits_le_iff.mp (by omega))
    omega
  · exact hge
theorem mulOk {a b : Int} (h : Builtin.Int.intBits a + Builtin.Int.intBits b ≤ 100000) : IntMulOk a b := by
  unfold IntMulOk
  have e : Builtin.Int.intTooBig (Builtin.Int.intBits a + Builtin.Int.intBits b) = false := by
    unfold Builtin.Int.intTooBig bitsLine
    rw [decide_eq_false_iff_not]; omega
  rw [e, Bool.and_false]; simp
section
variable {w : Nat}
theorem p_pos : (0 : Int) < 2 ^ w := Int.pow_pos (by decide)

theorem p_32 (h : 5 ≤ w) : (32 : Int) ≤ 2 ^ w := by
  have h1 : (2 : Int) ^ 5 ≤ 2 ^ w := by exact_mod_cast Nat.pow_le_pow_right (by decide) h
  exact h1
theorem heW_le {h : Nat → Bool} {p : Int} (hp : 0 ≤ p) : 0 ≤ heW h p ∧ heW h p ≤ 1 + p + p ^ 2 + p ^ 3 := by
  have h2 : 0 ≤ p ^ 2 := Int.pow_nonneg hp
  have h3 : 0 ≤ p ^ 3 := Int.pow_nonneg hp
  have hb : ∀ (b : Bool) (x : Int), 0 ≤ x → 0 ≤ bint b x ∧ bint b x ≤ x := fun b x hx => by cases b <;> simp [bint] <;> omega
  have a0 := hb (h 0) 1 (by decide)
  have a1 := hb (h 1) p hp
  have a2 := hb (h 2) _ h2
  have a3 := hb (h 3) _ h3
  unfold heW; omega
theorem corn_bd (c : Int) {p : Int} (hp : 1 ≤ p) : 0 ≤ cornW (heldOf c) p 5 ∧ cornW (heldOf c) p 5 < p ^ 4 := by
  rw [corn_pl c 0 p]
  obtain ⟨h0, h1⟩ := heW_le (h := fun i => heldP (plOf c 0) (0 + i)) (p := p) (by omega)
  refine ⟨Int.mul_nonneg (by omega) h0, ?_⟩
  have h2 : (p - 1) * heW (fun i => heldP (plOf c 0) (0 + i)) p ≤ (p - 1) * (1 + p + p ^ 2 + p ^ 3) := Int.mul_le_mul_of_nonneg_left h1 (by omega)
  have h3 : (p - 1) * (1 + p + p ^ 2 + p ^ 3) = p ^ 4 - 1 := by grind
  have e : ((0 : Nat) : Int) = 0 := rfl
  rw [e] at *
  omega
theorem corn_bits (c : Int) {k : Nat} : Builtin.Int.intBits (cornW (heldOf c) (2 ^ k) 5) ≤ 4 * k := by
  have hp : (1 : Int) ≤ 2 ^ k := by have := p_pos (w := k); omega
  have ⟨h0, h1⟩ := corn_bd c hp
  refine bits_lt h0 ?_
  rw [← Int.pow_mul, Nat.mul_comm] at h1
  exact h1
theorem pow44 : ((2 : Int) ^ w) ^ (4 : Int).toNat = 2 ^ (w * 4) := by rw [← Int.pow_mul]; rfl

theorem corn_ok (hw : w ≤ 1204) (c d : Int) : IntMulOk (cornW (heldOf c) (((2 : Int) ^ w) ^ (4 : Int).toNat) 5) (cornW (heldOf d) (2 ^ w) 5) := by
  refine mulOk ?_
  rw [pow44]
  have h1 := corn_bits c (k := w * 4)
  have h2 := corn_bits d (k := w)
  omega
theorem p_bits (hw : w ≤ 1204) : Builtin.Int.intBits ((2 : Int) ^ w) ≤ 6000 := by
  have : Builtin.Int.intBits ((2 : Int) ^ w) ≤ w + 1 := bits_lt (Int.le_of_lt p_pos) (by rw [Int.pow_succ]; have := p_pos (w := w); omega)
  omega
theorem p4_bits (hw : w ≤ 1204) : Builtin.Int.intBits (((2 : Int) ^ w) ^ (4 : Int).toNat) ≤ 6000 := by
  rw [pow44]
  have : Builtin.Int.intBits ((2 : Int) ^ (w * 4)) ≤ w * 4 + 1 := bits_lt (Int.le_of_lt p_pos) (by rw [Int.pow_succ]; have := p_pos (w := w * 4); omega)
  omega
theorem divi_eq : ((2 : Int) ^ w - 1) * (((2 : Int) ^ w) ^ (4 : Int).toNat - 1) = divi (2 ^ w) := rfl

theorem divi_ok (hw : w ≤ 1204) : IntMulOk ((2 : Int) ^ w - 1) (((2 : Int) ^ w) ^ (4 : Int).toNat - 1) := by
  refine mulOk ?_
  rw [pow44]
  have h0 := p_pos (w := w)
  have h4 := p_pos (w := w * 4)
  have h1 : Builtin.Int.intBits ((2 : Int) ^ w - 1) ≤ w := bits_lt (by omega) (by omega)
  have h2 : Builtin.Int.intBits ((2 : Int) ^ (w * 4) - 1) ≤ w * 4 := bits_lt (by omega) (by omega)
  omega
theorem divi_bd (hw : 5 ≤ w) : (2 : Int) ^ (4 * w - 1) ≤ divi (2 ^ w) ∧ divi ((2 : Int) ^ w) < 2 ^ (5 * w) := by
  have h32 := p_32 hw
  have e4 : ((2 : Int) ^ w) ^ 4 = 2 ^ (4 * w) := by rw [← Int.pow_mul, Nat.mul_comm]
  have e5 : (2 : Int) ^ (5 * w) = 2 ^ w * 2 ^ (4 * w) := by rw [← Int.pow_add]; congr 1; omega
  have e6 : (2 : Int) ^ (4 * w) = 2 * 2 ^ (4 * w - 1) := by
    rw [Int.mul_comm, ← Int.pow_succ]; congr 1; omega
  have q := p_pos (w := 4 * w - 1)
  have q1 : (1 : Int) ≤ 2 ^ (4 * w - 1) := q
  unfold divi
  rw [e4, e5]
  generalize (2 : Int) ^ w = P at *
  rw [e6]
  generalize (2 : Int) ^ (4 * w - 1) = R at *
  have h1 : 31 * (2 * R - 1) ≤ (P - 1) * (2 * R - 1) := Int.mul_le_mul_of_nonneg_right (by omega) (by omega)
  have h2 : (P - 1) * (2 * R - 1) = P * (2 * R) - P - (2 * R) + 1 := by grind
  omega
theorem divi_pos (hw : 5 ≤ w) : 0 < divi ((2 : Int) ^ w) := Int.lt_of_lt_of_le p_pos (divi_bd hw).1

theorem divi_bits (hw : 5 ≤ w) (hw2 : w ≤ 1204) : Builtin.Int.intBits (divi ((2 : Int) ^ w)) ≤ 7999 ∧ 4 * w ≤ Builtin.Int.intBits (divi ((2 : Int) ^ w)) := by
  have h := divi_bd hw
  have h1 := bits_lt (Int.le_of_lt (divi_pos hw)) h.2
  have h2 := bits_ge h.1
  omega
theorem small_prod {x y : Int} (hw : 5 ≤ w) (hx0 : 0 ≤ x) (hx : x < (2 : Int) ^ (16 * w)) (hy0 : 0 ≤ y) (hy : y < (2 : Int) ^ (16 * w)) :
    Builtin.Int.intBits (divi ((2 : Int) ^ w) * (x - y)) ≤ 21 * w := by
  have hd := (divi_bd hw).2
  have hd0 := divi_pos hw
  have e : (2 : Int) ^ (21 * w) = 2 ^ (5 * w) * 2 ^ (16 * w) := by rw [← Int.pow_add]; congr 1; omega
  have q := p_pos (w := 16 * w)
  refine bits_abs ?_ ?_
  · rw [e]
    have h1 : divi ((2 : Int) ^ w) * (y - x) ≤ divi ((2 : Int) ^ w) * 2 ^ (16 * w) := Int.mul_le_mul_of_nonneg_left (by omega) (Int.le_of_lt hd0)
    have h2 : divi ((2 : Int) ^ w) * 2 ^ (16 * w) < 2 ^ (5 * w) * 2 ^ (16 * w) := Int.mul_lt_mul_of_pos_right hd q
    have h3 : divi ((2 : Int) ^ w) * (y - x) = -(divi ((2 : Int) ^ w) * (x - y)) := by grind
    omega
  · rw [e]
    have h1 : divi ((2 : Int) ^ w) * (x - y) ≤ divi ((2 : Int) ^ w) * 2 ^ (16 * w) := Int.mul_le_mul_of_nonneg_left (by omega) (Int.le_of_lt hd0)
    have h2 : divi ((2 : Int) ^ w) * 2 ^ (16 * w) < 2 ^ (5 * w) * 2 ^ (16 * w) := Int.mul_lt_mul_of_pos_right hd q
    omega
theorem wei_bd {st : Nat} (hw : 5 ≤ w) {g : List Str} (hm : ∀ x ∈ g, x ∈ namesN st) (hc : ∀ x, g.count x ≤ 8) : 0 ≤ wei (namesN st) (2 ^ w) g ∧ wei (namesN st) (2 ^ w) g < (2 : Int) ^ (16 * w) := by
  rw [wei_val (names_nodup st) hm]
  have h32 := p_32 hw
  have hb : ∀ c ∈ (namesN st).map (fun x => ((g.count x : Nat) : Int)), 0 ≤ c ∧ c < (2 : Int) ^ w := fun c hc' => by
    obtain ⟨x, _, rfl⟩ := List.mem_map.mp hc'
    have := hc x
    omega
  have h1 := val_nonneg p_pos hb
  have h2 := val_lt p_pos hb
  have e : ((namesN st).map (fun x => ((g.count x : Nat) : Int))).length = 16 := by simp [namesN, figN]
  rw [e, ← Int.pow_mul, Nat.mul_comm] at h2
  exact ⟨h1, h2⟩
end
theorem uld_fst : ∀ (es as ms : List Str) (x : Str), x ∈ (uld es as ms).1 → x ∈ es ∨ x ∈ ms
  | [], as, ms, x, h => .inr h
  | e :: es, as, ms, x, h => by
    unfold uld at h
    split at h
    · rcases uld_fst es _ ms x h with h | h
      · exact .inl (.tail _ h)
      · exact .inr h
    · rcases uld_fst es as _ x h with h | h
      · exact .inl (.tail _ h)
      · rcases List.mem_append.mp h with h | h
        · exact .inr h
        · exact .inl (by rw [List.mem_singleton.mp h]; exact .head _)
theorem uld_snd : ∀ (es as ms : List Str) (x : Str), x ∈ (uld es as ms).2 → x ∈ as
  | [], as, ms, x, h => h
  | e :: es, as, ms, x, h => by
    unfold uld at h
    split at h
    · exact List.mem_of_mem_erase (uld_snd es _ ms x h)
    · exact uld_snd es as _ x h
theorem uld_len : ∀ (es as ms : List Str), (uld es as ms).1.length ≤ es.length + ms.length ∧ (uld es as ms).2.length ≤ as.length
  | [], as, ms => by simp [uld]
  | e :: es, as, ms => by
    unfold uld
    split
    · have h := uld_len es (as.erase e) ms
      have h2 := List.length_erase_le (a := e) (l := as)
      rw [List.length_cons]; omega
    · have h := uld_len es as (ms ++ [e])
      rw [List.length_append, List.length_singleton] at h
      rw [List.length_cons]; omega
theorem uld_dis {es as : List Str} {x : Str} (h : x ∈ (uld es as []).1) : x ∉ (uld es as []).2 := by
  intro h2
  have hc := (uld_count x es as []).2 (.inl rfl)
  have c1 := List.count_pos_iff.mpr h
  have c2 := List.count_pos_iff.mpr h2
  omega
theorem div_of {d x : Int} (hd : 0 < d) : d * x / d = x ∧ d * x % d = 0 := ⟨Int.mul_ediv_cancel_left x (Int.ne_of_gt hd), Int.mul_emod_right d x⟩

end Mine
end

section
open PySem PySem.W PyProof.Rows PyProof.Rows.LCg PyProof.Rows.LCt
set_option maxRecDepth 100000
set_option maxHeartbeats 8000000
namespace Mine
theorem body_eq : fdBody (topStmt 25) = [sL 0, sL 1, sL 2, sL 3, sL 4, sL 5, sL 6, sL 7, sL 8, sL 9, sL 10, sL 11, sL 12, sL 13, sL 14, sL 15, sL 16, sL 17] := by unfold sL; rfl

section
variable {h₀ h : Heap} {L : Addr} {sm s1 s0 bg b1 b0 fg c k6 k5 k4 k3 k2 k1 ta tb tc cn nm x y : Addr × Obj} {tl tA tB news : List (Addr × Obj)}
theorem perm1 (N : News h₀ L h [sm, s1, s0, bg, b1, b0, fg, c, k6, k5, k4, k3, k2, k1, ta, tb, tc]) : News h₀ L h ([ta] ++ (b0 :: b1 :: s0 :: s1 :: [sm, bg, fg, c, k6, k5, k4, k3, k2, k1, tb, tc])) := cb_drop N (pick_all [14, 5, 4, 2, 1, 0, 3, 6, 7, 8, 9, 10, 11, 12, 13, 15, 16] rfl)

theorem perm2 (N : News h₀ L h (tl ++ (b0 :: b1 :: s0 :: s1 :: [sm, bg, fg, c, k6, k5, k4, k3, k2, k1, tb, tc]))) : News h₀ L h (k5 :: (tl ++ [b0, b1, s0, s1, sm, bg, fg, c, k6, k4, k3, k2, k1, tb, tc])) := cb_drop N (s_cons (List.mem_append_right _ (mi 9 rfl)) (s_keepA (pick_all [0, 1, 2, 3, 4, 5, 6, 7, 8, 10, 11, 12, 13, 14, 15] rfl)))

theorem perm3 (N : News h₀ L h (cn :: k5 :: nm :: (tl ++ [b0, b1, s0, s1, sm, bg, fg, c, k6, k4, k3, k2, k1, tb, tc]))) : News h₀ L h ([tc] ++ ([tb] ++ (cn :: k5 :: nm :: (tl ++ [b0, b1, s0, s1, sm, bg, fg, c, k6, k4, k3, k2, k1])))) := cb_drop N (s_cons (.tail _ (.tail _ (.tail _ (List.mem_append_right _ (mi 14 rfl))))) (s_cons (.tail _ (.tail _ (.tail _ (List.mem_append_right _ (mi 13 rfl))))) (s_keep (s_keep (s_keep (s_keepA (pick_all [0, 1, 2, 3, 4, 5, 6, 7, 8, 9, 10, 11, 12] rfl)))))))

theorem perm4 (N : News h₀ L h (tA ++ (tB ++ (cn :: k5 :: nm :: (tl ++ [b0, b1, s0, s1, sm, bg, fg, c, k6, k4, k3, k2, k1]))))) : News h₀ L h (k6 :: (tA ++ (tB ++ (cn :: k5 :: nm :: (tl ++ [b0, b1, s0, s1, sm, bg, fg, c, k4, k3, k2, k1]))))) := cb_drop N (s_cons (List.mem_append_right _ (List.mem_append_right _ (.tail _ (.tail _ (.tail _ (List.mem_append_right _ (mi 8 rfl))))))) (s_keepA (s_keepA (s_keep (s_keep (s_keep (s_keepA (pick_all [0, 1, 2, 3, 4, 5, 6, 7, 9, 10, 11, 12] rfl))))))))

theorem mem_k6 {q : Addr × Obj} (hq : q ∈ cn :: k5 :: nm :: (tl ++ [b0, b1, s0, s1, sm, bg, fg, c, k4, k3, k2, k1])) : q ∈ cn :: k5 :: nm :: (tl ++ [b0, b1, s0, s1, sm, bg, fg, c, k6, k4, k3, k2, k1]) := s_keep (s_keep (s_keep (s_keepA (pick_all [0, 1, 2, 3, 4, 5, 6, 7, 9, 10, 11, 12] rfl)))) q hq

theorem perm5 (N : News h₀ L h (k6 :: x :: y :: (tA ++ (tB ++ news)))) : News h₀ L h (tA ++ (tB ++ (k6 :: x :: y :: news))) := cb_drop N (s_app (fun _ h => .tail _ (.tail _ (.tail _ (List.mem_append_left _ h)))) (s_app (fun _ h => .tail _ (.tail _ (.tail _ (List.mem_append_right _ (List.mem_append_left _ h))))) (s_cons (.head _) (s_cons (.tail _ (.head _)) (s_cons (.tail _ (.tail _ (.head _))) fun _ h => .tail _ (.tail _ (.tail _ (List.mem_append_right _ (List.mem_append_right _ h)))))))))

end
theorem gt_ne {K X U : Nat} (hK : K ≤ U) (h : U < X) : X ≠ K := Nat.ne_of_gt (Nat.lt_of_le_of_lt hK h)

theorem lt_ne {K X : Nat} (h : X < K) : X ≠ K := Nat.ne_of_lt h

/-- what stands behind the law's cells -/
structure Far (L C B0 B1 S0 S1 SM BG : Nat) : Prop where
  h : 148 ≤ L
  c : L + 1 + 1 + 1 + 1 + 1 + 1 < C
  b0 : L + 1 + 1 + 1 + 1 + 1 + 1 < B0
  b1 : L + 1 + 1 + 1 + 1 + 1 + 1 < B1
  s0 : L + 1 + 1 + 1 + 1 + 1 + 1 < S0
  s1 : L + 1 + 1 + 1 + 1 + 1 + 1 < S1
  sm : L + 1 + 1 + 1 + 1 + 1 + 1 < SM
  bg : L + 1 + 1 + 1 + 1 + 1 + 1 < BG
theorem Far.mk' {L C B0 B1 S0 S1 SM BG : Nat} (h : 148 ≤ L) (a1 : L + 1 + 1 + 1 + 1 + 1 + 1 < C) (a2 : C < B0) (a4 : B0 < B1) (a5 : B1 < BG) (a6 : BG < S0) (a7 : S0 < S1) (a8 : S1 < SM) : Far L C B0 B1 S0 S1 SM BG := by
  have b0 := Nat.lt_trans a1 a2
  have b1 := Nat.lt_trans b0 a4
  have bg := Nat.lt_trans b1 a5
  have s0 := Nat.lt_trans bg a6
  have s1 := Nat.lt_trans s0 a7
  exact ⟨h, a1, b0, b1, s0, s1, Nat.lt_trans s1 a8, bg⟩
section
variable {L C B0 B1 S0 S1 SM BG FG K : Addr} {p1 p2 p3 p4 p5 p6 p7 p8 p9 q1 q2 q3 q4 q5 q6 : Obj}
theorem far_k5 (f : Far L C B0 B1 S0 S1 SM BG) (x : @Ne Nat FG (L + 1 + 1 + 1 + 1 + 1)) : ∀ q ∈ [(B0, p1), (B1, p2), (S0, p3), (S1, p4), (SM, p5), (BG, p6), (FG, p7), (C, p8), (L + 1 + 1 + 1 + 1 + 1 + 1, p9), (L + 1 + 1 + 1 + 1, q1), (L + 1 + 1 + 1, q2), (L + 1 + 1, q3), (L + 1, q4), (61, q5), (54, q6)], q.1 ≠ L + 1 + 1 + 1 + 1 + 1 := by
  have u : L + 1 + 1 + 1 + 1 + 1 ≤ L + 1 + 1 + 1 + 1 + 1 + 1 := Nat.le_succ _
  have v : 148 ≤ L + 1 + 1 + 1 + 1 + 1 := Nat.le_trans f.h (Nat.le_add_right L 5)
  simp only [List.forall_mem_cons, List.not_mem_nil, false_implies, implies_true, and_true]
  exact ⟨gt_ne u f.b0, gt_ne u f.b1, gt_ne u f.s0, gt_ne u f.s1, gt_ne u f.sm, gt_ne u f.bg, x, gt_ne u f.c, Nat.ne_of_gt (Nat.lt_succ_self _), lt_ne (Nat.lt_succ_self _), lt_ne (Nat.lt_add_of_pos_right (n := L + 1 + 1 + 1) (k := 2) (by decide)), lt_ne (Nat.lt_add_of_pos_right (n := L + 1 + 1) (k := 3) (by decide)), lt_ne (Nat.lt_add_of_pos_right (n := L + 1) (k := 4) (by decide)), lt_ne (Nat.lt_of_lt_of_le (by decide) v), lt_ne (Nat.lt_of_lt_of_le (by decide) v)⟩
theorem far_k6 (f : Far L C B0 B1 S0 S1 SM BG) (x : @Ne Nat FG (L + 1 + 1 + 1 + 1 + 1 + 1)) : ∀ q ∈ [(B0, p1), (B1, p2), (S0, p3), (S1, p4), (SM, p5), (BG, p6), (FG, p7), (C, p8), (L + 1 + 1 + 1 + 1, q1), (L + 1 + 1 + 1, q2), (L + 1 + 1, q3), (L + 1, q4)], q.1 ≠ L + 1 + 1 + 1 + 1 + 1 + 1 := by
  have u := Nat.le_refl (L + 1 + 1 + 1 + 1 + 1 + 1)
  simp only [List.forall_mem_cons, List.not_mem_nil, false_implies, implies_true, and_true]
  exact ⟨gt_ne u f.b0, gt_ne u f.b1, gt_ne u f.s0, gt_ne u f.s1, gt_ne u f.sm, gt_ne u f.bg, x, gt_ne u f.c, lt_ne (Nat.lt_add_of_pos_right (n := L + 1 + 1 + 1 + 1) (k := 2) (by decide)), lt_ne (Nat.lt_add_of_pos_right (n := L + 1 + 1 + 1) (k := 3) (by decide)), lt_ne (Nat.lt_add_of_pos_right (n := L + 1 + 1) (k := 4) (by decide)), lt_ne (Nat.lt_add_of_pos_right (n := L + 1) (k := 5) (by decide))⟩
theorem far_low (f : Far L C B0 B1 S0 S1 SM BG) (hK : @LE.le Nat _ K 61) (x : @Ne Nat FG K) : ∀ q ∈ [(B0, p1), (B1, p2), (S0, p3), (S1, p4), (SM, p5), (BG, p6), (FG, p7), (C, p8), (L + 1 + 1 + 1 + 1 + 1 + 1, p9), (L + 1 + 1 + 1 + 1, q1), (L + 1 + 1 + 1, q2), (L + 1 + 1, q3), (L + 1, q4)], q.1 ≠ K := by
  have v : K < L + 1 := Nat.lt_of_le_of_lt hK (Nat.lt_of_lt_of_le (by decide) (Nat.le_trans f.h (Nat.le_succ L)))
  have w : K ≤ L + 1 + 1 + 1 + 1 + 1 + 1 := Nat.le_trans (Nat.le_of_lt v) (Nat.le_add_right (L + 1) 5)
  simp only [List.forall_mem_cons, List.not_mem_nil, false_implies, implies_true, and_true]
  exact ⟨gt_ne w f.b0, gt_ne w f.b1, gt_ne w f.s0, gt_ne w f.s1, gt_ne w f.sm, gt_ne w f.bg, x, gt_ne w f.c, Nat.ne_of_gt (Nat.lt_add_right 5 v), Nat.ne_of_gt (Nat.lt_add_right 3 v), Nat.ne_of_gt (Nat.lt_add_right 2 v), Nat.ne_of_gt (Nat.lt_add_right 1 v), Nat.ne_of_gt v⟩
end
theorem T2.hi {tl : List (Addr × Obj)} (hT : T2 tl) : ∀ q ∈ tl, @LE.le Nat _ 106 q.1 := by
  intro q hq
  cases hT with
  | fresh =>
    simp only [List.mem_singleton] at hq
    subst hq; exact Nat.le_refl _
  | made h1 h2 h3 =>
    simp only [List.mem_cons, List.not_mem_nil, or_false] at hq
    rcases hq with rfl | rfl
    · exact Nat.le_refl _
    · exact Nat.le_of_lt h3
theorem T2.nocell {tl : List (Addr × Obj)} (hT : T2 tl) : ∀ q ∈ tl, ∀ v, q.2.data ≠ .cell v := by
  intro q hq v h
  cases hT with
  | fresh =>
    simp only [List.mem_singleton] at hq
    subst hq; cases h
  | made h1 h2 h3 =>
    simp only [List.mem_cons, List.not_mem_nil, or_false] at hq
    rcases hq with rfl | rfl
    · cases h
    · rw [h1] at h; cases h
theorem TS.nocell {P : Addr} {pos : Pos} {qual : Str} {tl : List (Addr × Obj)} (hT : TS P pos qual tl) : ∀ q ∈ tl, ∀ v, q.2.data ≠ .cell v := by
  intro q hq v h
  cases hT with
  | fresh =>
    simp only [List.mem_singleton] at hq
    subst hq; cases h
  | made h1 h2 h3 =>
    simp only [List.mem_cons, List.not_mem_nil, or_false] at hq
    rcases hq with rfl | rfl
    · cases h
    · rw [h1] at h; cases h
theorem TS.tab {P : Addr} {pos : Pos} {qual : Str} {tl : List (Addr × Obj)} (hT : TS P pos qual tl) : ∃ ps, (P, tabObj ps) ∈ tl := by cases hT <;> exact ⟨_, .head _⟩

theorem upd_ne {m : Str → Option Value} {x y : Str} {v u : Option Value} (h : y ≠ x) (e : m y = u) : (fun z => if z = x then v else m z) y = u := by
  show (if y = x then v else m y) = _
  rw [if_neg h]; exact e
theorem ints_cons {vs : List Value} {x : Int} {ns : List Int} (h : IntsAre vs (x :: ns)) : ∃ t vs', vs = .int x t :: vs' ∧ IntsAre vs' ns := by
  cases h with
  | cons _ t h => exact ⟨t, _, rfl, h⟩
end Mine
end

section
open PySem PySem.W PyProof.Rows PyProof.Rows.LCg PyProof.Rows.LCt
set_option maxRecDepth 100000
set_option maxHeartbeats 8000000
namespace Mine
/-- how the law's body ends -/
noncomputable def BodyEnd (h₀ : Heap) (L : Addr) (sB s' : Shared) : Prop :=
  ∃ m nw p1 p2 p3, Fr h₀ L s'.heap m ∧ News h₀ L s'.heap nw ∧ (106, tabObj p1) ∈ nw ∧ (61, tabObj p2) ∈ nw ∧ (54, tabObj p3) ∈ nw ∧ s'.os = sB.os ∧ AllBare s'.gens
section
variable {h₀ : Heap} {L fa : Addr} {cd : Value} {sc : Scope} {s : Shared} {m : Str → Option Value} {Q : Flow → Shared → Prop} {E : Value → Shared → Prop}
/-- behind the loop -/
theorem lawRest (w : World) (hsc : sc = scW) {C SM BG FG B0 B1 S0 S1 : Addr} {W : Int} {n st : Nat} {cs fs : List Value} {kc : Nat} {p1 p2 p3 p4 o5 o6 : Obj} {ts tp : Tok} {nw : List (Addr × Obj)} {sB : Shared} {p : Program} {loose : List Str} {mean : ExcName → Option Value} {mg mb : Str → Option Value}
    (B : Below callerA h₀ [] h₀) (X : (mk.heap_1 w.params).In h₀) (F : Fr h₀ L s.heap m) (N : News h₀ L s.heap nw) (T : Top p loose mean mg mb h₀)
    (hP : LoopP C SM B0 B1 S0 S1 [(SM, listOf #[.ref S0, .ref S1] 0), (BG, listOf #[.ref B0, .ref B1] 0), (FG, lst fs), (C, listOf cs.toArray kc), (L + 1 + 1 + 1 + 1 + 1 + 1, o6), (L + 1 + 1 + 1 + 1 + 1, o5), (L + 1 + 1 + 1 + 1, p4), (L + 1 + 1 + 1, p3), (L + 1 + 1, p2), (L + 1, p1), (61, tabObj #[]), (54, tabObj #[])] W st (2 ^ W.toNat) sB n m nw s)
    (hn : n ≤ 4) (w5 : 5 ≤ W) (w12 : W ≤ 1204) (h148 : @LE.le Nat _ 148 L) (a1 : @LT.lt Nat _ (L + 1 + 1 + 1 + 1 + 1 + 1) C) (a2 : @LT.lt Nat _ C B0) (a3 : @LT.lt Nat _ FG B0) (x5 : @Ne Nat FG (L + 1 + 1 + 1 + 1 + 1)) (x6 : @Ne Nat FG (L + 1 + 1 + 1 + 1 + 1 + 1)) (x61 : @Ne Nat FG 61) (x54 : @Ne Nat FG 54) (a4 : @LT.lt Nat _ B0 B1) (a5 : @LT.lt Nat _ B1 BG) (a6 : @LT.lt Nat _ BG S0) (a7 : @LT.lt Nat _ S0 S1) (a8 : @LT.lt Nat _ S1 SM)
    (d1 : p1.data = .cell (some (.int (st : Int) ts))) (d2 : p2.data = .cell (some (.int (2 ^ W.toNat) tp))) (d3 : p3.data = .cell (some (.ref FG))) (d4 : p4.data = .cell (some (.ref BG))) (d5 : o5.data = .cell none) (d6 : o6.data = .cell none) (hf : StrsAre fs ((figN st).map fun f => S [f]))
    (hE : PassesOwn (model PySem.Challenge.rw_in0279_01.row.toRowW.prog w) (callerA.deeper (envOfC "law" sc L fa cd)) (envOfC "law" sc L fa cd) E)
    (hQ : ∀ s', BodyEnd h₀ L sB s' → Q (.ret (.bool true)) s') :
    wpAny (model PySem.Challenge.rw_in0279_01.row.toRowW.prog w) (callerA.deeper (envOfC "law" sc L fa cd)) (execs [sL 7, sL 8, sL 9, sL 10, sL 11, sL 12, sL 13, sL 14, sL 15, sL 16, sL 17] (envOfC "law" sc L fa cd)) Q E s := by
  obtain ⟨tl, b0, b1, z0, z1, j0, j1, k0, k1, g0, g1, n0, n1, rfl, hT2, sb0, sb1, iz0, iz1, hI, hcm, hsm, ⟨tw, hwm⟩, hos, hgs⟩ := hP
  have far : Far L C B0 B1 S0 S1 SM BG := Far.mk' h148 a1 a2 a4 a5 a6 a7 a8
  have hw5 : 5 ≤ W.toNat := by omega
  have hw12 : W.toNat ≤ 1204 := by omega
  have hWn : ((W.toNat : Nat) : Int) = W := Int.toNat_of_nonneg (by omega)
  have lb0 := sb0.length
  have lb1 := sb1.length
  have hl0 := hI.l0
  have hl1 := hI.l1
  have hlen : (namesN st).length = 16 := by simp [namesN, figN]
  have hg : ∀ x ∈ g0 ++ g1, x ∈ namesN st := fun x hx => by
    rcases List.mem_append.mp hx with hx | hx
    · exact hI.m0 x hx
    · exact hI.m1 x hx
  have hcnt : ∀ x, (g0 ++ g1).count x ≤ 8 := fun x => by have := hI.cnt x; rw [List.count_append]; omega
  have hcnt0 : ∀ x, g0.count x ≤ 8 := fun x => by have := hI.cnt x; omega
  have hcnt1 : ∀ x, g1.count x ≤ 8 := fun x => by have := hI.cnt x; omega
  have wb := wei_bd hw5 hg hcnt
  have wb0 := wei_bd hw5 hI.m0 hcnt0
  have wb1 := wei_bd hw5 hI.m1 hcnt1
  have hsum : n0.sum + n1.sum = divi (2 ^ W.toNat) * wei (namesN st) (2 ^ W.toNat) (g0 ++ g1) := by rw [hI.s0, hI.s1, wei_app, Int.mul_add]
  have hdif : n0.sum - n1.sum = divi (2 ^ W.toNat) * (wei (namesN st) (2 ^ W.toNat) g0 - wei (namesN st) (2 ^ W.toNat) g1) := by rw [hI.s0, hI.s1, Int.mul_sub]
  have hDp := divi_pos hw5
  have hDb := divi_bits hw5 hw12
  refine law7 w hsc rfl B X F N T (c2 := by with_reducible repeat (first | exact List.mem_cons_self | refine List.mem_cons_of_mem _ ?_ | refine List.mem_append_right _ ?_)) d2 (p_bits hw12) (divi_ok hw12) ?_
  intro t7 s7 m7 F7 N7 md7 same7 os7 gs7
  have N7' := perm2 N7
  refine law8 w hsc rfl rfl B X F7 N7' T ?_ (by with_reducible repeat (first | exact List.mem_cons_self | refine List.mem_cons_of_mem _ ?_ | refine List.mem_append_right _ ?_)) (List.mem_append_right _ (.tail _ (.tail _ (.tail _ (.tail _ (.tail _ (.tail _ (.head _))))))))  d3 d5 hf (figs_len st) ?_
  · intro q hq
    rcases List.mem_append.mp hq with hq | hq
    · exact ne_data N7' (.tail _ (List.mem_append_left _ hq)) (.head _) (by rw [d5]; exact hT2.nocell q hq _)
    · exact far_k5 far x5 q hq
  intro NM ys o5' s8 F8 N8 d5' nNM sn os8 gs8
  have hsn : StrsAre ys (namesN st) := sn
  have ln := hsn.length
  refine law9 w hsc rfl rfl B X F8 N8 T (by with_reducible repeat (first | exact List.mem_cons_self | refine List.mem_cons_of_mem _ ?_ | refine List.mem_append_right _ ?_)) (.head _) (BG := BG) (B0 := B0) (B1 := B1) (kb := 0) (j0 := j0) (j1 := j1) (by with_reducible repeat (first | exact List.mem_cons_self | refine List.mem_cons_of_mem _ ?_ | refine List.mem_append_right _ ?_)) (by with_reducible repeat (first | exact List.mem_cons_self | refine List.mem_cons_of_mem _ ?_ | refine List.mem_append_right _ ?_)) (by with_reducible repeat (first | exact List.mem_cons_self | refine List.mem_cons_of_mem _ ?_ | refine List.mem_append_right _ ?_)) (.tail _ (.head _)) d4 d5' sb0 sb1 hsn (by omega) (by omega) (by omega) ?_
  intro CN cv s9 F9 N9 nCN icv os9 gs9
  refine law10 w hsc (P := 2 ^ W.toNat) B X F9 N9 T nCN rfl icv (by rw [List.length_map]; omega) hE ?_
  intro cs' cv' k' h10 tk10 F10 N10 icv' hval hsub hlc hlast
  have N10' := perm3 N10
  have hb16 : ∀ c ∈ cs', 0 ≤ c ∧ c < (2 : Int) ^ W.toNat := fun c hc => by
    obtain ⟨x, _, rfl⟩ := List.mem_map.mp (hsub c hc)
    have := hcnt x
    have := p_32 hw5
    omega
  have hq : wei (namesN st) (2 ^ W.toNat) (g0 ++ g1) = val (2 ^ W.toNat) cs' := by rw [hval, wei_val (names_nodup st) hg]
  have m9 : ∀ (x : Str) (v : Value), x ≠ Str.ofString "counts" → x ≠ Str.ofString "divisor" → m x = some v → (fun z => if z = Str.ofString "counts" then some (Value.ref CN) else m7 z) x = some v := fun x v e1 e2 e => upd_ne e1 (by rw [same7 x e2]; exact e)
  have t54 : (54, tabObj #[]) ∈ [(54, tabObj #[])] ++ ([(61, tabObj #[])] ++ ((CN, listOf cv'.toArray k') :: (L + 1 + 1 + 1 + 1 + 1, o5') :: (NM, lst ys) :: (tl ++ [(B0, listOf b0.toArray j0), (B1, listOf b1.toArray j1), (S0, listOf z0.toArray k0), (S1, listOf z1.toArray k1), (SM, listOf #[.ref S0, .ref S1] 0), (BG, listOf #[.ref B0, .ref B1] 0), (FG, lst fs), (C, listOf cs.toArray kc), (L + 1 + 1 + 1 + 1 + 1 + 1, o6), (L + 1 + 1 + 1 + 1, p4), (L + 1 + 1 + 1, p3), (L + 1 + 1, p2), (L + 1, p1)]))) := .head _
  have t61 : (61, tabObj #[]) ∈ [(54, tabObj #[])] ++ ([(61, tabObj #[])] ++ ((CN, listOf cv'.toArray k') :: (L + 1 + 1 + 1 + 1 + 1, o5') :: (NM, lst ys) :: (tl ++ [(B0, listOf b0.toArray j0), (B1, listOf b1.toArray j1), (S0, listOf z0.toArray k0), (S1, listOf z1.toArray k1), (SM, listOf #[.ref S0, .ref S1] 0), (BG, listOf #[.ref B0, .ref B1] 0), (FG, lst fs), (C, listOf cs.toArray kc), (L + 1 + 1 + 1 + 1 + 1 + 1, o6), (L + 1 + 1 + 1 + 1, p4), (L + 1 + 1 + 1, p3), (L + 1 + 1, p2), (L + 1, p1)]))) := .tail _ (.head _)
  have off : ∀ (R : Addr), @LE.le Nat _ R 61 → @Ne Nat FG R → (R, tabObj #[]) ∈ [(54, tabObj #[])] ++ ([(61, tabObj #[])] ++ ((CN, listOf cv'.toArray k') :: (L + 1 + 1 + 1 + 1 + 1, o5') :: (NM, lst ys) :: (tl ++ [(B0, listOf b0.toArray j0), (B1, listOf b1.toArray j1), (S0, listOf z0.toArray k0), (S1, listOf z1.toArray k1), (SM, listOf #[.ref S0, .ref S1] 0), (BG, listOf #[.ref B0, .ref B1] 0), (FG, lst fs), (C, listOf cs.toArray kc), (L + 1 + 1 + 1 + 1 + 1 + 1, o6), (L + 1 + 1 + 1 + 1, p4), (L + 1 + 1 + 1, p3), (L + 1 + 1, p2), (L + 1, p1)]))) →
      ∀ q ∈ (CN, listOf cv'.toArray k') :: (L + 1 + 1 + 1 + 1 + 1, o5') :: (NM, lst ys) :: (tl ++ [(B0, listOf b0.toArray j0), (B1, listOf b1.toArray j1), (S0, listOf z0.toArray k0), (S1, listOf z1.toArray k1), (SM, listOf #[.ref S0, .ref S1] 0), (BG, listOf #[.ref B0, .ref B1] 0), (FG, lst fs), (C, listOf cs.toArray kc), (L + 1 + 1 + 1 + 1 + 1 + 1, o6), (L + 1 + 1 + 1 + 1, p4), (L + 1 + 1 + 1, p3), (L + 1 + 1, p2), (L + 1, p1)]), q.1 ≠ R := by
    intro R hR hF ht q hq
    rcases List.mem_cons.mp hq with rfl | hq
    · exact ne_data N10' (.tail _ (.tail _ (.head _))) ht (fun h => nomatch h)
    rcases List.mem_cons.mp hq with rfl | hq
    · show @Ne Nat _ _; omega
    rcases List.mem_cons.mp hq with rfl | hq
    · exact ne_data N10' (.tail _ (.tail _ (.tail _ (.tail _ (.head _))))) ht (fun h => nomatch h)
    rcases List.mem_append.mp hq with hq | hq
    · have := hT2.hi q hq
      show @Ne Nat _ _; omega
    · exact far_low far hR hF q hq
  have o54 := off 54 (by decide) x54 t54
  have o61 := off 61 (by decide) x61 t61
  refine law11 w hsc B X F10 N10' T .fresh .fresh o54 o61 (SM := SM) (S0 := S0) (S1 := S1) (ks := 0) (k0 := k0) (k1 := k1) (D := divi (2 ^ W.toNat)) (by with_reducible repeat (first | exact List.mem_cons_self | refine List.mem_cons_of_mem _ ?_ | refine List.mem_append_right _ ?_)) (by with_reducible repeat (first | exact List.mem_cons_self | refine List.mem_cons_of_mem _ ?_ | refine List.mem_append_right _ ?_)) (by with_reducible repeat (first | exact List.mem_cons_self | refine List.mem_cons_of_mem _ ?_ | refine List.mem_append_right _ ?_)) iz0 iz1 (m9 _ _ (by decide) (by decide) hsm) (upd_ne (by decide) md7) hDp hDb.1 ?_ ?_
  · rw [hsum]
    have := small_prod hw5 wb.1 wb.2 (Int.le_refl 0) p_pos
    rw [Int.sub_zero] at this
    omega
  intro t1 t2 tA tB h11 tk11 m11 F11 N11 hA hB mq mr same11
  rw [hsum, (div_of hDp).1, hq] at mq
  rw [hsum, (div_of hDp).2] at mr
  have htr := digs_trim (w := W.toNat) (by omega) hb16 hlast
  rw [hWn] at htr
  have hv0 := val_nonneg p_pos hb16
  have hvl := val_lt p_pos hb16
  rw [← Int.pow_mul] at hvl
  have hvb := bits_lt hv0 hvl
  have hmul : W.toNat * cs'.length ≤ 1204 * 100 := Nat.mul_le_mul hw12 hlc
  have hcn : (CN, listOf cv'.toArray k') ∈ (CN, listOf cv'.toArray k') :: (L + 1 + 1 + 1 + 1 + 1, o5') :: (NM, lst ys) :: (tl ++ [(B0, listOf b0.toArray j0), (B1, listOf b1.toArray j1), (S0, listOf z0.toArray k0), (S1, listOf z1.toArray k1), (SM, listOf #[.ref S0, .ref S1] 0), (BG, listOf #[.ref B0, .ref B1] 0), (FG, lst fs), (C, listOf cs.toArray kc), (L + 1 + 1 + 1 + 1 + 1 + 1, o6), (L + 1 + 1 + 1 + 1, p4), (L + 1 + 1 + 1, p3), (L + 1 + 1, p2), (L + 1, p1)]) := .head _
  refine law12 w hsc B X F11 N11 T hA hB o54 hcn icv' (by rw [same11 _ (by decide) (by decide)]; exact if_pos rfl) mq mr (by rw [same11 _ (by decide) (by decide)]; exact m9 _ _ (by decide) (by decide) hwm) (by omega) (by omega) hv0 ?_ (by omega) ?_ ?_
  · have e := htr.1
    unfold dcntI at e
    rw [e]; omega
  · have e := htr.1
    unfold dcntI at e
    rw [e, Int.toNat_natCast, htr.2]; simp
  intro tA' h12 tk12 F12 N12 hA'
  have N12' := perm4 N12
  refine law13 w hsc rfl rfl B X F12 N12' T ?_ (by with_reducible repeat (first | exact List.mem_cons_self | refine List.mem_cons_of_mem _ ?_ | refine List.mem_append_right _ ?_)) (BG := BG) (B0 := B0) (B1 := B1) (kb := 0) (j0 := j0) (j1 := j1) (by with_reducible repeat (first | exact List.mem_cons_self | refine List.mem_cons_of_mem _ ?_ | refine List.mem_append_right _ ?_)) (by with_reducible repeat (first | exact List.mem_cons_self | refine List.mem_cons_of_mem _ ?_ | refine List.mem_append_right _ ?_)) (by with_reducible repeat (first | exact List.mem_cons_self | refine List.mem_cons_of_mem _ ?_ | refine List.mem_append_right _ ?_)) d4 d6 sb0 sb1 (by omega) (by omega) ?_
  · intro q hq
    rcases List.mem_append.mp hq with hq1 | hq
    · exact ne_data N12' (.tail _ hq) (.head _) (by rw [d6]; exact hA'.nocell q hq1 _)
    rcases List.mem_append.mp hq with hq1 | hq
    · exact ne_data N12' (.tail _ (List.mem_append_right _ (List.mem_append_left _ hq1))) (.head _) (by rw [d6]; exact hB.nocell q hq1 _)
    rcases List.mem_cons.mp hq with rfl | hq
    · exact ne_data N12' (.tail _ (List.mem_append_right _ (List.mem_append_right _ (.head _)))) (.head _) (by rw [d6]; exact fun h => nomatch h)
    rcases List.mem_cons.mp hq with rfl | hq
    · show @Ne Nat _ _; omega
    rcases List.mem_cons.mp hq with rfl | hq
    · exact ne_data N12' (.tail _ (List.mem_append_right _ (List.mem_append_right _ (.tail _ (.tail _ (.head _)))))) (.head _) (by rw [d6]; exact fun h => nomatch h)
    rcases List.mem_append.mp hq with hq1 | hq
    · exact ne_data N12' (.tail _ (List.mem_append_right _ (List.mem_append_right _ (.tail _ (.tail _ (.tail _ (List.mem_append_left _ hq1))))))) (.head _) (by rw [d6]; exact hT2.nocell q hq1 _)
    · exact far_k6 far x6 q hq
  intro M LF vM vL c1 c2 o6' h13 tk13 F13 N13 d6' sM sL'
  have lM := sM.length
  have lL := sL'.length
  have ul := uld_len g0.reverse g1 []
  rw [List.length_reverse, List.length_nil] at ul
  have hs1 : ∀ x ∈ (uld g0.reverse g1 []).1, x ∈ namesN st := fun x hx => by
    rcases uld_fst _ _ _ x hx with hx | hx
    · exact hI.m0 x (List.mem_reverse.mp hx)
    · exact nomatch hx
  have hs2 : ∀ x ∈ (uld g0.reverse g1 []).2, x ∈ namesN st := fun x hx => hI.m1 x (uld_snd _ _ _ x hx)
  refine law14 w hsc rfl B X F13 N13 T (.head _) (.tail _ (.head _)) (.tail _ (.tail _ (.head _))) d6' sM sL' (by omega) rfl (fun x hx => uld_dis hx) ?_
  intro h14 tk14 F14 N14
  refine law15 w hsc rfl rfl B X F14 N14 T (by with_reducible repeat (first | exact List.mem_cons_self | refine List.mem_cons_of_mem _ ?_ | refine List.mem_append_right _ ?_)) (by with_reducible repeat (first | exact List.mem_cons_self | refine List.mem_cons_of_mem _ ?_ | refine List.mem_append_right _ ?_)) (.tail _ (.head _)) (NM := NM) (kn := ys.length) (by with_reducible repeat (first | exact List.mem_cons_self | refine List.mem_cons_of_mem _ ?_ | refine List.mem_append_right _ ?_)) d2 d5' sM hsn (by omega) (by omega) rfl hs1 (p_bits hw12) ?_
  intro td15 h15 tk15 F15 N15
  refine law16 w hsc rfl rfl rfl B X F15 N15 T (by with_reducible repeat (first | exact List.mem_cons_self | refine List.mem_cons_of_mem _ ?_ | refine List.mem_append_right _ ?_)) (by with_reducible repeat (first | exact List.mem_cons_self | refine List.mem_cons_of_mem _ ?_ | refine List.mem_append_right _ ?_)) (.head _) (.tail _ (.tail _ (.head _))) (NM := NM) (kn := ys.length) (by with_reducible repeat (first | exact List.mem_cons_self | refine List.mem_cons_of_mem _ ?_ | refine List.mem_append_right _ ?_)) d2 d5' sL' hsn (by omega) (by omega) d6' rfl hs2 (p_bits hw12) ?_
  intro td16 h16 tk16 F16 N16
  have N16' := perm5 N16
  have hdue : wei (namesN st) (2 ^ W.toNat) (uld g0.reverse g1 []).1 - wei (namesN st) (2 ^ W.toNat) (uld g0.reverse g1 []).2 = wei (namesN st) (2 ^ W.toNat) g0 - wei (namesN st) (2 ^ W.toNat) g1 := by
    have := wei_uld (ns := namesN st) (p := 2 ^ W.toNat) g0.reverse g1 []
    rw [wei_rev] at this
    rw [this]; show 0 + _ - _ = _; omega
  obtain ⟨q54, ht54⟩ := hA'.tab
  obtain ⟨q61, ht61⟩ := hB.tab
  obtain ⟨q106, ht106⟩ := hT2.tab
  have off2 : ∀ (R : Addr) (ps : Array Value), @LE.le Nat _ R 61 → (R, tabObj ps) ∈ tA' ++ (tB ++ ((L + 1 + 1 + 1 + 1 + 1 + 1, o6') :: (M, listOf vM.toArray c1) :: (LF, listOf vL.toArray c2) :: (CN, listOf cv'.toArray k') :: (L + 1 + 1 + 1 + 1 + 1, o5') :: (NM, lst ys) :: (tl ++ [(B0, listOf b0.toArray j0), (B1, listOf b1.toArray j1), (S0, listOf z0.toArray k0), (S1, listOf z1.toArray k1), (SM, listOf #[.ref S0, .ref S1] 0), (BG, listOf #[.ref B0, .ref B1] 0), (FG, lst fs), (C, listOf cs.toArray kc), (L + 1 + 1 + 1 + 1, p4), (L + 1 + 1 + 1, p3), (L + 1 + 1, p2), (L + 1, p1)]))) →
      (∀ q ∈ (CN, listOf cv'.toArray k') :: (L + 1 + 1 + 1 + 1 + 1, o5') :: (NM, lst ys) :: (tl ++ [(B0, listOf b0.toArray j0), (B1, listOf b1.toArray j1), (S0, listOf z0.toArray k0), (S1, listOf z1.toArray k1), (SM, listOf #[.ref S0, .ref S1] 0), (BG, listOf #[.ref B0, .ref B1] 0), (FG, lst fs), (C, listOf cs.toArray kc), (L + 1 + 1 + 1 + 1 + 1 + 1, o6), (L + 1 + 1 + 1 + 1, p4), (L + 1 + 1 + 1, p3), (L + 1 + 1, p2), (L + 1, p1)]), q.1 ≠ R) →
      ∀ q ∈ (L + 1 + 1 + 1 + 1 + 1 + 1, o6') :: (M, listOf vM.toArray c1) :: (LF, listOf vL.toArray c2) :: (CN, listOf cv'.toArray k') :: (L + 1 + 1 + 1 + 1 + 1, o5') :: (NM, lst ys) :: (tl ++ [(B0, listOf b0.toArray j0), (B1, listOf b1.toArray j1), (S0, listOf z0.toArray k0), (S1, listOf z1.toArray k1), (SM, listOf #[.ref S0, .ref S1] 0), (BG, listOf #[.ref B0, .ref B1] 0), (FG, lst fs), (C, listOf cs.toArray kc), (L + 1 + 1 + 1 + 1, p4), (L + 1 + 1 + 1, p3), (L + 1 + 1, p2), (L + 1, p1)]), q.1 ≠ R := by
    intro R ps hR ht ho q hq
    rcases List.mem_cons.mp hq with rfl | hq
    · show @Ne Nat _ _; omega
    rcases List.mem_cons.mp hq with rfl | hq
    · exact ne_data N16' (List.mem_append_right _ (List.mem_append_right _ (.tail _ (.head _)))) ht (fun h => nomatch h)
    rcases List.mem_cons.mp hq with rfl | hq
    · exact ne_data N16' (List.mem_append_right _ (List.mem_append_right _ (.tail _ (.tail _ (.head _))))) ht (fun h => nomatch h)
    exact ho q (mem_k6 hq)
  refine law17 w hsc B X F16 N16' T hA' hB (off2 54 _ (by decide) (List.mem_append_left _ ht54) o54) (off2 61 _ (by decide) (List.mem_append_right _ (List.mem_append_left _ ht61)) o61) (SM := SM) (S0 := S0) (S1 := S1) (ks := 0) (k0 := k0) (k1 := k1) (D := divi (2 ^ W.toNat))
    (by with_reducible repeat (first | exact List.mem_cons_self | refine List.mem_cons_of_mem _ ?_ | refine List.mem_append_right _ ?_)) (by with_reducible repeat (first | exact List.mem_cons_self | refine List.mem_cons_of_mem _ ?_ | refine List.mem_append_right _ ?_)) (by with_reducible repeat (first | exact List.mem_cons_self | refine List.mem_cons_of_mem _ ?_ | refine List.mem_append_right _ ?_)) iz0 iz1
    (by show (if _ then _ else _) = _; rw [if_neg (by decide)]; show (if _ then _ else _) = _; rw [if_neg (by decide)]; show (if _ then _ else _) = _; rw [if_neg (by decide), same11 _ (by decide) (by decide)]; exact m9 _ _ (by decide) (by decide) hsm) (if_pos rfl) ?_ ?_
    (by show (if _ then _ else _) = _; rw [if_neg (by decide)]; show (if _ then _ else _) = _; rw [if_neg (by decide)]; show (if _ then _ else _) = _; rw [if_neg (by decide), same11 _ (by decide) (by decide)]; exact upd_ne (by decide) md7) hDp hDb.1 ?_ ?_
  · rw [hdif, (div_of hDp).1, hdue]
  · rw [hdif, (div_of hDp).2]
  · rw [hdif]
    have := small_prod hw5 wb0.1 wb0.2 wb1.1 wb1.2
    omega
  intro tA2 tB2 h17 tk17 F17 N17 hA2 hB2
  obtain ⟨r54, hr54⟩ := hA2.tab
  obtain ⟨r61, hr61⟩ := hB2.tab
  refine hQ _ ⟨_, _, q106, r61, r54, F17, N17, List.mem_append_right _ (List.mem_append_right _ (.tail _ (.tail _ (.tail _ (.tail _ (.tail _ (.tail _ (List.mem_append_left _ ht106)))))))), List.mem_append_right _ (List.mem_append_left _ hr61), List.mem_append_left _ hr54, ?_, ?_⟩
  · show s9.os = _
    rw [os9, os8, os7, hos]
  · show AllBare s9.gens
    rw [gs9, gs8, gs7]; exact hgs
end
end Mine
end

section
open PySem PySem.W PyProof.Rows PyProof.Rows.LCg PyProof.Rows.LCt
set_option maxRecDepth 100000
set_option maxHeartbeats 8000000
namespace Mine
theorem two_heads {l : List Int} (h : 6 ≤ l.length) : ∃ a b r, l = a :: b :: r := by
  match l, h with
  | a :: b :: r, _ => exact ⟨a, b, r, rfl⟩
section
variable {h₀ : Heap} {L fa : Addr} {cd : Value} {sc : Scope} {s : Shared} {m : Str → Option Value} {Q : Flow → Shared → Prop} {E : Value → Shared → Prop}
theorem lawBody (w : World) {body : List Stmt} (hbody : body = fdBody (topStmt 25)) (hsc : sc = scW) {SC : Addr} {vals : List Value} {ns : List Int} {o1 o2 o3 o4 o5 o6 : Obj} {p : Program} {loose : List Str} {mean : ExcName → Option Value} {mg mb : Str → Option Value}
    (B : Below callerA h₀ [] h₀) (X : (mk.heap_1 w.params).In h₀) (F : Fr h₀ L s.heap m) (N : News h₀ L s.heap [(L + 1 + 1 + 1 + 1 + 1 + 1, o6), (L + 1 + 1 + 1 + 1 + 1, o5), (L + 1 + 1 + 1 + 1, o4), (L + 1 + 1 + 1, o3), (L + 1 + 1, o2), (L + 1, o1), (106, tabObj #[]), (61, tabObj #[]), (54, tabObj #[])])
    (T : Top p loose mean mg mb h₀) (hl : h₀.IsList SC vals.toArray) (hI : IntsAre vals ns) (hm : m "script" = some (.ref SC)) (hz : ns.length ≤ 63) (d1 : o1.data = .cell none) (d2 : o2.data = .cell none) (d3 : o3.data = .cell none) (d4 : o4.data = .cell none) (d5 : o5.data = .cell none) (d6 : o6.data = .cell none)
    (h148 : @LE.le Nat _ 148 L) (hg : AllBare s.gens) (hE : PassesOwn (model PySem.Challenge.rw_in0279_01.row.toRowW.prog w) (callerA.deeper (envOfC "law" sc L fa cd)) (envOfC "law" sc L fa cd) E)
    (hQ : ∀ s', BodyEnd h₀ L s s' → Q (.ret (.bool true)) s') :
    wpAny (model PySem.Challenge.rw_in0279_01.row.toRowW.prog w) (callerA.deeper (envOfC "law" sc L fa cd)) (execs body (envOfC "law" sc L fa cd)) Q E s := by
  rw [hbody, body_eq]
  refine law01 w hsc B X F N T hl hI hm hz ?_
  intro C cs k s1 m1 F1 N1 l1 i1 hc1 os1 gs1
  have hlen : 6 ≤ (((ns.take 10).map fun x : Int => x.fmod 2400000) ++ [905, 26, 17, 57, 41, 16].drop (min 10 ns.length)).length ∧ (((ns.take 10).map fun x : Int => x.fmod 2400000) ++ [905, 26, 17, 57, 41, 16].drop (min 10 ns.length)).length ≤ 10 := by
    simp only [List.length_append, List.length_map, List.length_take, List.length_drop, List.length_cons, List.length_nil]; omega
  have hpos : ∀ c ∈ (((ns.take 10).map fun x : Int => x.fmod 2400000) ++ [905, 26, 17, 57, 41, 16].drop (min 10 ns.length)), 0 ≤ c := fun c hc => by
    rcases List.mem_append.mp hc with hc | hc
    · obtain ⟨x, _, rfl⟩ := List.mem_map.mp hc
      rw [fmod_em (by decide)]; omega
    · have := List.mem_of_mem_drop hc
      simp only [List.mem_cons, List.not_mem_nil, or_false] at this
      omega
  generalize ((ns.take 10).map fun x : Int => x.fmod 2400000) ++ [905, 26, 17, 57, 41, 16].drop (min 10 ns.length) = cells at i1 hlen hpos
  obtain ⟨c0, c1, rest, rfl⟩ := two_heads hlen.1
  have i1' := i1
  obtain ⟨t0, cs1, rfl, i2⟩ := ints_cons i1
  obtain ⟨t1, cs2, rfl, i3⟩ := ints_cons i2
  have a1 : @LT.lt Nat _ (L + 1 + 1 + 1 + 1 + 1 + 1) C := l1 _ (.head _)
  refine law25 w hsc B X F1 N1 T hc1 d1 d2 d3 d4 l1 h148 ?_
  intro BG SM B0 B1 S0 S1 FG fs p1 p2 p3 p4 tw ts tp s2 m2 F2 N2 e1 e2 e3 e4 hk sf mc mw ms os2 gs2
  obtain ⟨ka, kb, kc, kd, ke, kf, kg, kh⟩ := hk
  have kb : @LT.lt Nat _ C B0 := kb
  have kc : @LT.lt Nat _ FG B0 := kc
  have kd : @LT.lt Nat _ B0 B1 := kd
  have ke : @LT.lt Nat _ B1 BG := ke
  have kf : @LT.lt Nat _ BG S0 := kf
  have kg : @LT.lt Nat _ S0 S1 := kg
  have kh : @LT.lt Nat _ S1 SM := kh
  have f0 := Int.fmod_eq_emod_of_nonneg c0 (b := 1200) (by decide)
  have f1 := Int.fmod_eq_emod_of_nonneg c1 (b := 50000) (by decide)
  have w5 : 5 ≤ 5 + c0.fmod 1200 := by omega
  have w12 : 5 + c0.fmod 1200 ≤ 1204 := by omega
  have hw12 : (5 + c0.fmod 1200).toNat ≤ 1204 := by omega
  have hst : (((97 + c1.fmod 50000).toNat : Nat) : Int) = 97 + c1.fmod 50000 := by omega
  rw [← hst] at e1
  have mFG : (FG, lst fs) ∈ [(SM, listOf #[.ref S0, .ref S1] 0), (S1, listOf #[] 0), (S0, listOf #[] 0), (BG, listOf #[.ref B0, .ref B1] 0), (B1, listOf #[] 0), (B0, listOf #[] 0), (FG, lst fs), (C, listOf (.int c0 t0 :: .int c1 t1 :: cs2).toArray k), (L + 1 + 1 + 1 + 1 + 1 + 1, o6), (L + 1 + 1 + 1 + 1 + 1, o5), (L + 1 + 1 + 1 + 1, p4), (L + 1 + 1 + 1, p3), (L + 1 + 1, p2), (L + 1, p1), (106, tabObj #[]), (61, tabObj #[]), (54, tabObj #[])] := by with_reducible repeat (first | exact List.mem_cons_self | refine List.mem_cons_of_mem _ ?_ | refine List.mem_append_right _ ?_)
  have x5 : @Ne Nat FG (L + 1 + 1 + 1 + 1 + 1) := ne_data N2 mFG (o' := o5) (by with_reducible repeat (first | exact List.mem_cons_self | refine List.mem_cons_of_mem _ ?_ | refine List.mem_append_right _ ?_)) (by rw [d5]; exact fun h => nomatch h)
  have x6 : @Ne Nat FG (L + 1 + 1 + 1 + 1 + 1 + 1) := ne_data N2 mFG (o' := o6) (by with_reducible repeat (first | exact List.mem_cons_self | refine List.mem_cons_of_mem _ ?_ | refine List.mem_append_right _ ?_)) (by rw [d6]; exact fun h => nomatch h)
  have x61 : @Ne Nat FG 61 := ne_data N2 mFG (o' := tabObj #[]) (by with_reducible repeat (first | exact List.mem_cons_self | refine List.mem_cons_of_mem _ ?_ | refine List.mem_append_right _ ?_)) (fun h => nomatch h)
  have x54 : @Ne Nat FG 54 := ne_data N2 mFG (o' := tabObj #[]) (by with_reducible repeat (first | exact List.mem_cons_self | refine List.mem_cons_of_mem _ ?_ | refine List.mem_append_right _ ?_)) (fun h => nomatch h)
  have x106 : @Ne Nat FG 106 := ne_data N2 mFG (o' := tabObj #[]) (by with_reducible repeat (first | exact List.mem_cons_self | refine List.mem_cons_of_mem _ ?_ | refine List.mem_append_right _ ?_)) (fun h => nomatch h)
  have offX : ∀ R : Nat, (@LE.le Nat _ B0 R ∧ @LE.le Nat _ R S1 ∧ @Ne Nat R BG ∨ @Eq Nat R 106) → ∀ q ∈ [(SM, listOf #[.ref S0, .ref S1] 0), (BG, listOf #[.ref B0, .ref B1] 0), (FG, lst fs), (C, listOf (.int c0 t0 :: .int c1 t1 :: cs2).toArray k), (L + 1 + 1 + 1 + 1 + 1 + 1, o6), (L + 1 + 1 + 1 + 1 + 1, o5), (L + 1 + 1 + 1 + 1, p4), (L + 1 + 1 + 1, p3), (L + 1 + 1, p2), (L + 1, p1), (61, tabObj #[]), (54, tabObj #[])], q.1 ≠ R := by
    intro R hR q hq
    simp only [List.mem_cons, List.not_mem_nil, or_false] at hq
    rcases hq with rfl | rfl | rfl | rfl | rfl | rfl | rfl | rfl | rfl | rfl | rfl | rfl <;> (show @Ne Nat _ _) <;> omega
  have l1 : @LT.lt Nat _ B0 S0 := Nat.lt_trans kd (Nat.lt_trans ke kf)
  have l2 : @LT.lt Nat _ B1 S0 := Nat.lt_trans ke kf
  have l3 : @LT.lt Nat _ B0 S1 := Nat.lt_trans l1 kg
  have l4 : @LT.lt Nat _ B1 S1 := Nat.lt_trans l2 kg
  have hdd : B0 ≠ B1 ∧ B0 ≠ S0 ∧ B0 ≠ S1 ∧ B1 ≠ S0 ∧ B1 ≠ S1 ∧ S0 ≠ S1 := ⟨Nat.ne_of_lt kd, Nat.ne_of_lt l1, Nat.ne_of_lt l3, Nat.ne_of_lt l2, Nat.ne_of_lt l4, Nat.ne_of_lt kg⟩
  refine wpAny_execs_cons (lawFor w hsc (P := 2 ^ (5 + c0.fmod 1200).toNat) (W := 5 + c0.fmod 1200) (st := (97 + c1.fmod 50000).toNat) (cells := c0 :: c1 :: rest) B X F2 (perm1 N2) T (C := C) (cs := .int c0 t0 :: .int c1 t1 :: cs2) (kc := k) (by with_reducible repeat (first | exact List.mem_cons_self | refine List.mem_cons_of_mem _ ?_ | refine List.mem_append_right _ ?_)) mc i1' hlen.2 hlen.1 hpos (by omega) (by omega)
    ⟨[(106, tabObj #[])], [], [], [], [], 0, 0, 0, 0, [], [], [], [], rfl, .fresh, .nil, .nil, .nil, .nil, BagInv.start, mc, ms, ⟨tw, mw⟩, rfl, by rw [gs2, gs1]; exact hg⟩
    hdd (offX B0 (.inl ⟨Nat.le_refl _, Nat.le_of_lt l3, Nat.ne_of_lt (Nat.lt_trans kd ke)⟩)) (offX B1 (.inl ⟨Nat.le_of_lt kd, Nat.le_of_lt l4, Nat.ne_of_lt ke⟩)) (offX S0 (.inl ⟨Nat.le_of_lt l1, Nat.le_of_lt kg, Nat.ne_of_gt kf⟩)) (offX S1 (.inl ⟨Nat.le_of_lt l3, Nat.le_refl _, Nat.ne_of_gt (Nat.lt_trans kf kg)⟩)) (offX 106 (.inr rfl))
    (by with_reducible repeat (first | exact List.mem_cons_self | refine List.mem_cons_of_mem _ ?_ | refine List.mem_append_right _ ?_)) (FG := FG) (fs := fs) (kf := fs.length) (.tail _ (.tail _ (.head _))) (BG := BG) (kb := 0) (by with_reducible repeat (first | exact List.mem_cons_self | refine List.mem_cons_of_mem _ ?_ | refine List.mem_append_right _ ?_)) (ks := 0) (by with_reducible repeat (first | exact List.mem_cons_self | refine List.mem_cons_of_mem _ ?_ | refine List.mem_append_right _ ?_)) (by with_reducible repeat (first | exact List.mem_cons_self | refine List.mem_cons_of_mem _ ?_ | refine List.mem_append_right _ ?_)) (by with_reducible repeat (first | exact List.mem_cons_self | refine List.mem_cons_of_mem _ ?_ | refine List.mem_append_right _ ?_)) (by with_reducible repeat (first | exact List.mem_cons_self | refine List.mem_cons_of_mem _ ?_ | refine List.mem_append_right _ ?_)) (by with_reducible repeat (first | exact List.mem_cons_self | refine List.mem_cons_of_mem _ ?_ | refine List.mem_append_right _ ?_))
    e1 e2 e3 e4 sf (fun c d => corn_ok hw12 c d) (p_bits hw12) (p4_bits hw12) hE ?_)
  intro m3 nw3 s3 hP F3 N3
  refine lawRest w hsc B X F3 N3 T hP (by have := hlen.2; omega) w5 w12 h148 a1 kb kc x5 x6 x61 x54 kd ke kf kg kh e1 e2 e3 e4 d5 d6 sf hE ?_
  rintro s' ⟨m9, nw9, q1, q2, q3, F9, N9, h1, h2, h3, h4, h5⟩
  exact hQ s' ⟨m9, nw9, q1, q2, q3, F9, N9, h1, h2, h3, by rw [h4, os2, os1], h5⟩
end
end Mine
end

section
open PySem PySem.W PyProof.Rows
set_option maxRecDepth 100000
set_option maxHeartbeats 8000000
namespace Mine
theorem law_true (l : OpenLaw) (args after : List WData) : l.row.toRowW.claim.post args (.bool true) after = true := by
  have h1 : WShape.has l.row.toRowW.records (.bool true) .bool = true := by
    first | rfl | simp [WShape.has]
  have h2 : (WTm.eq .res (.lit (.bool true))).holds l.row.toRowW.records { args := args, res := some (.bool true), after := after } = true := by
    unfold WTm.holds
    have e : same (.bool true) (.bool true) = true := by first | rfl | decide +kernel | simp [same]
    simp only [WTm.value]
    rw [e]
  show (WShape.has l.row.toRowW.records (.bool true) .bool && (WTm.eq .res (.lit (.bool true))).holds l.row.toRowW.records { args := args, res := some (.bool true), after := after }) = true
  rw [h1, h2]; rfl
end Mine
end

open PySem PySem.W PyProof.Rows
set_option maxRecDepth 100000
set_option maxHeartbeats 8000000
namespace Mine
noncomputable abbrev tabsL : List (Addr × Addr) := [(110, 106), (65, 61), (58, 54)]
/-- how the law ends -/
noncomputable def LawEnd (s₁ : Shared) (r : Result) (s' : Shared) : Prop :=
  r = .ok (.ret (.bool true)) ∧ (∀ b o, (ghostOf s₁.heap tabsL).get? b = some o → s'.heap.get? b = some o) ∧ s'.os = s₁.os ∧ AllBare s'.gens ∧ GrownAll tabsL s'.heap
theorem law_post {M : Model} {A : Around} {cd : Code} {s s₁ : Shared} {cw : ClaimW} {cl : Str → Option Addr} {mean : ExcName → Option Value} {args : List WData} (hT : TabsAt tabsL s₁.heap) (hr : ∀ a x, cw.raises a x = false) (hp : cw.post args (.bool true) args = true)
    (h : codeAny M A cd (LawEnd s₁) s) : codeAny M A cd (GoodWG cw cl mean args s₁) s :=
  codeAny_mono h fun r s' ⟨hc, hk, hos, hg, hgr⟩ => by
    have keep : ∀ b o, b ∉ tabsL.map (·.2) → s₁.heap.get? b = some o → s'.heap.get? b = some o := fun b o hb e => hk b o (ghost_ne e hb)
    have grown : ∀ b o, b ∈ tabsL.map (·.2) → s₁.heap.get? b = some o → isCodeTable s₁.heap b ∧ o = tabObj #[] ∧ ∃ ps, s'.heap.get? b = some (tabObj ps) := fun b o hb e => by
      obtain ⟨q, hq, rfl⟩ := List.mem_map.mp hb
      have e2 := (hT q hq).2
      rw [e] at e2
      exact ⟨((hT q hq).1.tab (hT q hq).2).isCodeTable, Option.some.inj e2, hgr.get q hq⟩
    refine ⟨.inl ⟨.bool true, .bool true, [], hc, hr args, .bool true, hp, fun _ => ⟨.nil, fun a ha => nomatch ha⟩⟩, ⟨fun b o e => ?_, fun b o e => ?_⟩, hos, hg⟩
    · by_cases hb : b ∈ tabsL.map (·.2)
      · obtain ⟨ht, rfl, ps, hP⟩ := grown b o hb e
        exact .inr (.inl ⟨ht, rfl, #[], ps, rfl, by rw [Array.empty_append]; exact hP⟩)
      · exact .inl (keep b o hb e)
    · by_cases hb : b ∈ tabsL.map (·.2)
      · obtain ⟨_, _, ps, hP⟩ := grown b o hb e
        exact ⟨_, hP⟩
      · exact ⟨o, keep b o hb e⟩
end Mine
theorem PySem.Challenge.cw_in0279_01_holds : PySem.Challenge.rw_in0279_01.Holds := by
  refine Mine.hd ?_
  unfold Mine.HK
  k_with_none
  w_top off
  k_with "om" => (first | decide | (with_reducible first | (refine neN ?_; first | (refine Nat.ne_of_lt ?_; first | ((repeat (first | assumption | exact om_k1 | refine Nat.lt_succ_of_lt ?_)); done) | (apply And.left; (iterate 18 (first | done | assumption | apply And.right)); done)) | (refine Nat.ne_of_gt ?_; first | ((repeat (first | assumption | exact om_k1 | refine Nat.lt_succ_of_lt ?_)); done) | (apply And.left; (iterate 18 (first | done | assumption | apply And.right)); done)) | (refine Ne.symm ?_; assumption) | (refine om_s ?_; omega)) | exact om_le (by assumption) rfl | exact om_ll (by assumption) rfl | exact om_lt (by assumption) rfl | exact om_lg (by assumption) rfl | exact om_r1 (by assumption) rfl | exact om_r2 (by assumption) rfl | exact om_r3 (by assumption) rfl | exact om_il (by assumption) rfl | exact om_ig (by assumption) rfl | exact om_tn (by assumption) rfl | exact om_tl (by assumption) rfl | exact om_nc (by assumption) rfl | exact Int.natCast_nonneg _ | exact Int.le_of_lt (by assumption)) | (law_clear; lia))
  k_with "execs cons" => ((first | (k_here; k_gentoks) | (refine wpAny_execs_cons ?_; k_fold; (try k_extra "mlet"))))
  k_with "stp" => (repeat' (first | (k_unfold; (try dsimp only)) | (k_end; wrow_close) | (walk1; (all_goals (try dsimp only))) | (dsimp only; walk1) | (leave1; walk_say "STEP leave1"; try dsimp only) | fail "no step"))
  k_with "spliced" => (k_dflt (first | ((with_reducible show wpAny _ _ (spliced (backTo _ (starEach [_] _))) _ _ _); refine sp1 ?_) | ((with_reducible show wpAny _ _ (spliced (backTo _ (starEach [_, _] _))) _ _ _); refine sp2 ?_) | ((with_reducible show wpAny _ _ (spliced (backTo _ (starEach [_, _, _] _))) _ _ _); refine sp3 ?_)))
  k_fill
  intro w s₀ s₁ mg mb G Y fa o pm cd doc dV kV ho hd hcd hD hmg hg args vals as hpre hlay hrd hwl hlo
  have KX := km_in_of Y
  km_tabs Y
  have X := (Ground.X G).1
  have V := (Ground.X G).2
  refine Ground.open G ?_
  intro T B D TE TW
  try (refine guard_noD D (by decide +kernel) ?_; clear D)
  km_lay T hmg ho hd cd
  clear hmg
  wrow_args hpre hlay hrd hwl hlo
  first | refine callC_kw (enter_call ?_) | refine enter_call ?_
  w_top on
  refine Mine.law_post hT9 (fun _ _ => rfl) (Mine.law_true _ _ _) ?_
  w_call any ho hd hcd hD T F
  clear hd
  kn_ghosts F T
  k_drop
  (try k_fold)
  refine Mine.lawBody w rfl rfl (by assumption) (by assumption) (by assumption) (by assumption) (by assumption) (by assumption) (by assumption) rfl ?_ (by assumption) (by assumption) (by assumption) (by assumption) (by assumption) (by assumption) ?_ ?_ ?_ ?_
  · omega
  · exact Nat.le_trans (Mine.big_of ‹(Mine.mk.heap_1 w.params).In (ghostOf _ _)› (by kernel_rfl)) (‹Fr _ _ _ _›).above
  · exact .of_eq hg
  · passes_own
  · rintro s' ⟨m, nw, p1, p2, p3, F, N, h1, h2, h3, h4, h5⟩
    exact ⟨rfl, F.keep, h4, h5, GrownAt.of N h1, GrownAt.of N h2, GrownAt.of N h3, trivial⟩
