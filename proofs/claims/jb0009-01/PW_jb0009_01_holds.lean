import PyProof.Rows.All
import Wide.All
import OpenK.AllK
import Wide.FinOn
import Lean
import PySem.Challenge.RW_jb0009_01
open PySem PySem.W PyProof.Rows
set_option Elab.async false
set_option maxRecDepth 100000
set_option maxHeartbeats 8000000
namespace Mine
open_top hd for PySem.Challenge.rw_jb0009_01
local macro_rules | `(tactic| walk_at $s:str) => `(tactic| k_extra $s)

open PySem.Calls

abbrev Cl (w : World) (p : PySem.Program) (loose : List Str) (mean : ExcName → Option Value) (mg mb : Str → Option Value) (f : Addr) (lv : Nat) (news : List (Addr × Obj)) (pre : Prop) (vs : List Value)
    (R : Heap → Addr → (Str → Option Value) → Shared → (Value → Shared → Prop) → (Value → Shared → Prop) → Prop) : Prop :=
  ∀ (dp un : Nat) (gd : Option (List Code)) (cn : Str) (cs : Scope) (a : Addr) (ccd : Value) (cl : List (Str × Addr)) (outer : List Env) (A₀ : Around) (base h₀ : Heap) (L : Addr) (m : Str → Option Value) (s : Shared) (Q E : Value → Shared → Prop),
    Below A₀ base outer h₀ → Fr h₀ L s.heap m → (hd.heap_39 w.params).In h₀ → News h₀ L s.heap news → Top p loose mean mg mb h₀ → cs.kind = .function → pre → dp + lv < recursionLimit → un + 8 * lv < cLine → R h₀ L m s Q E →
      wpAny (model PySem.Challenge.rw_jb0009_01.row.prog w) (ktrTop dp un gd cn cs L a ccd cl outer) (call (.ref f) vs) Q E s
abbrev RetV (news : List (Addr × Obj)) (V : Tok → Value) (h₀ : Heap) (L : Addr) (m : Str → Option Value) (s : Shared) (Q E0 : Value → Shared → Prop) : Prop :=
  ∀ (t : Tok) (h' : Heap) (tk' : Nat), Fr h₀ L h' m → News h₀ L h' news → Q (V t) { s with heap := h', toks := tk' }
abbrev tup3 (r1 r2 r3 : Int) (t1 t2 t3 : Tok) (c : Nat) : Obj := { cls := .type "tuple", data := .seq #[.int r1 t1, .int r2 t2, .int r3 t3] c }
abbrev RetT (news : List (Addr × Obj)) (r1 r2 r3 : Int) (h₀ : Heap) (L : Addr) (m : Str → Option Value) (s : Shared) (Q E0 : Value → Shared → Prop) : Prop :=
  ∀ (D : Addr) (t1 t2 t3 : Tok) (c : Nat) (h' : Heap) (tk' : Nat), Fr h₀ L h' m → News h₀ L h' ((D, tup3 r1 r2 r3 t1 t2 t3 c) :: news) → AllLt D news → Q (.ref D) { s with heap := h', toks := tk' }

section
variable {h₀ h' : Heap} {L : Addr} {m : Str → Option Value} {news : List (Addr × Obj)} {s : Shared} {Q E : Value → Shared → Prop} {t : Tok} {tk' : Nat}
theorem retI {x y : Int} (hret : RetV news (fun t => .int x t) h₀ L m s Q E) (F : Fr h₀ L h' m) (N : News h₀ L h' news) (e : y = x) : Q (.int y t) { s with heap := h', toks := tk' } := by
  subst e
  exact hret t h' tk' F N
theorem retB {x y : Bool} (hret : RetV news (fun _ => .bool x) h₀ L m s Q E) (F : Fr h₀ L h' m) (N : News h₀ L h' news) (e : y = x) : Q (.bool y) { s with heap := h', toks := tk' } := by
  subst e
  exact hret 0 h' tk' F N
end
theorem ediv_of_abs {a b : Int} (ha : 0 ≤ a) (hb : 0 < b) : (if a < 0 then -a else a).fdiv (if b < 0 then -b else b) = a / b := by
  rw [if_neg (by omega), if_neg (by omega), Int.fdiv_eq_ediv_of_nonneg _ (by omega)]

variable {w : World} {p : PySem.Program} {loose : List Str} {mean : ExcName → Option Value} {mg mb : Str → Option Value}

theorem c_trunc (news : List (Addr × Obj)) (a : Int) (ta : Tok) (b : Int) (tb : Tok) :
    Cl w p loose mean mg mb 21 1 news (0 ≤ a ∧ 0 < b ∧ b < 1073741824) [Value.int a ta, Value.int b tb] (RetV news (fun t => Value.int (a / b) t)) := by
  dsimp only [Cl]
  w_top off
  k_fill
  intros
  rename_i hpre _ _ hret
  obtain ⟨ha, hb, hb'⟩ := hpre
  refine wpAny_call ?_
  k_dflt cell_enter
  k_steps
  · exact retI hret (by assumption) (by assumption) (ediv_of_abs ha hb)
  · exfalso
    rename_i hq _ _ _ _
    simp at hq
    omega

def armLeap (fx : Bool) (y : Int) : Bool := fx && decide (y % 4 = 0)
def armFirst (fx : Bool) (y : Int) : Int := if fx then 2117212 + 1461 * ((y - 533) / 4) + 365 * ((y - 533) % 4) else 1922868 + 365 * (y - 1)
def armLen (fx : Bool) (y m : Int) : Int := if m = 13 then (if armLeap fx y then 6 else 5) else 30
def ArmD (fx : Bool) (n y m d : Int) : Prop := (if fx then 533 else 1) ≤ y ∧ 1 ≤ m ∧ m ≤ 13 ∧ 1 ≤ d ∧ d ≤ armLen fx y m ∧ n = armFirst fx y + 30 * (m - 1) + d - 1

theorem armD_s {n y m d : Int} : ArmD true n y m d ↔ 533 ≤ y ∧ 1 ≤ m ∧ m ≤ 13 ∧ 1 ≤ d ∧ d ≤ (if m = 13 then (if y % 4 = 0 then 6 else 5) else 30) ∧ n = 2117212 + 1461 * ((y - 533) / 4) + 365 * ((y - 533) % 4) + 30 * (m - 1) + d - 1 := by
  simp [ArmD, armFirst, armLen, armLeap]
theorem armD_m {n y m d : Int} : ArmD false n y m d ↔ 1 ≤ y ∧ 1 ≤ m ∧ m ≤ 13 ∧ 1 ≤ d ∧ d ≤ (if m = 13 then 5 else 30) ∧ n = 1922868 + 365 * (y - 1) + 30 * (m - 1) + d - 1 := by
  simp [ArmD, armFirst, armLen, armLeap]
theorem armD_s_of {n : Int} (h : 2117212 ≤ n) : ∃ y m d, ArmD true n y m d := by
  obtain ⟨k, hk⟩ : ∃ k : Int, k = n - 2117212 := ⟨_, rfl⟩
  obtain ⟨r, hr⟩ : ∃ r : Int, r = k % 1461 := ⟨_, rfl⟩
  obtain ⟨q, hq⟩ : ∃ q : Int, (r = 1460 ∧ q = 3) ∨ (r < 1460 ∧ q = r / 365) := by
    by_cases e : r = 1460
    · exact ⟨3, .inl ⟨e, rfl⟩⟩
    · exact ⟨r / 365, .inr ⟨by omega, rfl⟩⟩
  obtain ⟨j, hj⟩ : ∃ j : Int, j = r - 365 * q := ⟨_, rfl⟩
  refine ⟨533 + 4 * (k / 1461) + q, j / 30 + 1, j % 30 + 1, armD_s.mpr ?_⟩
  have b1 : 0 ≤ q ∧ q ≤ 3 ∧ 0 ≤ j ∧ j ≤ 365 ∧ (j = 365 → q = 3) := by
    have : 0 ≤ r ∧ r < 1461 := by omega
    clear hr hk h k n
    omega
  have b2 : n = 2117212 + 1461 * (k / 1461) + 365 * q + j ∧ 0 ≤ k / 1461 := by
    clear hq b1
    omega
  clear hr hq hj hk
  generalize k / 1461 = R at b2 ⊢
  obtain ⟨b2, b3⟩ := b2
  obtain ⟨b4, b5, b6, b7, b8⟩ := b1
  have h1 : (533 + 4 * R + q - 533) / 4 = R := by clear b2; omega
  have h2 : (533 + 4 * R + q - 533) % 4 = q := by clear b2; omega
  have h3 : (533 + 4 * R + q) % 4 = 0 ↔ q = 3 := by clear b2; omega
  rw [h1, h2]
  simp only [h3]
  clear h1 h2 h3
  refine ⟨by clear b2 b8; omega, by clear b2 b8; omega, by clear b2 b8; omega, by clear b2 b8; omega, ?_, by clear b8; omega⟩
  clear b2 b3 b4 b5
  split
  · split <;> omega
  · omega
theorem armD_m_of {n : Int} (h : 1922868 ≤ n) : ∃ y m d, ArmD false n y m d := by
  refine ⟨(n - 1922868) / 365 + 1, (n - 1922868) % 365 / 30 + 1, (n - 1922868) % 365 % 30 + 1, armD_m.mpr ?_⟩
  omega

def julCum (lp : Bool) (M : Int) : Int :=
  if M = 1 then 0 else if M = 2 then 31 else (if lp then 1 else 0) + (if M = 3 then 59 else if M = 4 then 90 else if M = 5 then 120 else if M = 6 then 151 else if M = 7 then 181 else if M = 8 then 212 else if M = 9 then 243 else if M = 10 then 273 else if M = 11 then 304 else 334)
def julLen (lp : Bool) (M : Int) : Int := if M = 2 then (if lp then 29 else 28) else if M = 4 ∨ M = 6 ∨ M = 9 ∨ M = 11 then 30 else 31
def julFirst (Y : Int) : Int := 1461 * ((Y + 4712) / 4) + (if (Y + 4712) % 4 = 0 then 0 else 366 + 365 * ((Y + 4712) % 4 - 1))
def JulD (n Y M D : Int) : Prop := 1 ≤ M ∧ M ≤ 12 ∧ 1 ≤ D ∧ D ≤ julLen (decide (Y % 4 = 0)) M ∧ n = julFirst Y + julCum (decide (Y % 4 = 0)) M + D - 1

theorem cum_step (lp : Bool) {M : Int} (h1 : 1 ≤ M) (h2 : M ≤ 11) : julCum lp (M + 1) = julCum lp M + julLen lp M := by
  rcases (by omega : M = 1 ∨ M = 2 ∨ M = 3 ∨ M = 4 ∨ M = 5 ∨ M = 6 ∨ M = 7 ∨ M = 8 ∨ M = 9 ∨ M = 10 ∨ M = 11) with e | e | e | e | e | e | e | e | e | e | e <;> subst e <;> cases lp <;> rfl
theorem monthOf (lp : Bool) {j : Int} (h0 : 0 ≤ j) : ∀ k : Nat, (k : Int) ≤ 12 → 1 ≤ k → j < julCum lp k + julLen lp k → ∃ M D : Int, 1 ≤ M ∧ M ≤ 12 ∧ 1 ≤ D ∧ D ≤ julLen lp M ∧ j = julCum lp M + D - 1
  | 0, _, h, _ => absurd h (by decide)
  | 1, _, _, h => ⟨1, j + 1, by decide, by decide, by omega, by
      have e : julCum lp ((1 : Nat) : Int) = 0 := by cases lp <;> rfl
      have f : julLen lp ((1 : Nat) : Int) = julLen lp 1 := rfl
      omega, by
      have e : julCum lp 1 = 0 := by cases lp <;> rfl
      omega⟩
  | k + 2, h2, _, h => by
    by_cases q : j < julCum lp ((k + 1 : Nat) : Int) + julLen lp ((k + 1 : Nat) : Int)
    · exact monthOf lp h0 (k + 1) (by omega) (by omega) q
    · have e := cum_step lp (M := ((k + 1 : Nat) : Int)) (by omega) (by omega)
      have f : ((k + 1 : Nat) : Int) + 1 = ((k + 2 : Nat) : Int) := by omega
      rw [f] at e
      exact ⟨((k + 2 : Nat) : Int), j - julCum lp ((k + 2 : Nat) : Int) + 1, by omega, by omega, by omega, by omega, by omega⟩
theorem julD_of (n : Int) : ∃ Y M D, JulD n Y M D := by
  obtain ⟨R, hR⟩ : ∃ R : Int, R = n / 1461 := ⟨_, rfl⟩
  obtain ⟨r, hr⟩ : ∃ r : Int, r = n % 1461 := ⟨_, rfl⟩
  obtain ⟨q, hq⟩ : ∃ q : Int, (r < 366 ∧ q = 0) ∨ (366 ≤ r ∧ q = (r - 366) / 365 + 1) := by
    by_cases e : r < 366
    · exact ⟨0, .inl ⟨e, rfl⟩⟩
    · exact ⟨_, .inr ⟨by omega, rfl⟩⟩
  have : 0 ≤ q ∧ q ≤ 3 := by omega
  obtain ⟨j, hj⟩ : ∃ j : Int, j = r - (if q = 0 then 0 else 366 + 365 * (q - 1)) := ⟨_, rfl⟩
  have hY1 : (4 * R - 4712 + q + 4712) / 4 = R := by omega
  have hY2 : (4 * R - 4712 + q + 4712) % 4 = q := by omega
  have hY3 : (4 * R - 4712 + q) % 4 = q := by omega
  have hj2 : 0 ≤ j ∧ j < (if q = 0 then 366 else 365) := by omega
  obtain ⟨M, D, h1, h2, h3, h4, h5⟩ := monthOf (decide (q = 0)) hj2.1 12 (by decide) (by decide) (by
    by_cases e : q = 0
    · simp only [e, if_true] at hj2
      simp only [e, decide_true]
      exact hj2.2
    · simp only [e, if_false] at hj2
      simp only [e, decide_false]
      exact hj2.2)
  refine ⟨4 * R - 4712 + q, M, D, h1, h2, by omega, ?_, ?_⟩
  · rw [hY3]; exact h4
  · unfold julFirst
    rw [hY1, hY2, hY3]
    omega

section
variable {h₀ h' : Heap} {L D : Addr} {m : Str → Option Value} {news : List (Addr × Obj)} {s : Shared} {Q E : Value → Shared → Prop} {t : Tok} {tk' : Nat}
theorem retT {r1 r2 r3 y1 y2 y3 : Int} {t1 t2 t3 : Tok} {c : Nat} (hret : RetT news r1 r2 r3 h₀ L m s Q E) (F : Fr h₀ L h' m) (N : News h₀ L h' ((D, tup3 y1 y2 y3 t1 t2 t3 c) :: news)) (l : ∀ p ∈ news, p.1 < D)
    (e : y1 = r1 ∧ y2 = r2 ∧ y3 = r3) : Q (.ref D) { s with heap := h', toks := tk' } := by
  obtain ⟨e1, e2, e3⟩ := e
  subst e1 e2 e3
  exact hret D t1 t2 t3 c h' tk' F N (allLt_of l)
end

theorem fj_s {n y m d : Int} (h : ArmD true n y m d) : 533 ≤ y ∧ 1 ≤ m ∧ m ≤ 13 ∧ 1 ≤ d ∧ d ≤ 30 ∧ 2117212 ≤ n ∧
    ((4*(n-2117211)/1461 = y - 533 ∧ n - 2117211 - (365*(y-533) + (y-533)/4) = 30*(m-1)+d) ∨ (m = 13 ∧ d = 6 ∧ 4*(n-2117211)/1461 = y - 532 ∧ (y - 532) % 4 = 0 ∧ n-2117211 - (365*(y-532) + (y-532)/4) = 0)) := by
  rw [armD_s] at h
  obtain ⟨h1, h2, h3, h4, h5, h6⟩ := h
  have h10 : d ≤ 30 ∧ (m ≠ 13 ∨ d ≤ 5 ∨ m = 13 ∧ d = 6 ∧ y % 4 = 0) := by
    clear h6 h1 h4
    split at h5
    · split at h5 <;> omega
    · omega
  clear h5
  obtain ⟨r, hr⟩ : ∃ r : Int, r = (y - 533) / 4 := ⟨_, rfl⟩
  obtain ⟨q, hq⟩ : ∃ r : Int, r = (y - 533) % 4 := ⟨_, rfl⟩
  obtain ⟨k, hk⟩ : ∃ k : Int, k = 30 * (m - 1) + d := ⟨_, rfl⟩
  rw [← hr, ← hq] at h6
  have h8 : y = 533 + 4 * r + q := by clear h6 hk h10; omega
  have h9 : 0 ≤ q ∧ q ≤ 3 ∧ 0 ≤ r := by clear h6 hk h10; omega
  have hn : n - 2117211 = 1461 * r + 365 * q + k := by clear h8 h10 hr hq; omega
  have hk2 : 1 ≤ k ∧ (k ≤ 365 ∨ k = 366 ∧ q = 3 ∧ m = 13 ∧ d = 6) := by clear h6 hn hr hq; omega
  clear hr hq h6
  refine ⟨h1, h2, h3, h4, h10.1, by clear h8 hk h10; omega, ?_⟩
  rw [hn, ← hk]
  clear hn h10 hk
  subst h8
  obtain ⟨h10, h11 | h11⟩ := hk2
  · left
    rw [show 4 * (1461 * r + 365 * q + k) / 1461 = 4 * r + q by omega, show (533 + 4 * r + q - 533) / 4 = r by omega]
    omega
  · right
    obtain ⟨a, b, c, e⟩ := h11
    subst a b c e
    rw [show (533 + 4 * r + 3 - 532) / 4 = r + 1 by omega]
    omega

section
variable {b c y m d : Int} (z2 : 1 ≤ m) (z3 : m ≤ 13) (z4 : 1 ≤ d) (z5 : d ≤ 30)
  (z7 : c = y - 533 ∧ b - (365 * (y - 533) + (y - 533) / 4) = 30 * (m - 1) + d ∨ m = 13 ∧ d = 6 ∧ c = y - 532 ∧ (y - 532) % 4 = 0 ∧ b - (365 * (y - 532) + (y - 532) / 4) = 0)
include z2 z4 z7
theorem endA (h : b - (365 * c + c / 4) = 0) : c - 1 + 533 = y ∧ ((366 : Int) - 1) / 30 + 1 = m ∧ (366 : Int) - 30 * ((366 - 1) / 30) = d := by
  rcases z7 with ⟨e, f⟩ | ⟨e, f, g, -, -⟩
  · subst e; omega
  · subst e f g; omega
theorem endB (h : b - (365 * c + c / 4) = 0) (k : c.fmod 4 ≠ 0) : c - 1 + 533 = y ∧ ((365 : Int) - 1) / 30 + 1 = m ∧ (365 : Int) - 30 * ((365 - 1) / 30) = d := by
  rw [Int.fmod_eq_emod_of_nonneg _ (by decide)] at k
  rcases z7 with ⟨e, f⟩ | ⟨e, f, g, i, -⟩
  · subst e; omega
  · subst g; exact absurd i k
include z3 z5
theorem endC (h : b - (365 * c + c / 4) ≠ 0) : c + 533 = y ∧ (b - (365 * c + c / 4) - 1) / 30 + 1 = m ∧ b - (365 * c + c / 4) - 30 * ((b - (365 * c + c / 4) - 1) / 30) = d := by
  rcases z7 with ⟨e, f⟩ | ⟨e, f, g, -, i⟩
  · subst e; rw [f]; clear f h; omega
  · subst g; exact absurd i h
end
theorem wordsJ262 : True := by
  k_with "call ref" => (k_here; (with_reducible show wpAny _ _ (call (Value.ref 21) [Value.int _ _, Value.int _ _]) _ _ _); (refine' c_trunc _ _ _ _ _ _ _ _ _ _ _ _ _ _ _ _ _ _ _ _ _ _ ?k1 ?k2 ?k3 ?k4 ?k5 ?k6 ?k7 ?k8 ?k9 ?_; (case k1 => k_asm); (case k2 => k_asm); (case k3 => k_asm); (case k4 => k_asm); (case k5 => k_asm); (case k6 => first | exact rfl | assumption); (case k7 => omega); (case k8 => ktr_room); (case k9 => ktr_units)); intro t9 h9 tk9 F9 N9; (try dsimp only); (try k_fold))
  k_with "mine enter" => (refine' code_def ?k1 ?k2 ?k3 ?k4 ?k5 ?kA ?kF ?kK ?k6 ?k7 ?k8 ?k9 ?kB ?_ ?c2 ?c3 ?c4 ?c5; (case kA => exact rfl); (case kF => exact rfl); (case kK => assumption); (case k1 => k_asm); (case k2 => k_asm); (case k3 => k_asm); (case k4 => k_asm); (case k5 => k_asm); (case k6 => k_is); (case k7 => k_is); (case k8 => ktr_room); (case k9 => first | exact BindsTo.of_eq rfl | exact binds_K (by k_in) rfl (by k_is) rfl rfl rfl); (case c5 => decide); (case kB => exact locs rfl); (case c2 => exact rfl); (case c3 => exact rfl); (case c4 => exact rfl); k_whole; intro g' L' h' FG' F' N' B' X' T'; (try dsimp only); (try k_lift B'); (try k_fold))
  trivial

theorem c_from_jd_s (news : List (Addr × Obj)) (n y m d : Int) (tn : Tok) (tm : Tok) :
    Cl w p loose mean mg mb 88 2 news (ArmD true n y m d) [Value.int n tn, Value.str (Str.ofString "sarkawag") tm] (RetT news y m d) := by
  dsimp only [Cl]
  w_top off
  k_fill
  intros
  rename_i hpre _ _ hret
  have hz := fj_s hpre
  obtain ⟨z1, z2, z3, z4, z5, z6, z7⟩ := hz
  clear hpre
  refine wpAny_call ?_
  k_dflt walk_at "mine enter"
  k_steps
  all_goals (refine retT hret (by assumption) (by assumption) (by assumption) ?_)
  all_goals (first | exact endC z2 z3 z4 z5 z7 (by assumption) | exact endA z2 z4 z7 (by assumption) | exact endB z2 z4 z7 (by assumption) (by assumption))

/-- the moveable calendar's name: said, or none -/
inductive WayMN : Value → Prop
  | none : WayMN .none
  | said (t : Tok) : WayMN (.str (Str.ofString "moveable") t)
inductive Said : Value → Prop
  | said (t : Tok) : Said (.str (Str.ofString "moveable") t)
section
variable {prog : PySem.Program} {w : World} {M : Model} {A : Around} {E : Value → Shared → Prop} {s : Shared} {e : Sem Value} {Q : Value → Shared → Prop}
theorem joinName (h : wpAny M A e (fun v s' => WayMN v ∧ ∃ tk, s' = { s with toks := tk }) E s)
    (k : ∀ v tk, WayMN v → Q v { s with toks := tk }) : wpAny M A e Q E s :=
  wpAny_mono h (fun v s' q => by obtain ⟨q1, tk, q2⟩ := q; exact q2 ▸ k v tk q1) (fun _ _ e => e)
theorem joinSaid (h : wpAny M A e (fun v s' => Said v ∧ ∃ tk, s' = { s with toks := tk }) E s)
    (k : ∀ t tk, Q (.str (Str.ofString "moveable") t) { s with toks := tk }) : wpAny M A e Q E s :=
  wpAny_mono h (fun v s' q => by obtain ⟨⟨t⟩, tk, q2⟩ := q; exact q2 ▸ k t tk) (fun _ _ e => e)
theorem eqWay {nm : Value} {t : Tok} (hw : WayMN nm) (h : Q (.bool false) s) : wpAny (model prog w) A (compareOp .Eq nm (.str (Str.ofString "sarkawag") t)) Q E s := by
  obtain _ | u := hw
  · exact EqNone.eq_none_str h
  · exact PyProof.Rows.eq_str h
end

theorem wordsJ30 : True := by
  k_with "compareOp Eq str" => (k_here; (refine' eqWay ?hw ?_; (case hw => with_reducible assumption)))
  trivial
theorem fm365 (a : Int) : a.fmod 365 = a % 365 := Int.fmod_eq_emod_of_nonneg _ (by decide)
theorem fm4 (a : Int) : a.fmod 4 = a % 4 := Int.fmod_eq_emod_of_nonneg _ (by decide)
theorem wordsJ35 : True := by
  k_with "call ref" => (k_here; (with_reducible show wpAny _ _ (call (Value.ref 21) [Value.int _ _, Value.int _ _]) _ _ _); (refine' c_trunc _ _ _ _ _ _ _ _ _ _ _ _ _ _ _ _ _ _ _ _ _ _ ?k1 ?k2 ?k3 ?k4 ?k5 ?k6 ?k7 ?k8 ?k9 ?_; (case k1 => k_asm); (case k2 => k_asm); (case k3 => k_asm); (case k4 => k_asm); (case k5 => k_asm); (case k6 => first | exact rfl | assumption); (case k7 => first | omega | (simp only [fm365]; omega)); (case k8 => ktr_room); (case k9 => ktr_units)); intro t9 h9 tk9 F9 N9; (try dsimp only); (try k_fold))
  trivial

theorem fj_m {n y m d : Int} (h : ArmD false n y m d) : 1 ≤ y ∧ 1 ≤ m ∧ m ≤ 13 ∧ 1 ≤ d ∧ d ≤ 30 ∧ 1922868 ≤ n ∧
    (n - 1922502 - 1) / 365 = y ∧ (n - 1922502 - 1) % 365 / 30 = m - 1 ∧ d = n - 1922502 - 365 * y - 30 * (m - 1) := by
  rw [armD_m] at h
  obtain ⟨h1, h2, h3, h4, h5, h6⟩ := h
  have : d ≤ 30 ∧ (m = 13 → d ≤ 5) := by split at h5 <;> omega
  clear h5
  obtain ⟨k, hk⟩ : ∃ k : Int, k = 30 * (m - 1) + d := ⟨_, rfl⟩
  have k1 : 1 ≤ k ∧ k ≤ 365 := by omega
  have e1 : n - 1922502 - 1 = 365 * y + (k - 1) := by omega
  have e2 : (n - 1922502 - 1) / 365 = y := by omega
  have e3 : (n - 1922502 - 1) % 365 = k - 1 := by omega
  have e4 : (k - 1) / 30 = m - 1 := by omega
  rw [e2, e3, e4]
  omega
theorem c_from_jd_x (news : List (Addr × Obj)) (n y m d : Int) (tn : Tok) (nm : Value) (hw : WayMN nm) :
    Cl w p loose mean mg mb 88 2 news (ArmD false n y m d) [Value.int n tn, nm] (RetT news y m d) := by
  dsimp only [Cl]
  w_top off
  k_fill
  intros
  rename_i hpre _ _ hret
  have hz := fj_m hpre
  obtain ⟨z1, z2, z3, z4, z5, z6, z7, z8, z9⟩ := hz
  clear hpre
  refine wpAny_call ?_
  k_dflt walk_at "mine enter"
  k_steps
  all_goals (refine retT hret (by assumption) (by assumption) (by assumption) ?_)
  all_goals (simp only [fm365, z7, z8]; refine ⟨trivial, ?_, ?_⟩ <;> omega)
theorem c_leap_a (news : List (Addr × Obj)) (y : Int) (ty : Tok) :
    Cl w p loose mean mg mb 72 1 news True [Value.int y ty] (RetV news (fun _ => Value.bool (decide (533 ≤ y ∧ y % 4 = 0)))) := by
  dsimp only [Cl]
  w_top off
  k_fill
  intros
  rename_i hpre _ _ hret
  clear hpre
  refine wpAny_call ?_
  k_dflt walk_at "mine enter"
  k_steps
  all_goals (refine retB hret (by assumption) (by assumption) ?_)
  all_goals (rw [Bool.eq_iff_iff]; simp [fm4]; try omega)
theorem c_leap_j (news : List (Addr × Obj)) (y : Int) (ty : Tok) :
    Cl w p loose mean mg mb 29 1 news True [Value.int y ty] (RetV news (fun _ => Value.bool (decide (y % 4 = 0)))) := by
  dsimp only [Cl]
  w_top off
  k_fill
  intros
  rename_i hpre _ _ hret
  clear hpre
  refine wpAny_call ?_
  k_dflt walk_at "mine enter"
  k_steps
  all_goals (refine retB hret (by assumption) (by assumption) ?_)
  all_goals (rw [Bool.eq_iff_iff]; simp [fm4]; try omega)

theorem julD_open {n Y M D : Int} (h : JulD n Y M D) : ∃ R q : Int, Y = 4 * R + q - 4712 ∧ 0 ≤ q ∧ q ≤ 3 ∧ 1 ≤ M ∧ M ≤ 12 ∧ 1 ≤ D ∧ D ≤ julLen (decide (q = 0)) M ∧ n = 1461 * R + (if q = 0 then 0 else 366 + 365 * (q - 1)) + julCum (decide (q = 0)) M + D - 1 := by
  obtain ⟨h1, h2, h3, h4, h5⟩ := h
  unfold julFirst at h5
  obtain ⟨R, hR⟩ : ∃ R : Int, R = (Y + 4712) / 4 := ⟨_, rfl⟩
  obtain ⟨q, hq⟩ : ∃ R : Int, R = (Y + 4712) % 4 := ⟨_, rfl⟩
  have e : (Y % 4 = 0) ↔ (q = 0) := by omega
  simp only [e, ← hR, ← hq] at h4 h5
  exact ⟨R, q, by omega, by omega, by omega, h1, h2, h3, h4, h5⟩
theorem cumK (lp : Bool) {M : Int} (h1 : 3 ≤ M) (h2 : M ≤ 12) : julCum lp M = (if lp then 1 else 0) + 306001 * (M + 1) / 10000 - 63 := by
  rcases (by omega : M = 3 ∨ M = 4 ∨ M = 5 ∨ M = 6 ∨ M = 7 ∨ M = 8 ∨ M = 9 ∨ M = 10 ∨ M = 11 ∨ M = 12) with e | e | e | e | e | e | e | e | e | e <;> subst e <;> cases lp <;> rfl
theorem cumK1 (lp : Bool) {M : Int} (h1 : 1 ≤ M) (h2 : M ≤ 2) : julCum lp M = 306001 * (M + 13) / 10000 - 428 := by
  rcases (by omega : M = 1 ∨ M = 2) with e | e <;> subst e <;> cases lp <;> rfl
theorem march {n Y M D : Int} (h : JulD n Y M D) : (M ≤ 2 → n + 1524 = 1461 * (Y + 4715) / 4 + 306001 * (M + 13) / 10000 + D) ∧ (2 < M → n + 1524 = 1461 * (Y + 4716) / 4 + 306001 * (M + 1) / 10000 + D) := by
  obtain ⟨R, q, h1, h2, h3, h4, h5, h6, h7, h8⟩ := julD_open h
  clear h h7
  subst h1
  constructor <;> intro hM
  · rw [cumK1 _ h4 hM] at h8
    obtain ⟨k, hk⟩ : ∃ k : Int, k = 306001 * (M + 13) / 10000 := ⟨_, rfl⟩
    rw [← hk] at h8 ⊢
    clear hk
    omega
  · rw [cumK _ (by omega) h5] at h8
    obtain ⟨k, hk⟩ : ∃ k : Int, k = 306001 * (M + 1) / 10000 := ⟨_, rfl⟩
    rw [← hk] at h8 ⊢
    clear hk
    simp only [decide_eq_true_eq] at h8
    omega
theorem lenK (lp : Bool) {M : Int} (h1 : 3 ≤ M) (h2 : M ≤ 12) : 306001 * (M + 1) / 10000 + julLen lp M ≤ 306001 * (M + 1 + 1) / 10000 := by
  rcases (by omega : M = 3 ∨ M = 4 ∨ M = 5 ∨ M = 6 ∨ M = 7 ∨ M = 8 ∨ M = 9 ∨ M = 10 ∨ M = 11 ∨ M = 12) with e | e | e | e | e | e | e | e | e | e <;> subst e <;> cases lp <;> decide
theorem lenK1 (lp : Bool) {M : Int} (h1 : 1 ≤ M) (h2 : M ≤ 2) : 306001 * (M + 13) / 10000 + julLen lp M ≤ 487 + (if lp then 1 else 0) ∧ 306001 * (M + 13) / 10000 + julLen lp M ≤ 306001 * (M + 13 + 1) / 10000 := by
  rcases (by omega : M = 1 ∨ M = 2) with e | e <;> subst e <;> cases lp <;> decide
def cOf (n : Int) : Int := (20 * (n + 1524) - 2442) / 7305
def dOf (n : Int) : Int := 1461 * cOf n / 4
def eOf (n : Int) : Int := (n + 1524 - dOf n) * 10000 / 306001
theorem eBack {m x : Int} (h1 : 1 ≤ m) (h2 : m ≤ 15) (h3 : 306001 * m / 10000 + 1 ≤ x) (h4 : x ≤ 306001 * (m + 1) / 10000) : x * 10000 / 306001 = m := by
  obtain ⟨d, hd⟩ : ∃ d : Int, d = 306001 * (m + 1) / 10000 := ⟨_, rfl⟩
  rw [← hd] at h4
  have h5 : 10000 * d ≠ 306001 * (m + 1) := fun q => by clear hd h3 h4; omega
  have h6 : 10000 * d ≤ 306001 * (m + 1) := by omega
  clear hd
  omega
theorem cBack {y t b : Int} (hb : b = 1461 * y / 4 + t) (h1 : 123 ≤ t) (h2 : t ≤ 487 ∨ t ≤ 488 ∧ y % 4 = 3) : (20 * b - 2442) / 7305 = y := by
  obtain ⟨a, ha⟩ : ∃ a : Int, a = y / 4 := ⟨_, rfl⟩
  obtain ⟨r, hr⟩ : ∃ a : Int, a = y % 4 := ⟨_, rfl⟩
  have e : y = 4 * a + r := by omega
  have f : 1461 * y / 4 = 1461 * a + 365 * r := by omega
  omega
theorem back {n y m D : Int} (h : n + 1524 = 1461 * y / 4 + 306001 * m / 10000 + D) (h1 : 4 ≤ m) (h2 : m ≤ 15) (h3 : 1 ≤ D) (h4 : 306001 * m / 10000 + D ≤ 306001 * (m + 1) / 10000)
    (h5 : 306001 * m / 10000 + D ≤ 487 ∨ 306001 * m / 10000 + D ≤ 488 ∧ y % 4 = 3) : cOf n = y ∧ eOf n = m ∧ n + 1524 - dOf n - 306001 * eOf n / 10000 = D := by
  have c : cOf n = y := cBack (t := 306001 * m / 10000 + D) (by omega) (by omega) h5
  have d : n + 1524 - dOf n = 306001 * m / 10000 + D := by unfold dOf; rw [c]; omega
  have e : eOf n = m := by unfold eOf; rw [d]; exact eBack (by omega) h2 (by omega) h4
  exact ⟨c, e, by rw [e]; omega⟩
theorem fj_j {n Y M D : Int} (h : JulD n Y M D) : (2 < M ∧ cOf n = Y + 4716 ∧ eOf n = M + 1 ∨ M ≤ 2 ∧ cOf n = Y + 4715 ∧ eOf n = M + 13) ∧ n + 1524 - dOf n - 306001 * eOf n / 10000 = D := by
  have hm := march h
  obtain ⟨h1, h2, h3, h4, -⟩ := h
  by_cases e : M ≤ 2
  · have l := lenK1 (decide (Y % 4 = 0)) h1 e
    have b := back (hm.1 e) (by omega) (by omega) h3 (by omega) (by simp only [decide_eq_true_eq] at l; omega)
    exact ⟨.inr ⟨e, b.1, b.2.1⟩, b.2.2⟩
  · have l := lenK (decide (Y % 4 = 0)) (show 3 ≤ M by omega) h2
    have b := back (hm.2 (by omega)) (by omega) (by omega) h3 (by omega) (.inl (by omega))
    exact ⟨.inl ⟨by omega, b.1, b.2.1⟩, b.2.2⟩
theorem fj_jf {n Y M D : Int} (h : JulD n Y M D) :
    (2 < M ∧ (20 * (n + 1524) - 2442).fdiv 7305 = Y + 4716 ∧ ((n + 1524 - (1461 * (20 * (n + 1524) - 2442).fdiv 7305).fdiv 4) * 10000).fdiv 306001 = M + 1 ∨
      M ≤ 2 ∧ (20 * (n + 1524) - 2442).fdiv 7305 = Y + 4715 ∧ ((n + 1524 - (1461 * (20 * (n + 1524) - 2442).fdiv 7305).fdiv 4) * 10000).fdiv 306001 = M + 13) ∧
    n + 1524 - (1461 * (20 * (n + 1524) - 2442).fdiv 7305).fdiv 4 - (306001 * ((n + 1524 - (1461 * (20 * (n + 1524) - 2442).fdiv 7305).fdiv 4) * 10000).fdiv 306001).fdiv 10000 = D := by
  have hz := fj_j h
  unfold eOf dOf cOf at hz
  simp (disch := decide) only [Int.fdiv_eq_ediv_of_nonneg]
  exact hz
theorem endJ {c e x Y M D : Int} (hz : (2 < M ∧ c = Y + 4716 ∧ e = M + 1 ∨ M ≤ 2 ∧ c = Y + 4715 ∧ e = M + 13) ∧ x = D) (m1 : 1 ≤ M) (m2 : M ≤ 12) :
    (e < 14 → c - 4716 = Y ∧ e - 1 = M ∧ x = D) ∧ (¬e < 14 → c - 4715 = Y ∧ e - 13 = M ∧ x = D) := by omega
theorem tj_j {n Y M D : Int} (h : JulD n Y M D) : (M ≤ 2 → 1461 * (Y - 1 + 4716) / 4 + 306001 * (M + 12 + 1) / 10000 + D - 1524 = n) ∧ (2 < M → 1461 * (Y + 4716) / 4 + 306001 * (M + 1) / 10000 + D - 1524 = n) := by
  have hm := march h
  constructor <;> intro e
  · have a := hm.1 e
    rw [show Y - 1 + 4716 = Y + 4715 by omega, show M + 12 + 1 = M + 13 by omega]
    omega
  · have a := hm.2 e
    omega

theorem wordsJ40 : True := by
  k_with "mine prem" => ((case k1 => k_asm); (case k2 => k_asm); (case k3 => k_asm); (case k4 => k_asm); (case k5 => k_asm); (case k6 => first | exact rfl | assumption); (case k8 => ktr_room); (case k9 => ktr_units))
  k_with "call ref" => (k_here; (with_reducible show wpAny _ _ (call (Value.ref 29) [Value.int _ _]) _ _ _); (refine' c_leap_j _ _ _ _ _ _ _ _ _ _ _ _ _ _ _ _ _ _ _ _ ?k1 ?k2 ?k3 ?k4 ?k5 ?k6 trivial ?k8 ?k9 ?_; walk_at "mine prem"); intro t9 h9 tk9 F9 N9; (try dsimp only); (try k_fold))
  trivial

theorem in30 {A : Around} {s : Shared} {Q E : Value → Shared → Prop} {h₀ : Heap} {L : Addr} {m : Str → Option Value} {x : Int} {u : Tok} : Fr h₀ L s.heap m → (hd.heap_39 w.params).In h₀ → Q (.bool ([4, 6, 9, 11].any (· == x))) s →
    wpAny (model PySem.Challenge.rw_jb0009_01.row.prog w) A (compareOp .In (.int x u) (.ref 22)) Q E s := by
  k_fill
  intro F X h
  obtain ⟨t4, t6, t9, t11, c, d, sl, e⟩ : ∃ t4 t6 t9 t11 c d sl, (hd.heap_39 w.params).lookup 22 = some ⟨.type "tuple", d, .seq #[.int 4 t4, .int 6 t6, .int 9 t9, .int 11 t11] c, sl⟩ := ⟨_, _, _, _, _, _, _, by with_unfolding_all k_is⟩
  exact in_tuple_ints (t := 22) ⟨_, (X.keeps F.keep) _ _ e, rfl, _, rfl⟩ (.cons _ _ (.cons _ _ (.cons _ _ (.cons _ _ .nil)))) h
theorem wordsJ411 : True := by
  k_with "compareOp In int ref" => (k_here; (with_reducible show wpAny _ _ (compareOp CmpOp.In (Value.int _ _) (Value.ref 22)) _ _ _); (refine' in30 ?k1 ?k2 ?_; (case k1 => k_asm); (case k2 => k_asm)))
  trivial

theorem c_mlen_j (news : List (Addr × Obj)) (Y M : Int) (ty tm : Tok) :
    Cl w p loose mean mg mb 36 2 news True [Value.int Y ty, Value.int M tm] (RetV news (fun t => Value.int (julLen (decide (Y % 4 = 0)) M) t)) := by
  dsimp only [Cl]
  w_top off
  k_fill
  intros
  rename_i hpre _ _ hret
  clear hpre
  refine wpAny_call ?_
  k_dflt walk_at "mine enter"
  k_steps
  all_goals (refine retI hret (by assumption) (by assumption) ?_)
  all_goals (unfold julLen; rename_i hq _ _ _ _; revert hq; simp_all <;> omega)
theorem c_from_jd_j (news : List (Addr × Obj)) (n Y M D : Int) (tn : Tok) :
    Cl w p loose mean mg mb 50 1 news (JulD n Y M D) [Value.int n tn] (RetT news Y M D) := by
  dsimp only [Cl]
  w_top off
  k_fill
  intros
  rename_i hpre _ _ hret
  refine wpAny_call ?_
  k_dflt walk_at "mine enter"
  k_steps
  all_goals (refine retT hret (by assumption) (by assumption) (by assumption) ?_)
  all_goals (first | exact (endJ (fj_jf hpre) hpre.1 hpre.2.1).1 (by assumption) | exact (endJ (fj_jf hpre) hpre.1 hpre.2.1).2 (by assumption))

theorem len_pos (lp : Bool) (M : Int) : 28 ≤ julLen lp M ∧ julLen lp M ≤ 31 := by
  unfold julLen
  cases lp <;> simp <;> split <;> (try split) <;> omega
theorem cum_mono (lp : Bool) {k M : Int} (h1 : 1 ≤ k) (h2 : k < M) (h3 : M ≤ 12) : julCum lp k + julLen lp k ≤ julCum lp M := by
  obtain ⟨j, hj⟩ : ∃ j : Nat, M = k + 1 + j := ⟨(M - k - 1).toNat, by omega⟩
  subst hj
  induction j with
  | zero => rw [show k + 1 + ((0 : Nat) : Int) = k + 1 by omega, cum_step lp h1 (by omega)]; omega
  | succ j ih =>
    have := ih (by omega) (by omega)
    rw [show k + 1 + ((j + 1 : Nat) : Int) = (k + 1 + (j : Int)) + 1 by omega, cum_step lp (by omega) (by omega)]
    have := len_pos lp (k + 1 + (j : Int))
    omega

theorem wordsJ50 : True := by
  k_with "mine retV" => (intro t9 h9 tk9 F9 N9; (try dsimp only); (try k_fold))
  k_with "mine retT" => (intro D9 t9a t9b t9c c9 h9 tk9 F9 N9 l9; (try dsimp only); (try k_fold))
  k_with "call ref" => (k_here; (with_reducible show wpAny _ _ (call (Value.ref 36) [Value.int _ _, Value.int _ _]) _ _ _); (refine' c_mlen_j _ _ _ _ _ _ _ _ _ _ _ _ _ _ _ _ _ _ _ _ _ _ ?k1 ?k2 ?k3 ?k4 ?k5 ?k6 ?k7 ?k8 ?k9 ?_; (case k7 => trivial); walk_at "mine prem"); walk_at "mine retV")
  trivial

theorem c_legal (news : List (Addr × Obj)) (Y M D : Int) (ty tm td : Tok) :
    Cl w p loose mean mg mb 43 3 news (1 ≤ D ∧ D ≤ julLen (decide (Y % 4 = 0)) M) [Value.int Y ty, Value.int M tm, Value.int D td] (RetV news (fun _ => Value.bool true)) := by
  dsimp only [Cl]
  w_top off
  k_fill
  intros
  rename_i hpre _ _ hret
  obtain ⟨hp1, hp2⟩ := hpre
  refine wpAny_call ?_
  k_dflt walk_at "mine enter"
  k_steps
  all_goals (exact retB hret (by assumption) (by assumption) rfl)

theorem wordsJ60 : True := by
  k_with "call ref" => (k_here; (with_reducible show wpAny _ _ (call (Value.ref 43) [Value.int _ _, Value.int _ _, Value.int _ _]) _ _ _); (refine' c_legal _ _ _ _ _ _ _ _ _ _ _ _ _ _ _ _ _ _ _ _ _ _ _ _ ?k1 ?k2 ?k3 ?k4 ?k5 ?k6 ?k7 ?k8 ?k9 ?_; (case k7 => assumption); walk_at "mine prem"); walk_at "mine retV")
  trivial

theorem c_to_jd_j (news : List (Addr × Obj)) (n Y M D : Int) (ty tm td : Tok) :
    Cl w p loose mean mg mb 57 4 news (JulD n Y M D) [Value.int Y ty, Value.int M tm, Value.int D td] (RetV news (fun t => Value.int n t)) := by
  dsimp only [Cl]
  w_top off
  k_fill
  intros
  rename_i hpre _ _ hret
  have hp1 : 1 ≤ D ∧ D ≤ julLen (decide (Y % 4 = 0)) M := ⟨hpre.2.2.1, hpre.2.2.2.1⟩
  refine wpAny_call ?_
  k_dflt walk_at "mine enter"
  k_steps
  all_goals (refine retI hret (by assumption) (by assumption) ?_)
  all_goals (have hz := tj_j hpre; have m1 := hpre.1; have m2 := hpre.2.1; clear hpre; simp (disch := decide) only [Int.fdiv_eq_ediv_of_nonneg] at *; omega)

abbrev RetL (news : List (Addr × Obj)) (x : Int) (h₀ : Heap) (L : Addr) (m : Str → Option Value) (s : Shared) (Q E0 : Value → Shared → Prop) : Prop :=
  ∀ (D : Addr) (t1 t2 t3 t4 t5 t6 t7 t8 t9 t10 t11 t12 t13 : Tok) (h' : Heap) (tk' : Nat), Fr h₀ L h' m → News h₀ L h' ((D, listOf #[.int 30 t1, .int 30 t2, .int 30 t3, .int 30 t4, .int 30 t5, .int 30 t6, .int 30 t7, .int 30 t8, .int 30 t9, .int 30 t10, .int 30 t11, .int 30 t12, .int x t13] 0) :: news) → AllLt D news → Q (.ref D) { s with heap := h', toks := tk' }
theorem newsTail {h₀ h : Heap} {L : Addr} {x : Addr × Obj} {news : List (Addr × Obj)} (N : News h₀ L h (x :: news)) : News h₀ L h news := fun p hp => N p (.tail _ hp)
theorem retL {h₀ h' : Heap} {L D : Addr} {m : Str → Option Value} {news : List (Addr × Obj)} {s : Shared} {Q E : Value → Shared → Prop} {tk' : Nat} {x y : Int} {t1 t2 t3 t4 t5 t6 t7 t8 t9 t10 t11 t12 t13 : Tok} (hret : RetL news y h₀ L m s Q E) (F : Fr h₀ L h' m)
    (N : News h₀ L h' ((D, listOf #[.int 30 t1, .int 30 t2, .int 30 t3, .int 30 t4, .int 30 t5, .int 30 t6, .int 30 t7, .int 30 t8, .int 30 t9, .int 30 t10, .int 30 t11, .int 30 t12, .int x t13] 0) :: news)) (l : ∀ p ∈ news, p.1 < D) (e : x = y) : Q (.ref D) { s with heap := h', toks := tk' } := by
  subst e
  exact hret D t1 t2 t3 t4 t5 t6 t7 t8 t9 t10 t11 t12 t13 h' tk' F N (allLt_of l)
theorem c_first (news : List (Addr × Obj)) (fx : Bool) (y : Int) (ty : Tok) :
    Cl w p loose mean mg mb 119 1 news True [Value.bool fx, Value.int y ty] (RetV news (fun t => Value.int (armFirst fx y) t)) := by
  dsimp only [Cl]
  w_top off
  k_fill
  intros
  rename_i hpre _ _ hret
  refine wpAny_call ?_
  k_dflt walk_at "mine enter"
  k_steps
  · refine retI hret (by assumption) (newsTail (by assumption)) ?_
    rename (fx = true) => hq
    subst hq
    simp (disch := decide) only [armFirst, Int.fdiv_eq_ediv_of_nonneg, Int.fmod_eq_emod_of_nonneg, if_true]
  · refine retI hret (by assumption) (by assumption) ?_
    rename (fx = false) => hq
    subst hq
    simp [armFirst]
theorem c_lengths (news : List (Addr × Obj)) (fx : Bool) (y : Int) (ty : Tok) :
    Cl w p loose mean mg mb 126 1 news True [Value.bool fx, Value.int y ty] (RetL news (if armLeap fx y then 6 else 5)) := by
  dsimp only [Cl]
  w_top off
  k_fill
  intros
  rename_i hpre _ _ hret
  refine wpAny_call ?_
  k_dflt walk_at "mine enter"
  k_steps
  all_goals (refine retL hret (by assumption) (by assumption) (by assumption) ?_)
  all_goals (unfold armLeap; simp_all [fm4])

theorem mlL {x : Int} (h1 : 1 ≤ x) (h2 : x ≤ 12) : ([31, 29, 31, 30, 31, 30, 31, 31, 30, 31, 30, 31] : List Int).getD (x - 1).toNat 0 = julLen true x := by
  rcases (by omega : x = 1 ∨ x = 2 ∨ x = 3 ∨ x = 4 ∨ x = 5 ∨ x = 6 ∨ x = 7 ∨ x = 8 ∨ x = 9 ∨ x = 10 ∨ x = 11 ∨ x = 12) with e | e | e | e | e | e | e | e | e | e | e | e <;> subst e <;> rfl
theorem mlN {x : Int} (h1 : 1 ≤ x) (h2 : x ≤ 12) : ([31, 28, 31, 30, 31, 30, 31, 31, 30, 31, 30, 31] : List Int).getD (x - 1).toNat 0 = julLen false x := by
  rcases (by omega : x = 1 ∨ x = 2 ∨ x = 3 ∨ x = 4 ∨ x = 5 ∨ x = 6 ∨ x = 7 ∨ x = 8 ∨ x = 9 ∨ x = 10 ∨ x = 11 ∨ x = 12) with e | e | e | e | e | e | e | e | e | e | e | e <;> subst e <;> rfl
section
variable {q T R year len day0 X Z : Int}
theorem lq (hT1 : q = 0 ∧ T = X ∧ 0 ≤ T ∧ T < 366 ∨ 1 ≤ q ∧ T = Z ∧ 366 + 365 * (q - 1) ≤ T ∧ T < 366 + 365 * q) (q3 : q ≤ 3)
    (kInv : year = 4 * R - 4712 ∧ len = 366 ∧ day0 = T ∨ 4 * R - 4712 < year ∧ year ≤ 4 * R - 4712 + q ∧ len = 365 ∧ day0 = T - 366 - 365 * (year - (4 * R - 4712) - 1) ∧ 0 ≤ day0) (hne : ¬len ≤ day0) :
    year = 4 * R - 4712 + q ∧ (year.fmod 4 = 0 ↔ q = 0) := by
  rw [Int.fmod_eq_emod_of_nonneg _ (by decide)]
  omega
theorem st0 {lp : Bool} {v day month M D : Int} (hv : v = julLen lp month) (h1 : 1 ≤ month) (h2 : month ≤ M) (h3 : day = julCum lp M + D - 1 - julCum lp month) (hM : M ≤ 12) (hd : 1 ≤ D) (hD : D ≤ julLen lp M) :
    (v ≤ day → 1 ≤ month + 1 ∧ month + 1 ≤ M ∧ day - v = julCum lp M + D - 1 - julCum lp (month + 1)) ∧ (¬v ≤ day → month = M ∧ day + 1 = D) := by
  subst hv
  by_cases e : month = M
  · subst e
    omega
  · have a := cum_step lp h1 (by omega)
    have b := cum_mono lp h1 (show month < M by omega) hM
    omega
variable {month M D day : Int}
theorem st1 (hT1 : q = 0 ∧ T = X ∧ 0 ≤ T ∧ T < 366 ∨ 1 ≤ q ∧ T = Z ∧ 366 + 365 * (q - 1) ≤ T ∧ T < 366 + 365 * q) (q3 : q ≤ 3)
    (kInv : year = 4 * R - 4712 ∧ len = 366 ∧ day0 = T ∨ 4 * R - 4712 < year ∧ year ≤ 4 * R - 4712 + q ∧ len = 365 ∧ day0 = T - 366 - 365 * (year - (4 * R - 4712) - 1) ∧ 0 ≤ day0) (hne : ¬len ≤ day0)
    (hM : M ≤ 12) (hd : 1 ≤ D) (hD : D ≤ julLen (decide (q = 0)) M)
    (h1 : 1 ≤ month) (h2 : month ≤ M) (h3 : day = julCum (decide (q = 0)) M + D - 1 - julCum (decide (q = 0)) month) (hl : year.fmod 4 = 0) :
    (([31, 29, 31, 30, 31, 30, 31, 31, 30, 31, 30, 31] : List Int).getD (month - 1).toNat 0 ≤ day → 1 ≤ month + 1 ∧ month + 1 ≤ M ∧ day - ([31, 29, 31, 30, 31, 30, 31, 31, 30, 31, 30, 31] : List Int).getD (month - 1).toNat 0 = julCum (decide (q = 0)) M + D - 1 - julCum (decide (q = 0)) (month + 1)) ∧
    (¬([31, 29, 31, 30, 31, 30, 31, 31, 30, 31, 30, 31] : List Int).getD (month - 1).toNat 0 ≤ day → year = 4 * R + q - 4712 ∧ month = M ∧ day + 1 = D) := by
  obtain ⟨a, b⟩ := lq hT1 q3 kInv hne
  have e : q = 0 := b.mp hl
  have c := st0 (v := ([31, 29, 31, 30, 31, 30, 31, 31, 30, 31, 30, 31] : List Int).getD (month - 1).toNat 0) (by rw [mlL h1 (by omega)]; simp [e]) h1 h2 h3 hM hd hD
  exact ⟨c.1, fun h => ⟨by omega, c.2 h⟩⟩
theorem st2 (hT1 : q = 0 ∧ T = X ∧ 0 ≤ T ∧ T < 366 ∨ 1 ≤ q ∧ T = Z ∧ 366 + 365 * (q - 1) ≤ T ∧ T < 366 + 365 * q) (q3 : q ≤ 3)
    (kInv : year = 4 * R - 4712 ∧ len = 366 ∧ day0 = T ∨ 4 * R - 4712 < year ∧ year ≤ 4 * R - 4712 + q ∧ len = 365 ∧ day0 = T - 366 - 365 * (year - (4 * R - 4712) - 1) ∧ 0 ≤ day0) (hne : ¬len ≤ day0)
    (hM : M ≤ 12) (hd : 1 ≤ D) (hD : D ≤ julLen (decide (q = 0)) M)
    (h1 : 1 ≤ month) (h2 : month ≤ M) (h3 : day = julCum (decide (q = 0)) M + D - 1 - julCum (decide (q = 0)) month) (hl : year.fmod 4 ≠ 0) :
    (([31, 28, 31, 30, 31, 30, 31, 31, 30, 31, 30, 31] : List Int).getD (month - 1).toNat 0 ≤ day → 1 ≤ month + 1 ∧ month + 1 ≤ M ∧ day - ([31, 28, 31, 30, 31, 30, 31, 31, 30, 31, 30, 31] : List Int).getD (month - 1).toNat 0 = julCum (decide (q = 0)) M + D - 1 - julCum (decide (q = 0)) (month + 1)) ∧
    (¬([31, 28, 31, 30, 31, 30, 31, 31, 30, 31, 30, 31] : List Int).getD (month - 1).toNat 0 ≤ day → year = 4 * R + q - 4712 ∧ month = M ∧ day + 1 = D) := by
  obtain ⟨a, b⟩ := lq hT1 q3 kInv hne
  have e : ¬q = 0 := fun h => hl (b.mpr h)
  have c := st0 (v := ([31, 28, 31, 30, 31, 30, 31, 31, 30, 31, 30, 31] : List Int).getD (month - 1).toNat 0) (by rw [mlN h1 (by omega)]; simp [e]) h1 h2 h3 hM hd hD
  exact ⟨c.1, fun h => ⟨by omega, c.2 h⟩⟩
end
theorem cum_le (lp : Bool) {M : Int} (h1 : 1 ≤ M) (h2 : M ≤ 12) : 0 ≤ julCum lp M ∧ julCum lp M + julLen lp M ≤ (if lp then 366 else 365) := by
  rcases (by omega : M = 1 ∨ M = 2 ∨ M = 3 ∨ M = 4 ∨ M = 5 ∨ M = 6 ∨ M = 7 ∨ M = 8 ∨ M = 9 ∨ M = 10 ∨ M = 11 ∨ M = 12) with e | e | e | e | e | e | e | e | e | e | e | e <;> subst e <;> cases lp <;> decide

theorem newsCut2 {h₀ h : Heap} {L : Addr} {x y z : Addr × Obj} {news : List (Addr × Obj)} (N : News h₀ L h (x :: y :: z :: news)) : News h₀ L h (x :: news) := fun p hp => by
  rcases List.mem_cons.mp hp with e | e
  · exact N p (e ▸ .head _)
  · exact N p (.tail _ (.tail _ (.tail _ e)))
theorem ltOf2 {D : Addr} : ∀ {news : List (Addr × Obj)} {a b : Addr}, a < D ∧ b < D ∧ AllLt D news → ∀ p ∈ news, p.1 < D
  | [], _, _, _ => fun p hp => (nomatch hp)
  | q :: r, a, b, h => fun p hp => by
    rcases List.mem_cons.mp hp with e | e
    · exact e ▸ h.2.2.1
    · exact ltOf2 (a := a) (b := b) ⟨h.1, h.2.1, h.2.2.2⟩ p e
theorem c_law_j (news : List (Addr × Obj)) (n Y M D : Int) (tn : Tok) :
    Cl w p loose mean mg mb 133 1 news (JulD n Y M D) [Value.int n tn] (RetT news Y M D) := by
  dsimp only [Cl]
  w_top off
  k_fill
  intros
  rename_i hpre _ _ hret
  obtain ⟨R, q, q1, q2, q3, q4, q5, q6, q7, q8⟩ := julD_open hpre
  clear hpre
  obtain ⟨T, hT⟩ : ∃ T : Int, T = n - 1461 * R := ⟨_, rfl⟩
  have hT1 : q = 0 ∧ T = julCum (decide (q = 0)) M + D - 1 ∧ 0 ≤ T ∧ T < 366 ∨ 1 ≤ q ∧ T = 366 + 365 * (q - 1) + julCum (decide (q = 0)) M + D - 1 ∧ 366 + 365 * (q - 1) ≤ T ∧ T < 366 + 365 * q := by
    have hz := cum_le (decide (q = 0)) q4 q5
    by_cases e : q = 0
    · left
      simp only [e, if_true, decide_true] at q7 q8 hz ⊢
      exact ⟨trivial, by omega, by omega, by omega⟩
    · right
      simp [e] at q7 q8 hz ⊢
      omega
  have hfd : n.fdiv 1461 = R := by rw [Int.fdiv_eq_ediv_of_nonneg _ (by decide)]; omega
  have hfm : n.fmod 1461 = T := by rw [Int.fmod_eq_emod_of_nonneg _ (by decide)]; omega
  have hc1 : julCum (decide (q = 0)) 1 = 0 := by simp [julCum]
  refine wpAny_call ?_
  k_dflt walk_at "mine enter"
  (k_with "state" => (first | omega | (simp only [hfd, hfm] at *; omega) | exact (st1 (M := M) (D := D) (by assumption) (by assumption) (by assumption) (by assumption) (by assumption) (by assumption) (by assumption) (by assumption) (by assumption) (by assumption) (by assumption) ).1 (by assumption) | exact (st2 (M := M) (D := D) (by assumption) (by assumption) (by assumption) (by assumption) (by assumption) (by assumption) (by assumption) (by assumption) (by assumption) (by assumption) (by assumption) ).1 (by assumption)))
  (k_with "measure" => (first | omega | ((first | have hz9 := (st1 (M := M) (D := D) (by assumption) (by assumption) (by assumption) (by assumption) (by assumption) (by assumption) (by assumption) (by assumption) (by assumption) (by assumption) (by assumption) ).1 (by assumption) | have hz9 := (st2 (M := M) (D := D) (by assumption) (by assumption) (by assumption) (by assumption) (by assumption) (by assumption) (by assumption) (by assumption) (by assumption) (by assumption) (by assumption) ).1 (by assumption)); omega)))
  (k_with "exec While Compare cons nil" => k_while (fun _ day month => 1 ≤ month ∧ month ≤ M ∧ day = julCum (decide (q = 0)) M + D - 1 - julCum (decide (q = 0)) month) (fun _ day month => (M - month).toNat) "day" "month")
  (k_with "exec While Compare cons nil" => k_while (fun _ day year length => (year = 4 * R - 4712 ∧ length = 366 ∧ day = T) ∨ (4 * R - 4712 < year ∧ year ≤ 4 * R - 4712 + q ∧ length = 365 ∧ day = T - 366 - 365 * (year - (4 * R - 4712) - 1) ∧ 0 ≤ day)) (fun _ day year length => day.toNat) "day" "year" "length")
  k_steps
  · refine retT hret (by assumption) (newsCut2 (by assumption)) (ltOf2 (by assumption)) ?_
    rw [q1]
    exact (st1 (M := M) (D := D) (by assumption) (by assumption) (by assumption) (by assumption) (by assumption) (by assumption) (by assumption) (by assumption) (by assumption) (by assumption) (by assumption) ).2 (by assumption)
  · refine retT hret (by assumption) (newsCut2 (by assumption)) (ltOf2 (by assumption)) ?_
    rw [q1]
    exact (st2 (M := M) (D := D) (by assumption) (by assumption) (by assumption) (by assumption) (by assumption) (by assumption) (by assumption) (by assumption) (by assumption) (by assumption) (by assumption) ).2 (by assumption)

theorem wordsJ90 : True := by
  k_with "eval BoolOp" => (k_here; (with_reducible show wpAny _ _ (eval (PySem.Expr.BoolOp BoolOp.Or [PySem.Expr.Name _ _, PySem.Expr.Constant (PySem.Const.str (Str.ofString "moveable")) _ _] _) _) _ _ _); (fail_if_success (with_reducible show wpAny _ _ _ (fun v _ => Said v ∧ _) _ _)); (with_reducible rename WayMN _ => hwX); (refine joinSaid ?_ (fun t9 tk9 => ?_)); cases hwX)
  k_with "Said" => exact Said.said _
  k_with "call ref" => (k_here; (with_reducible show wpAny _ _ (call (Value.ref 72) [Value.int _ _]) _ _ _); (refine' c_leap_a _ _ _ _ _ _ _ _ _ _ _ _ _ _ _ _ _ _ _ _ ?k1 ?k2 ?k3 ?k4 ?k5 ?k6 ?k7 ?k8 ?k9 ?_; (case k7 => trivial); walk_at "mine prem"); walk_at "mine retV")
  trivial

theorem c_valid_s (news : List (Addr × Obj)) (n y m d : Int) (ty tm td : Tok) (tn : Tok) :
    Cl w p loose mean mg mb 65 2 news (ArmD true n y m d) [Value.int y ty, Value.int m tm, Value.int d td, Value.str (Str.ofString "sarkawag") tn] (RetV news (fun _ => Value.bool true)) := by
  dsimp only [Cl]
  w_top off
  k_fill
  intros
  rename_i hpre _ _ hret
  rw [armD_s] at hpre
  obtain ⟨p1, p2, p3, p4, p5, p6⟩ := hpre
  clear p6
  have p7 : m ≠ 13 ∧ d ≤ 30 ∨ m = 13 ∧ y % 4 = 0 ∧ d ≤ 6 ∨ m = 13 ∧ y % 4 ≠ 0 ∧ d ≤ 5 := by split at p5 <;> (try split at p5) <;> omega
  clear p5
  refine wpAny_call ?_
  k_dflt walk_at "mine enter"
  k_steps
  all_goals (exact retB hret (by assumption) (by assumption) rfl)

theorem c_valid_x (news : List (Addr × Obj)) (n y m d : Int) (ty tm td : Tok) (nm : Value) (hw : WayMN nm) :
    Cl w p loose mean mg mb 65 2 news (ArmD false n y m d) [Value.int y ty, Value.int m tm, Value.int d td, nm] (RetV news (fun _ => Value.bool true)) := by
  dsimp only [Cl]
  w_top off
  k_fill
  intros
  rename_i hpre _ _ hret
  rw [armD_m] at hpre
  obtain ⟨p1, p2, p3, p4, p5, p6⟩ := hpre
  clear p6
  have p7 : m ≠ 13 ∧ d ≤ 30 ∨ m = 13 ∧ d ≤ 5 := by split at p5 <;> (try split at p5) <;> omega
  clear p5
  refine wpAny_call ?_
  k_dflt walk_at "mine enter"
  k_steps
  all_goals (exact retB hret (by assumption) (by assumption) rfl)

theorem wordsJ100 : True := by
  k_with "call ref" => (k_here; (with_reducible show wpAny _ _ (call (Value.ref 21) [Value.int _ _, Value.int _ _]) _ _ _); (refine' c_trunc _ _ _ _ _ _ _ _ _ _ _ _ _ _ _ _ _ _ _ _ _ _ ?k1 ?k2 ?k3 ?k4 ?k5 ?k6 ?k7 ?k8 ?k9 ?_; (case k7 => first | omega | (simp only [fm365]; omega)); walk_at "mine prem"); walk_at "mine retV")
  k_with "call ref" => (k_here; (with_reducible show wpAny _ _ (call (Value.ref 65) [Value.int _ _, Value.int _ _, Value.int _ _, Value.str (Str.ofString "sarkawag") _]) _ _ _); (refine' c_valid_s _ _ _ _ _ _ _ _ _ _ _ _ _ _ _ _ _ _ _ _ _ _ _ _ _ _ ?k1 ?k2 ?k3 ?k4 ?k5 ?k6 ?k7 ?k8 ?k9 ?_; (case k7 => assumption); walk_at "mine prem"); walk_at "mine retV")
  k_with "call ref" => (k_here; (with_reducible show wpAny _ _ (call (Value.ref 65) [Value.int _ _, Value.int _ _, Value.int _ _, _]) _ _ _); (refine' c_valid_x _ _ _ _ _ _ _ _ _ ?hw _ _ _ _ _ _ _ _ _ _ _ _ _ _ _ _ _ ?k1 ?k2 ?k3 ?k4 ?k5 ?k6 ?k7 ?k8 ?k9 ?_; (case hw => with_reducible assumption); (case k7 => assumption); walk_at "mine prem"); walk_at "mine retV")
  trivial
theorem tj_s {n y m d : Int} (h : ArmD true n y m d) : 533 ≤ y ∧ 2117211 + 365 * (y - 533) + (y - 533) / 4 + ((m - 1) * 30 + d) = n := by
  rw [armD_s] at h
  obtain ⟨h1, h2, h3, h4, h5, h6⟩ := h
  clear h5
  refine ⟨h1, ?_⟩
  obtain ⟨r, hr⟩ : ∃ r : Int, r = (y - 533) / 4 := ⟨_, rfl⟩
  obtain ⟨q, hq⟩ : ∃ r : Int, r = (y - 533) % 4 := ⟨_, rfl⟩
  rw [← hr, ← hq] at h6
  rw [← hr]
  omega
theorem tj_m {n y m d : Int} (h : ArmD false n y m d) : 1922502 + 365 * y + ((m - 1) * 30 + d) = n := by
  rw [armD_m] at h
  obtain ⟨h1, h2, h3, h4, h5, h6⟩ := h
  omega

theorem c_to_jd_s (news : List (Addr × Obj)) (n y m d : Int) (ty tm td : Tok) (tn : Tok) :
    Cl w p loose mean mg mb 80 3 news (ArmD true n y m d) [Value.int y ty, Value.int m tm, Value.int d td, Value.str (Str.ofString "sarkawag") tn] (RetV news (fun t => Value.int n t)) := by
  dsimp only [Cl]
  w_top off
  k_fill
  intros
  rename_i hpre _ _ hret
  have hz := tj_s hpre
  refine wpAny_call ?_
  k_dflt walk_at "mine enter"
  k_steps
  all_goals (exact retI hret (by assumption) (by assumption) hz.2)

theorem c_to_jd_x (news : List (Addr × Obj)) (n y m d : Int) (ty tm td : Tok) (nm : Value) (hw : WayMN nm) :
    Cl w p loose mean mg mb 80 3 news (ArmD false n y m d) [Value.int y ty, Value.int m tm, Value.int d td, nm] (RetV news (fun t => Value.int n t)) := by
  dsimp only [Cl]
  w_top off
  k_fill
  intros
  rename_i hpre _ _ hret
  have hz := tj_m hpre
  refine wpAny_call ?_
  k_dflt walk_at "mine enter"
  k_steps
  all_goals (exact retI hret (by assumption) (by assumption) hz)

theorem wordsJ110 : True := by
  k_with "call ref" => (k_here; (with_reducible show wpAny _ _ (call (Value.ref 80) [Value.int _ _, Value.int _ _, Value.int _ _, Value.str (Str.ofString "sarkawag") _]) _ _ _); (refine' c_to_jd_s _ _ _ _ _ _ _ _ _ _ _ _ _ _ _ _ _ _ _ _ _ _ _ _ _ _ ?k1 ?k2 ?k3 ?k4 ?k5 ?k6 ?k7 ?k8 ?k9 ?_; (case k7 => assumption); walk_at "mine prem"); walk_at "mine retV")
  k_with "call ref" => (k_here; (with_reducible show wpAny _ _ (call (Value.ref 80) [Value.int _ _, Value.int _ _, Value.int _ _, _]) _ _ _); (refine' c_to_jd_x _ _ _ _ _ _ _ _ _ ?hw _ _ _ _ _ _ _ _ _ _ _ _ _ _ _ _ _ ?k1 ?k2 ?k3 ?k4 ?k5 ?k6 ?k7 ?k8 ?k9 ?_; (case hw => with_reducible assumption); (case k7 => assumption); walk_at "mine prem"); walk_at "mine retV")
  k_with "call ref" => (k_here; (with_reducible show wpAny _ _ (call (Value.ref 50) [Value.int _ _]) _ _ _); (refine' c_from_jd_j _ _ _ _ _ _ _ _ _ _ _ _ _ _ _ _ _ _ _ _ _ _ _ ?k1 ?k2 ?k3 ?k4 ?k5 ?k6 ?k7 ?k8 ?k9 ?_; (case k7 => assumption); walk_at "mine prem"); walk_at "mine retT")
  k_with "call ref" => (k_here; (with_reducible show wpAny _ _ (call (Value.ref 88) [Value.int _ _, Value.str (Str.ofString "sarkawag") _]) _ _ _); (refine' c_from_jd_s _ _ _ _ _ _ _ _ _ _ _ _ _ _ _ _ _ _ _ _ _ _ _ _ ?k1 ?k2 ?k3 ?k4 ?k5 ?k6 ?k7 ?k8 ?k9 ?_; (case k7 => assumption); walk_at "mine prem"); walk_at "mine retT")
  k_with "call ref" => (k_here; (with_reducible show wpAny _ _ (call (Value.ref 88) [Value.int _ _, _]) _ _ _); (refine' c_from_jd_x _ _ _ _ _ _ _ ?hw _ _ _ _ _ _ _ _ _ _ _ _ _ _ _ _ _ ?k1 ?k2 ?k3 ?k4 ?k5 ?k6 ?k7 ?k8 ?k9 ?_; (case hw => with_reducible assumption); (case k7 => assumption); walk_at "mine prem"); walk_at "mine retT")
  k_with "call ref" => (k_here; (with_reducible show wpAny _ _ (call (Value.ref 57) [Value.int _ _, Value.int _ _, Value.int _ _]) _ _ _); (refine' c_to_jd_j _ _ _ _ _ _ _ _ _ _ _ _ _ _ _ _ _ _ _ _ _ _ _ _ _ ?k1 ?k2 ?k3 ?k4 ?k5 ?k6 ?k7 ?k8 ?k9 ?_; (case k7 => assumption); walk_at "mine prem"); walk_at "mine retV")
  trivial

theorem c_to_jul_s (news : List (Addr × Obj)) (n y m d Y M D : Int) (ty tm td : Tok) (tn : Tok) :
    Cl w p loose mean mg mb 96 4 news (ArmD true n y m d ∧ JulD n Y M D) [Value.int y ty, Value.int m tm, Value.int d td, Value.str (Str.ofString "sarkawag") tn] (RetT news Y M D) := by
  dsimp only [Cl]
  w_top off
  k_fill
  intros
  rename_i hpre _ _ hret
  obtain ⟨hp1, hp2⟩ := hpre
  refine wpAny_call ?_
  k_dflt walk_at "mine enter"
  k_steps
  all_goals (exact hret _ _ _ _ _ _ _ (by assumption) (by assumption) (by assumption))
theorem c_from_jul_s (news : List (Addr × Obj)) (n y m d Y M D : Int) (ty tm td : Tok) (tn : Tok) :
    Cl w p loose mean mg mb 104 5 news (ArmD true n y m d ∧ JulD n Y M D) [Value.int Y ty, Value.int M tm, Value.int D td, Value.str (Str.ofString "sarkawag") tn] (RetT news y m d) := by
  dsimp only [Cl]
  w_top off
  k_fill
  intros
  rename_i hpre _ _ hret
  obtain ⟨hp1, hp2⟩ := hpre
  refine wpAny_call ?_
  k_dflt walk_at "mine enter"
  k_steps
  all_goals (exact hret _ _ _ _ _ _ _ (by assumption) (by assumption) (by assumption))

theorem c_to_jul_x (news : List (Addr × Obj)) (n y m d Y M D : Int) (ty tm td : Tok) (nm : Value) (hw : WayMN nm) :
    Cl w p loose mean mg mb 96 4 news (ArmD false n y m d ∧ JulD n Y M D) [Value.int y ty, Value.int m tm, Value.int d td, nm] (RetT news Y M D) := by
  dsimp only [Cl]
  w_top off
  k_fill
  intros
  rename_i hpre _ _ hret
  obtain ⟨hp1, hp2⟩ := hpre
  refine wpAny_call ?_
  k_dflt walk_at "mine enter"
  k_steps
  all_goals (exact hret _ _ _ _ _ _ _ (by assumption) (by assumption) (by assumption))
theorem c_from_jul_x (news : List (Addr × Obj)) (n y m d Y M D : Int) (ty tm td : Tok) (nm : Value) (hw : WayMN nm) :
    Cl w p loose mean mg mb 104 5 news (ArmD false n y m d ∧ JulD n Y M D) [Value.int Y ty, Value.int M tm, Value.int D td, nm] (RetT news y m d) := by
  dsimp only [Cl]
  w_top off
  k_fill
  intros
  rename_i hpre _ _ hret
  obtain ⟨hp1, hp2⟩ := hpre
  refine wpAny_call ?_
  k_dflt walk_at "mine enter"
  k_steps
  all_goals (exact hret _ _ _ _ _ _ _ (by assumption) (by assumption) (by assumption))

section
variable {prog : PySem.Program} {K : Frag} {A A₀ : Around} {base h₀ : Heap} {env : Env} {L : Addr} {m : Str → Option Value} {news : List (Addr × Obj)} {s : Shared}
  {R : Result → Shared → Prop} {name qual : Str} {params : Arguments} {body : List Stmt} {scope : Scope} {dV kV doc pm cdv ct oc : Value} {an od : Option Addr} {osl : Array (Option Value)} {f : Addr} {args : Args} {binds : List (Str × Value)}
theorem code_defSX (B : Below A₀ base [] h₀) (F : Fr h₀ L s.heap m) (X₀ : K.In h₀) (N : News h₀ L s.heap news) (T : Top p loose mean mg mb h₀) (hA : A.frames = some [env]) (hef : env.frame = some L)
    (ho : K.lookup f = some ⟨oc, od, .func (fnOf name qual params body scope dV kV doc pm an cdv ct), osl⟩) (hcd : codeIn K cdv qual = true) (hroom : A.depth < recursionLimit)
    (hbind : BindsTo s (fnOf name qual params body scope dV kV doc pm an cdv ct) args binds) (hloc : ∀ y ∈ binds, scope.names.lookup y.1 = some .local)
    (h : ∀ g L' h₁, Fr h₀ L g m → Fr g L' h₁ (fun y => binds.reverse.lookup y) → News g L' h₁ news → Below A base [env] g → K.In g → Top p loose mean mg mb g → KtsDicts ([env].filterMap (·.frame)) g →
      wpAny (model prog w) (A.deeper (envOf qual scope L' f cdv)) (execs body (envOf qual scope L' f cdv))
        (fun fl s' => LeaveS0 ([env].filterMap (·.frame)) h₀ L m g R (match fl with | .ret v => v | _ => .none) s')
        (fun e s' => wpAny (model prog w) (A.deeper (envOf qual scope L' f cdv)) (leaving (envOf qual scope L' f cdv) e) (fun _ s'' => R (.error e) s'') (fun e' s'' => R (.error e') s'') s')
        { s with heap := h₁, toks := s.toks + binds.length })
    (hek : env.scope.kind = .function) (hco : scope.isCoroutine = false) (hgen : scope.isGenerator = false) (hk : scope.kind = .function)
    (hcell : ∀ x ∈ scope.names, x.2 ≠ .cell) : codeAny (model prog w) A (.call (.ref f) args) R s := by
  have X := X₀.keeps F.keep
  have hfm : [env].filterMap (·.frame) = [L] := by simp [hef]
  have offNews : ∀ b o, h₀.get? b = some o → b ∉ news.map (·.1) := fun b o e q => by
    obtain ⟨x, hx, rfl⟩ := List.mem_map.mp q
    exact absurd (e.symm.trans (N x hx).2.2) (by simp)
  have st : h₀.StaysIn (hideAll s.heap (news.map (·.1))) := fun b o e => hideAll_get _ (F.keep b o e) (offNews b o e)
  have nL : L ∉ news.map (·.1) := fun q => by
    obtain ⟨x, hx, e⟩ := List.mem_map.mp q
    exact (N x hx).2.1 e
  have nsL := F.ns
  obtain ⟨oL, es, ep, hL, hLd, hLk, hLf⟩ := nsL
  have hLg := hideAll_get (news.map (·.1)) hL nL
  have B₁ := pushX B F hef hek
  have fr : (hideAll s.heap (news.map (·.1))).FunFrames base [env] := funFrames_hideAll B₁.frames fun e he b hb hf => by
    have hq : e = env := by simpa using he
    subst hq
    rw [hef] at hf
    exact nL ((Option.some.inj hf) ▸ hb)
  have B₂ : Below A base [env] (hideAll s.heap (news.map (·.1))) := ⟨hA, fun b o e => st b o (B.stays b o e), fr⟩
  refine codeAny_call_def (fd := fnOf name qual params body scope dV kV doc pm an cdv ct) (body := body) (binds := binds) hroom (X _ _ ho) rfl (T.nolimit.keeps F.keep) (codeRec_of X hcd) rfl hbind hcell hloc (fun h₁ hns hk₁ => ?_) hco hgen hk
  refine wpAny_mono (h _ s.heap.objs.size h₁ ⟨⟨oL, es, ep, hLg, hLd, hLk, hLf⟩, st, F.above⟩ ⟨hns, fun b o e => hk₁ b o (of_hideAll _ e), Nat.le_of_eq (hideAll_size _ _)⟩
    (fun x hx => ⟨hk₁ _ _ (N x hx).1, Nat.ne_of_lt (Heap.lt_size (N x hx).1), hideAll_none _ (List.mem_map_of_mem hx)⟩) B₂ (X₀.keeps st) (T.keeps st) (fun b hb => by
      rw [hfm] at hb
      have hq : b = L := by simpa using hb
      subst hq
      exact ⟨oL, es, ep, hLg, hLd⟩)) (fun fl s' hl => ?_) fun _ _ y => y
  obtain ⟨g', L', m', news', T', F', N', k⟩ := hl
  have nL₀ : h₀.get? L = none := kts_self F
  obtain ⟨sl, hs⟩ := T'.up hLg
  have other : ∀ b o, h₀.get? b = some o → g'.get? b = some o := fun b o e => T'.other b o (st b o e) fun q => by
    rw [hfm] at q
    have hq : b = L := by simpa using q
    rw [hq, nL₀] at e
    cases e
  refine k ⟨⟨_, es, ep, F'.keep _ _ hs, hLd, hLk, hLf⟩, fun b o e => F'.keep b o (other b o e), F.above⟩ fun x hx => ⟨(N' x hx).1, fun q => ?_, ?_⟩
  · have := (N' x hx).2.2
    rw [q, hs] at this
    cases this
  · cases q : h₀.get? x.1 with
    | none => rfl
    | some o =>
      have := (N' x hx).2.2
      rw [other _ _ q] at this
      cases this
end
abbrev ClT (w : World) (p : PySem.Program) (loose : List Str) (mean : ExcName → Option Value) (mg mb : Str → Option Value) (f : Addr) (lv : Nat) (news : List (Addr × Obj)) (pre : Prop) (vs : List Value)
    (R : Heap → Addr → (Str → Option Value) → Shared → (Value → Shared → Prop) → (Value → Shared → Prop) → Prop) : Prop :=
  ∀ (dp un : Nat) (gd : Option (List Code)) (cn : Str) (cs : Scope) (a : Addr) (ccd : Value) (cl : List (Str × Addr)) (A₀ : Around) (base h₀ : Heap) (L : Addr) (m : Str → Option Value) (s : Shared) (Q E : Value → Shared → Prop),
    Below A₀ base [] h₀ → Fr h₀ L s.heap m → (hd.heap_39 w.params).In h₀ → News h₀ L s.heap news → Top p loose mean mg mb h₀ → cs.kind = .function → (hd.heap_39 w.params).In base → Top p loose mean mg mb base → pre → dp + lv < recursionLimit → un + 8 * lv < cLine → R h₀ L m s Q E →
      wpAny (model PySem.Challenge.rw_jb0009_01.row.prog w) (ktrTop dp un gd cn cs L a ccd cl []) (call (.ref f) vs) Q E s
theorem retS {h₀ h' : Heap} {L : Addr} {m : Str → Option Value} {news : List (Addr × Obj)} {s : Shared} {Q E : Value → Shared → Prop} {t : Tok} {tk' : Nat} {x : Str} (hret : RetV news (fun t => .str x t) h₀ L m s Q E) (F : Fr h₀ L h' m) (N : News h₀ L h' news) : Q (.str x t) { s with heap := h', toks := tk' } := hret t h' tk' F N

theorem wordsJ130 : True := by
  k_with "call ref" => (k_here; (with_reducible show wpAny _ _ (call (Value.ref 80) [Value.int _ _, Value.int _ _, Value.int _ _, Value.str (Str.ofString "sarkawag") _]) _ _ _); k_dflt (refine' c_to_jd_s _ _ _ _ _ _ _ _ _ _ _ _ _ _ _ _ _ _ _ _ _ _ _ _ _ _ ?k1 ?k2 ?k3 ?k4 ?k5 ?k6 ?k7 ?k8 ?k9 ?_; (case k7 => assumption); walk_at "mine prem"); walk_at "mine retV")
  k_with "call ref" => (k_here; (with_reducible show wpAny _ _ (call (Value.ref 80) [Value.int _ _, Value.int _ _, Value.int _ _, _]) _ _ _); k_dflt (refine' c_to_jd_x _ _ _ _ _ _ _ _ _ ?hw _ _ _ _ _ _ _ _ _ _ _ _ _ _ _ _ _ ?k1 ?k2 ?k3 ?k4 ?k5 ?k6 ?k7 ?k8 ?k9 ?_; (case hw => with_reducible assumption); (case k7 => assumption); walk_at "mine prem"); walk_at "mine retV")
  trivial
local macro_rules | `(tactic| k_room) => `(tactic| first | ((try simp only [depth_mark, depth_under_make, depth_under_kw, depth_in1, depth_deeper, depth_caller]); (try dsimp only [ktrTop]); omega) | ktr_room)
theorem wordsJ135 : True := by
  k_with "mine enterS" => (refine' code_defSX ?k1 ?k2 ?k3 ?k4 ?k5 ?kA ?kF ?k6 ?k7 ?k8 ?k9 ?kB ?_ ?cK ?c2 ?c3 ?c4 ?c5; (case kA => exact rfl); (case kF => exact rfl); (case k2 => k_asm); (case k1 => k_asm); (case k3 => k_asm); (case k4 => k_asm); (case k5 => k_asm); (case k6 => k_is); (case k7 => k_is); (case k8 => k_room); (case k9 => first | exact BindsTo.of_eq rfl | exact binds_K (by k_in) rfl (by k_is) rfl rfl rfl); (case kB => exact locs rfl); (case cK => assumption); (case c2 => exact rfl); (case c3 => exact rfl); (case c4 => exact rfl); (case c5 => decide); k_whole; intro g' L' h' FG' F' N' B' X' T' D'; (try dsimp only); (try k_lift B'); (try k_fold))
  trivial

theorem c_asked0_s (news : List (Addr × Obj)) (n : Int) (tk ty tm td : Tok) (tn : Tok) :
    ClT w p loose mean mg mb 140 5 news (n < 2117211) [Value.int 0 tk, Value.int n ty, Value.int 0 tm, Value.int 0 td, Value.str (Str.ofString "sarkawag") tn] (RetV news (fun t => Value.str (Str.ofString "refused") t)) := by
  dsimp only [ClT]
  w_top off
  k_fill
  intros
  rename_i hpre _ _ hret
  refine wpAny_call ?_
  k_dflt walk_at "mine enterS"
  k_steps
  all_goals exact retS hret (by assumption) (by assumption)
theorem c_asked1_s (news : List (Addr × Obj)) (n y m d : Int) (tk ty tm td : Tok) (tn : Tok) :
    ClT w p loose mean mg mb 140 5 news (ArmD true n y m d) [Value.int 1 tk, Value.int y ty, Value.int m tm, Value.int d td, Value.str (Str.ofString "sarkawag") tn] (RetV news (fun t => Value.int n t)) := by
  dsimp only [ClT]
  w_top off
  k_fill
  intros
  rename_i hpre _ _ hret
  refine wpAny_call ?_
  k_dflt walk_at "mine enterS"
  k_steps
  all_goals exact retI hret (by assumption) (by assumption) rfl

theorem c_asked0_x (news : List (Addr × Obj)) (n : Int) (tk ty tm td : Tok) (nm : Value) (hw : WayMN nm) :
    ClT w p loose mean mg mb 140 5 news (n < 1922502) [Value.int 0 tk, Value.int n ty, Value.int 0 tm, Value.int 0 td, nm] (RetV news (fun t => Value.str (Str.ofString "refused") t)) := by
  dsimp only [ClT]
  w_top off
  k_fill
  intros
  rename_i hpre _ _ hret
  refine wpAny_call ?_
  k_dflt walk_at "mine enterS"
  k_steps
  all_goals exact retS hret (by assumption) (by assumption)
theorem c_asked1_x (news : List (Addr × Obj)) (n y m d : Int) (tk ty tm td : Tok) (nm : Value) (hw : WayMN nm) :
    ClT w p loose mean mg mb 140 5 news (ArmD false n y m d) [Value.int 1 tk, Value.int y ty, Value.int m tm, Value.int d td, nm] (RetV news (fun t => Value.int n t)) := by
  dsimp only [ClT]
  w_top off
  k_fill
  intros
  rename_i hpre _ _ hret
  refine wpAny_call ?_
  k_dflt walk_at "mine enterS"
  k_steps
  all_goals exact retI hret (by assumption) (by assumption) rfl

section
variable {M : Model} {A : Around} {E : Value → Shared → Prop} {s : Shared}
theorem upd_get {h : Heap} {x b : Addr} {f : Obj → Obj} (hb : b ≠ x) : (h.update x f).get? b = h.get? b := Heap.get?_update_other _ _ (Ne.symm hb)
theorem upd_self {h : Heap} {x : Addr} {o : Obj} {vs : Array Value} {f : Array Value → Array Value} (ho : h.get? x = some o) (hd : o.data = .fields vs) : (h.update x (Obj.mapFields f)).get? x = some (Obj.mapFields f o) :=
  Heap.get?_update_self _ ho (Obj.isFreed_of_fields (Obj.data_mapFields hd _))
/-- what the frames' heap bears, the frames themselves aside -/
structure Gd (B : Heap) (l : List Env) (h : Heap) : Prop where
  st : B.StaysIn h
  fr : h.FunFrames B l
theorem gd_upd {B : Heap} {l : List Env} {h : Heap} {x : Addr} {o : Obj} {vs : Array Value} {f : Obj → Obj} (G : Gd B l h) (ho : h.get? x = some o) (hd : o.data = .fields vs) (hx : B.get? x = none) : Gd B l (h.update x f) :=
  ⟨fun b ob hb => (upd_get fun q => by rw [q, hx] at hb; cases hb).trans (G.st b ob hb), G.fr.of_keeps fun b ob hb hnf => ⟨ob, (upd_get fun q => by rw [q, ho] at hb; cases hb; exact hnf vs hd).trans hb, rfl⟩⟩
theorem uts_rec {h h' : Heap} {x : Addr} {o : Obj} {vs : Array Value} {f : Obj → Obj} (U : h.UpToSlots h') (ho : h'.get? x = some o) (hd : o.data = .fields vs) : h.UpToSlots (h'.update x f) := fun b ob hb hnf => by
  obtain ⟨sl, hs⟩ := U b ob hb hnf
  refine ⟨sl, (upd_get fun q => ?_).trans hs⟩
  rw [q, ho] at hs
  cases hs
  exact hnf vs hd
theorem noteFresh {B : Heap} {env : Env} {outer : List Env} {L e : Addr} {oe : Obj} {vs : Array Value} {Q : Unit → Shared → Prop}
    (hfr : A.frames = some (env :: outer)) (G : Gd B (env :: outer) s.heap) (hf : env.frame = some L) (he : s.heap.get? e = some oe) (hd : oe.data = .fields vs) (h1 : vs[1]? = some .none) (hen : B.get? e = none)
    (h : ∀ h' T oT ts, Gd B (env :: outer) h' → s.heap.UpToSlots h' → h'.get? e = some (Obj.mapFields (·.setIfInBounds 1 (.ref T)) oe) → h'.get? T = some oT → oT.data = .fields ts → ts[3]? = some (rawInt L) → T ≠ e → B.get? T = none → Q () { s with heap := h' }) :
    wpAny M A (noteFrame (.ref e) env) Q E s := by
  have hene : e ∉ (env :: outer).filterMap (·.frame) := fun hm => by
    obtain ⟨_, o, ho, hnf⟩ := G.fr.mem hm
    rw [he] at ho
    cases ho
    exact hnf vs hd
  unfold noteFrame
  simp only [hf]
  refine wpAny_bind (wpAny_field he hd h1 ?_)
  rw [if_neg (by decide)]
  refine wpAny_bind (wpAny_frameOf_fun hfr G.fr hf fun h₁ hs₁ => ?_)
  refine wpAny_bind (wpAny_entryPlaceOf fun pl hpl => ?_)
  unfold EntryCells.newEntry newFields
  refine wpAny_bind (wpAny_newObj_type ?_ (hpl.sizeOk5 _ _ _ _ _))
  have he₁ : h₁.get? e = some oe := (hs₁.2.1 e hene).trans he
  have st₁ : B.StaysIn h₁ := fun b o hb => (hs₁.2.1 b fun hm => by rw [(G.fr.mem hm).1] at hb; cases hb).trans (G.st b o hb)
  have hT : h₁.objs.size ≠ e := Nat.ne_of_gt (Heap.lt_size he₁)
  refine wpAny_setField (Heap.get?_push_of_some _ he₁) hd (Array.getElem?_eq_some_iff.mp h1).1 ?_
  have G₂ : Gd B (env :: outer) h₁ := ⟨st₁, G.fr.of_keeps fun b o hb _ => by
    obtain ⟨sl, q⟩ := hs₁.2.2 b o hb
    exact ⟨_, q, rfl⟩⟩
  have U₂ : s.heap.UpToSlots h₁ := fun b o hb _ => hs₁.2.2 b o hb
  refine h _ h₁.objs.size _ _ (gd_upd (o := oe) (vs := vs) ⟨fun b o hb => Heap.get?_push_of_some _ (G₂.st b o hb), G₂.fr.of_keeps fun b o hb _ => ⟨o, Heap.get?_push_of_some _ hb, rfl⟩⟩ (Heap.get?_push_of_some _ he₁) hd hen)
    (uts_rec (o := oe) (vs := vs) (fun b o hb hn => let ⟨sl, q⟩ := U₂ b o hb hn; ⟨sl, Heap.get?_push_of_some _ q⟩) (Heap.get?_push_of_some _ he₁) hd)
    (upd_self (Heap.get?_push_of_some _ he₁) hd) ((upd_get hT).trans (Heap.get?_push_size h₁ rfl)) rfl (by simp) hT ?_
  cases q : B.get? h₁.objs.size with
  | none => rfl
  | some o => exact absurd (Heap.lt_size (st₁ _ _ q)) (Nat.lt_irrefl _)
theorem setFl {e T : Addr} {oe oT : Obj} {vs ts : Array Value} {fl : Option Addr} {Q : Unit → Shared → Prop} (he : s.heap.get? e = some oe) (hd : oe.data = .fields vs) (h1 : vs[1]? = some (.ref T)) (hT : s.heap.get? T = some oT) (hdT : oT.data = .fields ts) (h3 : 3 < ts.size)
    (h : Q () { s with heap := s.heap.update T (Obj.mapFields (·.setIfInBounds 3 (fl.elim Value.none fun f => rawInt f))) }) : wpAny M A (setFlight (.ref e) fl) Q E s := by
  unfold setFlight
  refine wpAny_bind (wpAny_field he hd h1 ?_)
  rw [if_pos (show (Value.ref T != Value.none) = true from by simp)]
  exact wpAny_setField hT hdT h3 h
end

section
variable {prog : PySem.Program} {w : World} {A₀ : Around} {E : Value → Shared → Prop} {s' : Shared} {base g h : Heap} {outer : List Env} {L a e : Addr} {m : Str → Option Value} {name : Str} {scope : Scope} {cd : Value}
  {n : Str} {b₀ : Stmt} {suite : List Stmt} {pos np : Pos} {rest : List ExceptHandler} {Q : Flow → Shared → Prop} {news : List (Addr × Obj)} {KF : Frag}
  {p : PySem.Program} {loose : List Str} {mean : ExcName → Option Value} {mg mb : Str → Option Value} {x : Str} {X T' : String}
/-- a frame's own raise, caught by the frame's own clause that binds a name -/
theorem caughtOwn (hx : Heap.NewExc h s'.heap e X) (F : Fr g L h m) (N : News g L h news) (K : Below A₀ base outer g) (XB : KF.In base) (TB : Top p loose mean mg mb base)
    (D : KtsDicts (outer.filterMap (·.frame)) g)
    (ex : nsIn KF mainGlobals x = some none) (hv : bootBuiltins x = some (.type T')) (hn' : x ≠ "__name__")
    (hexc : isSubtype (.type T') (.type "BaseException") = pure true) (hnt : isSubtype (.type ((Manifest.find? T').elim "type" fun y => y.metatype)) (.type "tuple") = pure false) (hsub : isSubtype (.type X) (.type T') = pure true)
    (k : ∀ h' g' tk, KtsTurn (outer.filterMap (·.frame)) g g' → Fr g' L h' (fun y => if y = n then some (.ref e) else m y) → News g' L h' news → Below A₀ base outer g' → KF.In g' → Top p loose mean mg mb g' → KtsDicts (outer.filterMap (·.frame)) g' →
      (∃ ob vs, h'.get? e = some ob ∧ ob.cls = .type X ∧ ob.data = .fields vs ∧ vs[2]? = some .none) →
      wpAny (model prog w) ((A₀.deeper (envOf name scope L a cd)).mark (some (.ref e))) (execs (b₀ :: suite) (envOf name scope L a cd))
        (fun f s₄ => wpAny (model prog w) (A₀.deeper (envOf name scope L a cd)) (do bindName (envOf name scope L a cd) n .none; unbindBehindTheSuite (envOf name scope L a cd) n pos) (fun _ s₅ => Q f s₅) E s₄)
        (AsSuiteRaised (model prog w) ((A₀.deeper (envOf name scope L a cd)).mark (some (.ref e))) (envOf name scope L a cd) n pos (notedBy (model prog w) ((A₀.deeper (envOf name scope L a cd)).mark (some (.ref e))) (envOf name scope L a cd) (cameBackBy (model prog w) (A₀.deeper (envOf name scope L a cd)) (envOf name scope L a cd) E)))
        { s' with heap := h', toks := tk })
    (hk : scope.kind = .function := by rfl) (hlo : (envOf name scope L a cd).kindOf n = some .local := by rfl) (hx' : (envOf name scope L a cd).kindOf x = some .globalImplicit := by rfl) (hd' : (x == ("__debug__" : Str)) = false := by decide) :
    wpAny (model prog w) (A₀.deeper (envOf name scope L a cd)) (noteFrame (.ref e) (envOf name scope L a cd))
      (fun _ s₂ => wpAny (model prog w) (A₀.deeper (envOf name scope L a cd)) (setFlight (.ref e) none) (fun _ s₃ =>
        wpAny (model prog w) (A₀.deeper (envOf name scope L a cd)) (handleBy (.ref e) (envOf name scope L a cd) (.ExceptHandler (some (.Name x np)) (some n) (b₀ :: suite) pos :: rest)) Q E s₃) E s₂) E s' := by
  have K' := K.push (name := name) (a := a) (cd := cd) F hk
  obtain ⟨frs, hfrs⟩ : ∃ frs, frs = (envOf name scope L a cd :: outer).filterMap (·.frame) := ⟨_, rfl⟩
  obtain ⟨B, hB⟩ : ∃ B, B = hideAll h frs := ⟨_, rfl⟩
  obtain ⟨hg, hhg⟩ : ∃ hg, hg = hideAll h (news.map (·.1)) := ⟨_, rfl⟩
  have hin : ∀ env ∈ (envOf name scope L a cd :: outer), ∀ b, env.frame = some b → b ∈ frs := fun env he b hb => by rw [hfrs]; exact List.mem_filterMap.mpr ⟨env, he, hb⟩
  have hLf : L ∈ frs := hin _ (.head _) L rfl
  -- the ground with the frame, what the call has made hidden
  have off : ∀ b o, g.get? b = some o → b ∉ news.map (·.1) := fun b o q z => by
    obtain ⟨y, hy, rfl⟩ := List.mem_map.mp z
    exact absurd (q.symm.trans (N y hy).2.2) (by simp)
  have nL : L ∉ news.map (·.1) := fun z => by
    obtain ⟨y, hy, q⟩ := List.mem_map.mp z
    exact (N y hy).2.1 q
  have nsL := F.ns
  obtain ⟨oL, es, ep, hL, hLd, hLk, hLfn⟩ := nsL
  have Fg : Fr g L hg m := by
    subst hhg
    exact ⟨⟨oL, es, ep, hideAll_get _ hL nL, hLd, hLk, hLfn⟩, fun b o q => hideAll_get _ (F.keep b o q) (off b o q), F.above⟩
  have hgB : ∀ b o, hg.get? b = some o → b ∉ (envOf name scope L a cd :: outer).filterMap (·.frame) → B.get? b = some o := fun b o q z => by
    subst hhg hB
    exact hideAll_get _ (of_hideAll _ q) (by rw [hfrs]; exact z)
  have hgU : hg.UpToSlots s'.heap := fun b o q _ => ⟨o.slots, hx.keeps b o (by subst hhg; exact of_hideAll _ q)⟩
  have nwB : ∀ q ∈ news, B.get? q.1 = some q.2 := fun q hq => by
    subst hB
    refine hideAll_get _ (N q hq).1 fun z => ?_
    rw [hfrs] at z
    obtain ⟨env, he, hf⟩ := List.mem_filterMap.mp z
    rcases List.mem_cons.mp he with rfl | he
    · exact (N q hq).2.1 (Option.some.inj hf).symm
    · obtain ⟨o, ho, _⟩ := (K.frames.mem (List.mem_filterMap.mpr ⟨env, he, hf⟩)).2
      rw [(N q hq).2.2] at ho; cases ho
  have BL : B.get? L = none := by subst hB; exact hideAll_none _ hLf
  have eB : B.get? e = none := by
    cases q : B.get? e with
    | none => rfl
    | some o => subst hB; have := of_hideAll _ q; rw [hx.new] at this; cases this
  have G₀ : Gd B (envOf name scope L a cd :: outer) s'.heap := ⟨fun b o q => by subst hB; exact hx.keeps b o (of_hideAll _ q), by
    subst hB
    exact (funFrames_hide K'.frames hin).of_keeps fun b o hb _ => ⟨o, hx.keeps b o hb, rfl⟩⟩
  obtain ⟨ob, tp, he, hcls, hd⟩ := hx.there
  refine noteFresh K'.stack G₀ rfl he hd rfl eB fun h₁ T oT ts G₁ U₁ he₁ hT₁ hdT h3 hTe hTB => ?_
  have hd₁ := Obj.data_mapFields hd (·.setIfInBounds 1 (Value.ref T))
  have sz3 : 3 < ts.size := (Array.getElem?_eq_some_iff.mp h3).1
  refine setFl (fl := none) he₁ hd₁ (by simp) hT₁ hdT sz3 ?_
  have G₂ := gd_upd (f := Obj.mapFields (·.setIfInBounds 3 ((none : Option Addr).elim Value.none fun f => rawInt f))) G₁ hT₁ hdT hTB
  have U₂ := uts_rec (f := Obj.mapFields (·.setIfInBounds 3 ((none : Option Addr).elim Value.none fun f => rawInt f))) (hgU.trans U₁) hT₁ hdT
  have he₂ := (upd_get (h := h₁) (f := Obj.mapFields (·.setIfInBounds 3 ((none : Option Addr).elim Value.none fun f => rawInt f))) (Ne.symm hTe)).trans he₁
  have hT₂ := upd_self (f := (·.setIfInBounds 3 ((none : Option Addr).elim Value.none fun f => rawInt f))) hT₁ hdT
  have hdT₂ := Obj.data_mapFields hdT (·.setIfInBounds 3 ((none : Option Addr).elim Value.none fun f => rawInt f))
  obtain ⟨g₂, T₂, F₂, K₂⟩ := kts_ground K Fg hgB G₂.st U₂
  have X₂ : KF.In g₂ := XB.keeps K₂.stays
  have P₂ : TopRead p loose mg mb g₂ := topRead_of (TB.keeps K₂.stays)
  refine wpAny_handleBy_builtin_as (X := X) (T := T') (b := true) hexc hnt hsub (name_B F₂ X₂ P₂ ex hv hn' ⟨rfl, ⟨_, he₂, (Obj.cls_mapFields _ _).trans hcls⟩, ?_⟩ hk hx' hd')
  refine setFl (fl := none) he₂ hd₁ (by simp) hT₂ hdT₂ (by simpa using sz3) ?_
  have G₃ := gd_upd (f := Obj.mapFields (·.setIfInBounds 3 ((none : Option Addr).elim Value.none fun f => rawInt f))) G₂ hT₂ hdT₂ hTB
  have U₃ := uts_rec (f := Obj.mapFields (·.setIfInBounds 3 ((none : Option Addr).elim Value.none fun f => rawInt f))) U₂ hT₂ hdT₂
  have he₃ := (upd_get (h := h₁.update T (Obj.mapFields (·.setIfInBounds 3 ((none : Option Addr).elim Value.none fun f => rawInt f)))) (f := Obj.mapFields (·.setIfInBounds 3 ((none : Option Addr).elim Value.none fun f => rawInt f))) (Ne.symm hTe)).trans he₂
  obtain ⟨g₃, T₃, F₃, K₃⟩ := kts_ground K Fg hgB G₃.st U₃
  have N₃ : News g₃ L ((h₁.update T (Obj.mapFields (·.setIfInBounds 3 ((none : Option Addr).elim Value.none fun f => rawInt f)))).update T (Obj.mapFields (·.setIfInBounds 3 ((none : Option Addr).elim Value.none fun f => rawInt f)))) news :=
    fun q hq => ⟨G₃.st _ _ (nwB q hq), (N q hq).2.1, T₃.none_ _ (N q hq).2.2⟩
  have hLe : e ≠ L := fun q => by
    rw [← q, hx.new] at hL
    cases hL
  refine wpAny_storeName_local hlo F₃.ns (fun h₄ hn₄ hs₄ => ?_) (by show (scope.kind == .class || (scope.kind == .module && L != mainGlobals)) = false; rw [hk]; rfl)
  exact k h₄ g₃ _ T₃ (F₃.set hn₄ hs₄) (N₃.set hs₄) K₃ (XB.keeps K₃.stays) (TB.keeps K₃.stays) (D.turn T₃)
    ⟨_, _, (hs₄.2 e hLe).trans he₃, (Obj.cls_mapFields _ _).trans hcls, hd₁, by simp⟩
end

section
variable {prog : PySem.Program} {w : World} {A : Around} {E : Value → Shared → Prop} {s : Shared} {env : Env} {X Y N I : String}
theorem unchain0 {e2 e : Addr} {ob : Obj} {vs : Array Value} {Q : Value → Shared → Prop} (he : s.heap.get? e = some ob) (hd : ob.data = .fields vs) (h2 : vs[2]? = some .none) (h : Q .none s) :
    wpAny (model prog w) A (runValue (.builtin "proto.unchain" ⟨[.ref e2, .ref e, .ref e, .bool false], []⟩)) Q E s := by
  refine runValue_entry (b := Builtin.«proto.unchain») (entryFor_of_tree (by kernel_rfl)) ?_
  unfold Builtin.«proto.unchain»
  refine wpAny_bind (wpAny_field he hd h2 ?_)
  rw [if_pos (by decide)]
  exact wpAny_pure ⟨_, rfl, h⟩
theorem raiseFrom {x2 n : Str} {p1 p2 rp : Pos} {e : Addr} {ob : Obj} {vs : Array Value} {Q : Flow → Shared → Prop}
    (hA : A.handled = some (.ref e)) (hc : ExcClass X N I) (hself : isSubtype (.type X) (.type X) = pure true)
    (he : s.heap.get? e = some ob) (hcls : ob.cls = .type Y) (hd : ob.data = .fields vs) (h2 : vs[2]? = some .none) (hY : isSubtype (.type Y) (.type "BaseException") = pure true)
    (hx : wpAny (model prog w) A (eval (.Name x2 p1) env) (fun v s₁ => v = .type X ∧ s₁ = s) E s)
    (hn : wpAny (model prog w) A (eval (.Name n p2) env) (fun v s₁ => v = .ref e ∧ s₁ = s) E s)
    (h : ∀ h' e2, (∀ b o, s.heap.get? b = some o → h'.get? b = some o) → s.heap.get? e2 = none → (∃ o2 vs2, h'.get? e2 = some o2 ∧ o2.cls = .type X ∧ o2.data = .fields vs2 ∧ vs2[1]? = some .none) → E (.ref e2) { s with heap := h' }) :
    wpAny (model prog w) A (exec (.Raise (some (.Name x2 p1)) (some (.Name n p2)) rp) env) Q E s := by
  show wpAny (model prog w) A (do standAt rp; raiseStmt env (some (do let v ← eval (.Name x2 p1) env; standAt rp; pure v)) (some (do let c ← eval (.Name n p2) env; standAt rp; pure c))) Q E s
  refine wpAny_bind (wpAny_standAt ?_)
  unfold raiseStmt
  dsimp only
  refine wpAny_bind (wpAny_bind (wpAny_mono hx (fun v s₁ h₁ => wpAny_bind (wpAny_standAt (wpAny_pure ?_))) fun _ _ e => e))
  obtain ⟨rfl, hs₁⟩ := h₁
  subst s₁
  refine wpAny_bind (wpAny_holding (wpAny_bind (wpAny_mono hn (fun v s₂ h₂ => wpAny_bind (wpAny_standAt (wpAny_pure ?_))) fun _ _ e => e)))
  obtain ⟨rfl, hs₂⟩ := h₂
  subst s₂
  refine wpAny_bind (wpAny_pure ?_)
  dsimp only
  refine wpAny_bind (wpAny_holding ?_)
  unfold excFromValue isExcClass
  refine wpAny_bind (wpAny_bind (wpAny_pure ?_))
  simp only [if_true]
  rw [hc.base]
  refine wpAny_pure ?_
  simp only [if_true]
  refine wpAny_bind (call_exc hc fun h' e2 hnw => ?_)
  obtain ⟨o2, t, he2, hcls2, hd2⟩ := hnw.there
  have hT : ({ s with heap := h' } : Shared).TypeIs (.ref e2) X := ⟨o2, he2, hcls2⟩
  refine wpAny_bind (wpAny_isInstance hT hc.base ?_)
  simp only [Bool.not_true, Bool.false_eq_true, if_false]
  refine wpAny_pure ?_
  have he' : h'.get? e = some ob := hnw.keeps e ob he
  have hne : e ≠ e2 := fun q => by
    have z := hnw.new
    rw [← q, he] at z
    cases z
  rw [if_neg (by simp)]
  refine wpAny_bind (wpAny_holding ?_)
  have hnt : ∀ {Q' : Bool → Shared → Prop}, Q' false { s with heap := h' } → wpAny (model prog w) A (isType (.ref e)) Q' E { s with heap := h' } := by
    intro Q' hq
    simp only [isType, loadHead]
    refine wpAny_bind (wpAny_loadPart he' ?_)
    rw [hd]
    exact wpAny_pure hq
  have hTe : ({ s with heap := h' } : Shared).TypeIs (.ref e) Y := ⟨ob, he', hcls⟩
  refine wpAny_bind (wpAny_bind (hnt ?_))
  simp only [Bool.false_eq_true, if_false]
  refine wpAny_pure ?_
  simp only [Bool.false_eq_true, if_false]
  refine wpAny_bind (wpAny_isInstance hTe hY ?_)
  simp only [if_true]
  refine wpAny_pure ?_
  refine wpAny_bind (wpAny_setField he2 hd2 (by simp) ?_)
  have he3 := upd_self (f := (·.setIfInBounds 3 (Value.ref e))) he2 hd2
  have hd3 := Obj.data_mapFields hd2 (·.setIfInBounds 3 (Value.ref e))
  refine wpAny_bind (wpAny_setField he3 hd3 (by simp) ?_)
  have he4 := upd_self (f := (·.setIfInBounds 4 (Value.bool true))) he3 hd3
  have hd4 := Obj.data_mapFields hd3 (·.setIfInBounds 4 (Value.bool true))
  have heE : ((h'.update e2 (Obj.mapFields (·.setIfInBounds 3 (Value.ref e)))).update e2 (Obj.mapFields (·.setIfInBounds 4 (Value.bool true)))).get? e = some ob := (upd_get hne).trans ((upd_get hne).trans he')
  refine wpAny_bind (m := isType (.type X)) (wpAny_pure ?_)
  rw [if_pos rfl]
  refine wpAny_bind (wpAny_holding ?_)
  unfold raisedFor
  simp only [Bool.false_eq_true, if_false]
  refine wpAny_bind (wpAny_typeOf (T := X) ⟨_, he4, (Obj.cls_mapFields _ _).trans ((Obj.cls_mapFields _ _).trans hcls2)⟩ ?_)
  refine wpAny_bind (call_issubclass (issubclass_self hc hself) ?_)
  dsimp only [wants]
  refine wpAny_bind (wpAny_truthy_bool ?_)
  rw [if_pos rfl]
  refine wpAny_pure ?_
  unfold setFlight raiseNew
  refine wpAny_bind (wpAny_bind (wpAny_field (i := 1) (x := Value.none) he4 hd4 (by simp) ?_))
  rw [if_neg (by decide)]
  refine wpAny_pure (wpAny_bind (wpAny_handled ?_))
  rw [hA]
  dsimp only
  rw [if_pos (by simp [hne])]
  refine wpAny_bind (wpAny_holding (unchain0 heE hd h2 ?_))
  simp only [updateField]
  refine wpAny_bind (wpAny_bind (wpAny_load he4 ?_))
  rw [hd4]
  dsimp only
  rw [if_pos (by simp)]
  refine wpAny_update he4 ?_
  have hd5 := Obj.data_mapFields hd4 (·.setIfInBounds 2 (Value.ref e))
  refine wpAny_throw (h _ e2 (fun b o hb => ?_) hnw.new ⟨_, _, upd_self he4 hd4, (Obj.cls_mapFields _ _).trans ((Obj.cls_mapFields _ _).trans ((Obj.cls_mapFields _ _).trans hcls2)), hd5, by simp⟩)
  have hb2 : b ≠ e2 := fun q => by
    have z := hnw.new
    rw [← q, hb] at z
    cases z
  exact (upd_get hb2).trans ((upd_get hb2).trans ((upd_get hb2).trans (hnw.keeps b o hb)))
end

def HeldOwn (base g : Heap) (env : Env) (outer : List Env) (L e : Addr) (cls : Value) (news : List (Addr × Obj)) (h : Heap) : Prop :=
  ∃ B a0, base.StaysIn B ∧ (∀ b o, g.get? b = some o → b ∉ outer.filterMap (·.frame) → B.get? b = some o) ∧ (∀ q ∈ news, B.get? q.1 = some q.2 ∧ g.get? q.1 = none ∧ base.get? q.1 = none) ∧ Heap.HeldW B (env :: outer) e cls a0 L h

section
variable {M : Model} {A : Around} {E : Value → Shared → Prop} {s : Shared}
/-- a held exception's flight is set to its own frame once more -/
theorem setFl_held {B : Heap} {l : List Env} {e L : Addr} {cls a0 : Value} {Q : Unit → Shared → Prop} (H : Heap.HeldW B l e cls a0 L s.heap)
    (h : ∀ h', Heap.HeldW B l e cls a0 L h' → s.heap.UpToSlots h' → Q () { s with heap := h' }) : wpAny M A (setFlight (.ref e) (some L)) Q E s := by
  obtain ⟨st, en, fr, oe, vs, T, oT, ts, he, hcls, hd, h1, hnT, hTe, hT, hdT, h3⟩ := H
  have sz : 3 < ts.size := (Array.getElem?_eq_some_iff.mp h3).1
  refine setFl (fl := some L) he hd h1 hT hdT sz (h _ ⟨?_, en, ?_, oe, vs, T, _, _, (upd_get (Ne.symm hTe)).trans he, hcls, hd, h1, hnT, hTe, upd_self hT hdT, Obj.data_mapFields hdT _, by simp [sz]⟩ ?_)
  · exact (gd_upd ⟨st, fr⟩ hT hdT hnT).st
  · exact (gd_upd ⟨st, fr⟩ hT hdT hnT).fr
  · exact uts_rec (Heap.UpToSlots.refl _) hT hdT
theorem tb_of_held {B : Heap} {l : List Env} {e L : Addr} {cls a0 fl : Value} {h : Heap} (H : h.TracedAtW B e cls a0 fl) : ∃ oe vs T, h.get? e = some oe ∧ oe.data = .fields vs ∧ vs[1]? = some (.ref T) :=
  let ⟨oe, vs, T, _, _, he, _, hd, h1, _⟩ := H; let _ := l; let _ := L; ⟨oe, vs, T, he, hd, h1⟩
end

theorem funFrames_but {h h' B : Heap} {L : Addr} (hs : ∀ b, b ≠ L → h'.get? b = h.get? b) : ∀ {l : List Env}, h.FunFrames B l → (∀ env ∈ l, env.frame ≠ some L) → h'.FunFrames B l
  | [], _, _ => trivial
  | env :: r, ⟨hk, ⟨L₁, o, hf, hB, ho, hn⟩, hr⟩, hne => ⟨hk, ⟨L₁, o, hf, hB, (hs L₁ fun q => hne env (.head _) (by rw [hf, q])).trans ho, hn⟩, funFrames_but hs hr fun e he => hne e (.tail _ he)⟩
section
variable {prog : PySem.Program} {w : World} {A₀ : Around} {E : Value → Shared → Prop} {s : Shared} {base g : Heap} {outer : List Env} {L a e : Addr} {m : Str → Option Value} {name : Str} {scope : Scope} {cd : Value}
  {n x2 : Str} {p1 p2 rp pos : Pos} {Q : Flow → Shared → Prop} {news : List (Addr × Obj)} {KF : Frag} {ob : Obj} {vs : Array Value}
  {p : PySem.Program} {loose : List Str} {mg mb : Str → Option Value} {X Y N I : String}
theorem handlerRaises (hc : ExcClass X N I) (hself : isSubtype (.type X) (.type X) = pure true) (hY : isSubtype (.type Y) (.type "BaseException") = pure true)
    (hob : ∃ ob vs, s.heap.get? e = some ob ∧ ob.cls = .type Y ∧ ob.data = .fields vs ∧ vs[2]? = some .none)
    (F : Fr g L s.heap m) (hm : m n = some (.ref e)) (Nw : News g L s.heap news) (K : Below A₀ base outer g) (XB : KF.In g) (P : TopRead p loose mg mb g)
    (ex2 : nsIn KF mainGlobals x2 = some none) (hv2 : bootBuiltins x2 = some (.type X)) (hn2 : x2 ≠ "__name__")
    (hQ : ∀ h' e2 tk, HeldOwn base g (envOf name scope L a cd) outer L e2 (.type X) news h' → g.UpToSlots h' → E (.ref e2) { s with heap := h', toks := tk })
    (hk : scope.kind = .function := by rfl) (hlo : (envOf name scope L a cd).kindOf n = some .local := by rfl) (hx' : (envOf name scope L a cd).kindOf x2 = some .globalImplicit := by rfl) (hd' : (x2 == ("__debug__" : Str)) = false := by decide) (hdn : (n == ("__debug__" : Str)) = false := by decide) :
    wpAny (model prog w) ((A₀.deeper (envOf name scope L a cd)).mark (some (.ref e))) (exec (.Raise (some (.Name x2 p1)) (some (.Name n p2)) rp) (envOf name scope L a cd)) Q
      (AsSuiteRaised (model prog w) ((A₀.deeper (envOf name scope L a cd)).mark (some (.ref e))) (envOf name scope L a cd) n pos (notedBy (model prog w) ((A₀.deeper (envOf name scope L a cd)).mark (some (.ref e))) (envOf name scope L a cd) (cameBackBy (model prog w) (A₀.deeper (envOf name scope L a cd)) (envOf name scope L a cd) E))) s := by
  obtain ⟨ob, vs, he, hcls, hd, h2⟩ := hob
  have K' := K.push (name := name) (a := a) (cd := cd) F hk
  obtain ⟨frs, hfrs⟩ : ∃ frs, frs = (envOf name scope L a cd :: outer).filterMap (·.frame) := ⟨_, rfl⟩
  obtain ⟨B, hB⟩ : ∃ B, B = hideAll s.heap frs := ⟨_, rfl⟩
  have hin : ∀ env ∈ (envOf name scope L a cd :: outer), ∀ b, env.frame = some b → b ∈ frs := fun env he b hb => by rw [hfrs]; exact List.mem_filterMap.mpr ⟨env, he, hb⟩
  have BL : B.get? L = none := by subst hB; exact hideAll_none _ (hin _ (.head _) L rfl)
  have gL := kts_self F
  have outL : ∀ env ∈ outer, env.frame ≠ some L := fun env he hf => by
    obtain ⟨L₁, o₁, hf₁, ho₁⟩ := funFrames_in K.frames env he
    rw [hf₁] at hf
    rw [Option.some.inj hf, gL] at ho₁
    cases ho₁
  refine raiseFrom (A := (A₀.deeper (envOf name scope L a cd)).mark (some (.ref e))) rfl hc hself he hcls hd h2 hY (name_B F XB P ex2 hv2 hn2 ⟨rfl, rfl⟩ hk hx' hd') (ld F hm ⟨rfl, rfl⟩ hk hlo hdn) fun h₁ e2 kp nw hob2 => ?_
  obtain ⟨o2, vs2, he2, hcls2, hd2, h12⟩ := hob2
  have sz2 : 1 < vs2.size := (Array.getElem?_eq_some_iff.mp h12).1
  have e2B : B.get? e2 = none := by
    cases q : B.get? e2 with
    | none => rfl
    | some o => subst hB; have := of_hideAll _ q; rw [nw] at this; cases this
  have G₁ : Gd B (envOf name scope L a cd :: outer) h₁ := ⟨fun b o q => by subst hB; exact kp b o (of_hideAll _ q), by
    subst hB
    exact (funFrames_hide K'.frames hin).of_keeps fun b o hb _ => ⟨o, kp b o hb, rfl⟩⟩
  refine noteFresh (s := { s with heap := h₁ }) (A := (A₀.deeper (envOf name scope L a cd)).mark (some (.ref e))) K'.stack G₁ rfl he2 hd2 h12 e2B fun h₂ T oT ts G₂ U₂ he₂ hT₂ hdT h3 hTe hTB => ?_
  have U₀₂ : s.heap.UpToSlots h₂ := (Heap.UpToSlots.of_keeps kp).trans U₂
  have ns₂ : h₂.Ns L m := U₀₂.ns F.ns
  have e2L : e2 ≠ L := fun q => by
    obtain ⟨oL, _, _, hL, _⟩ := F.ns
    rw [← q, nw] at hL
    cases hL
  have TL : T ≠ L := fun q => by
    obtain ⟨oL, es, ep, hL, hLd, _⟩ := ns₂
    rw [← q, hT₂] at hL
    cases hL
    rw [hdT] at hLd
    cases hLd
  refine wpAny_nameGoes_keeps hlo ns₂ (by show (scope.kind == .class || (scope.kind == .module && L != mainGlobals)) = false; rw [hk]; rfl) fun h₃ v hn₃ hs₃ => ?_
  have H₃ : Heap.HeldW B (envOf name scope L a cd :: outer) e2 (.type X) vs2[0] L h₃ := by
    refine ⟨fun b o hb => (hs₃.2 b fun q => by rw [show b = L from q, BL] at hb; cases hb).trans (G₂.st b o hb), e2B, ?_, ?_⟩
    · obtain ⟨o₃, es, ep, hL₃, hd₃, _⟩ := hn₃
      exact ⟨G₂.fr.1, ⟨L, o₃, rfl, BL, hL₃, fun vs q => by rw [hd₃] at q; cases q⟩, funFrames_but hs₃.2 G₂.fr.2.2 outL⟩
    · exact ⟨_, _, T, oT, ts, (hs₃.2 e2 e2L).trans he₂, ⟨(Obj.cls_mapFields _ _).trans hcls2, by rw [Array.getElem?_setIfInBounds_ne (by decide)]; exact Array.getElem?_eq_getElem (by omega)⟩, Obj.data_mapFields hd2 _, by simp [sz2], hTB, hTe, (hs₃.2 T TL).trans hT₂, hdT, h3⟩
  obtain ⟨oe, ws, T', heA, hdA, h1A⟩ := tb_of_held (l := outer) (L := L) H₃.2.2.2
  unfold PySem.passOn
  refine wpAny_bind (wpAny_field heA hdA h1A ?_)
  rw [if_neg (show ¬ ((Value.ref T' == Value.none) = true) from by simp)]
  refine wpAny_bind (setFl_held H₃ fun h₄ H₄ U₄ => wpAny_throw ?_)
  refine wpAny_noteFrame_againW rfl H₄.2.2.2 ?_
  obtain ⟨oe', ws', T'', heA', hdA', h1A'⟩ := tb_of_held (l := outer) (L := L) H₄.2.2.2
  refine wpAny_bind (wpAny_field heA' hdA' h1A' ?_)
  rw [if_neg (show ¬ ((Value.ref T'' == Value.none) = true) from by simp)]
  refine setFl_held H₄ fun h₅ H₅ U₅ => ?_
  refine hQ h₅ e2 _ ⟨B, _, ?_, ?_, ?_, H₅⟩ ?_
  · intro b o q
    subst hB
    exact hideAll_get _ (K'.stays b o q) fun hm => by rw [hfrs] at hm; rw [(K'.frames.mem hm).1] at q; cases q
  · intro b o q nm
    subst hB
    refine hideAll_get _ (F.keep b o q) fun hm => ?_
    rw [hfrs] at hm
    rcases kts_mem hm with z | z
    · rw [z, gL] at q; cases q
    · exact nm z
  · intro q hq
    refine ⟨?_, (Nw q hq).2.2, fresh_of_stays K.stays (Nw q hq).2.2⟩
    subst hB
    refine hideAll_get _ (Nw q hq).1 fun z => ?_
    rw [hfrs] at z
    obtain ⟨env, he, hf⟩ := List.mem_filterMap.mp z
    rcases List.mem_cons.mp he with rfl | he
    · exact (Nw q hq).2.1 (Option.some.inj hf).symm
    · obtain ⟨o, ho, _⟩ := (K.frames.mem (List.mem_filterMap.mpr ⟨env, he, hf⟩)).2
      rw [(Nw q hq).2.2] at ho; cases ho
  · have Ug₂ : g.UpToSlots h₂ := (Heap.UpToSlots.of_keeps F.keep).trans U₀₂
    have Ug₃ : g.UpToSlots h₃ := fun b o q hn => by
      obtain ⟨sl, z⟩ := Ug₂ b o q hn
      exact ⟨sl, (hs₃.2 b fun q' => by rw [show b = L from q', gL] at q; cases q).trans z⟩
    exact (Ug₃.trans U₄).trans U₅
theorem leaveOwn {g₀ : Heap} {cls : Value} {Q1 : Unit → Shared → Prop} {E1 : Value → Shared → Prop} (R : HeldOwn base g (envOf name scope L a cd) outer L e cls news s.heap) (U : g.UpToSlots s.heap) (T0 : KtsTurn (outer.filterMap (·.frame)) g₀ g)
    (hQ : ∀ h', RaisedSN base g₀ outer e cls news h' → RaisedN base outer e cls news h' → g₀.UpToSlots h' → Q1 () { s with heap := h' }) :
    wpAny (model prog w) (A₀.deeper (envOf name scope L a cd)) (leaving (envOf name scope L a cd) (.ref e)) Q1 E1 s := by
  obtain ⟨B, a0, hB, hBG, hl, hh⟩ := R
  unfold leaving
  refine wpAny_bind (wpAny_noteFrame_againW rfl hh.2.2.2 ?_)
  refine wpAny_landsW hh fun h' hfl hs => ?_
  obtain ⟨k1, k2, ⟨_, _, k3⟩, k4⟩ := hfl
  have nn : ∀ b, g.get? b = none → g₀.get? b = none := fun b hb => by
    cases z : g₀.get? b with
    | none => rfl
    | some o =>
      obtain ⟨sl, z'⟩ := T0.up z
      rw [hb] at z'
      cases z'
  have R : RaisedSN base g₀ outer e cls news h' := ⟨B, a0, hB, fun b o q nm => hBG b o (T0.other b o q nm) nm, fun q hq => ⟨(hl q hq).1, nn _ (hl q hq).2.1, (hl q hq).2.2⟩, k1, k2, k3, k4⟩
  exact hQ h' R R.toN (fun b o q hn => by
    obtain ⟨sl, z⟩ := T0.up q
    obtain ⟨sl', z'⟩ := (U.trans hs) b _ z hn
    exact ⟨sl', z'⟩)
end

theorem wordsJ140 : True := by
  k_with "call ref" => (k_here; (with_reducible show wpAny _ _ (call (Value.ref 72) [Value.int _ _]) _ _ _); k_dflt (refine' c_leap_a _ _ _ _ _ _ _ _ _ _ _ _ _ _ _ _ _ _ _ _ ?k1 ?k2 ?k3 ?k4 ?k5 ?k6 ?k7 ?k8 ?k9 ?_; (case k7 => trivial); walk_at "mine prem"); walk_at "mine retV")
  k_with "noteFrame ref" => (k_here; (with_reducible rename KtsDicts _ _ => kdX); (with_reducible show wpAny _ _ (noteFrame _ _) (fun _ s₂ => wpAny _ _ (setFlight _ none) (fun _ s₃ => wpAny _ _ (handleBy _ _ (ExceptHandler.ExceptHandler (some (Expr.Name ("AssertionError" : Str) _)) (some _) _ _ :: _)) _ _ s₃) _ s₂) _ _); k_dflt (refine' caughtOwn (X := "AssertionError") (T' := "AssertionError") ?R ?F ?N ?K ?XB ?TB ?D ?ex PyProof.Rows.Boot.«AssertionError» ?hn PySem.F.isExc_AssertionError PySem.F.notTuple_AssertionError ?hs ?_; (case R => assumption); (case F => assumption); (case N => assumption); (case K => assumption); (case XB => assumption); (case TB => assumption); (case D => assumption); (case ex => k_is); (case hn => decide); (case hs => kts_sub); k_whole); intro h' g' tk' T' F' N' K' X' P' D' eo'; (try k_lift K'); (try k_sweep))
  k_with "exec Raise some some" => (k_here; k_dflt (refine' handlerRaises (X := "ValueError") (Y := "AssertionError") excClass_ValueError ?hs PySem.F.isExc_AssertionError ?ob ?F ?hm ?N ?K ?XB ?P ?ex PyProof.Rows.Boot.«ValueError» ?hn ?_; (case ob => assumption); (case F => assumption); (case hm => first | exact if_pos rfl | rfl); (case N => assumption); (case K => assumption); (case XB => assumption); (case P => exact topRead_of (by assumption)); (case ex => k_is); (case hn => decide); (case hs => kts_sub); k_whole); intro h' e2' tk' H' U')
  k_with "leaving ref" => (k_here; (rename HeldOwn _ _ _ _ _ _ _ _ _ => hoX); k_dflt (refine' leaveOwn ?R ?U ?T0 ?_; (case R => assumption); (case U => assumption); (case T0 => first | assumption | exact KtsTurn.refl); k_whole); intro h' S' R' U'; (try dsimp only at S' R' U' ⊢))
  trivial

theorem c_asked1r_s (news : List (Addr × Obj)) (y m d : Int) (tk ty tm td : Tok) (tn : Tok) :
    ClT w p loose mean mg mb 140 5 news (¬(533 ≤ y ∧ 1 ≤ m ∧ m ≤ 13 ∧ 1 ≤ d ∧ (m ≠ 13 ∧ d ≤ 30 ∨ m = 13 ∧ y % 4 = 0 ∧ d ≤ 6 ∨ m = 13 ∧ y % 4 ≠ 0 ∧ d ≤ 5))) [Value.int 1 tk, Value.int y ty, Value.int m tm, Value.int d td, Value.str (Str.ofString "sarkawag") tn] (RetV news (fun t => Value.str (Str.ofString "refused") t)) := by
  dsimp only [ClT]
  w_top off
  k_fill
  intros
  rename_i hpre _ _ hret
  refine wpAny_call ?_
  k_dflt walk_at "mine enterS"
  k_steps
  all_goals exact retS hret (by assumption) (by assumption)

theorem c_asked1r_x (news : List (Addr × Obj)) (y m d : Int) (tk ty tm td : Tok) (nm : Value) (hw : WayMN nm) :
    ClT w p loose mean mg mb 140 5 news (¬(1 ≤ y ∧ 1 ≤ m ∧ m ≤ 13 ∧ 1 ≤ d ∧ (m ≠ 13 ∧ d ≤ 30 ∨ m = 13 ∧ d ≤ 5))) [Value.int 1 tk, Value.int y ty, Value.int m tm, Value.int d td, nm] (RetV news (fun t => Value.str (Str.ofString "refused") t)) := by
  dsimp only [ClT]
  w_top off
  k_fill
  intros
  rename_i hpre _ _ hret
  refine wpAny_call ?_
  k_dflt walk_at "mine enterS"
  k_steps
  all_goals exact retS hret (by assumption) (by assumption)

theorem c_asked2 (news : List (Addr × Obj)) (y : Int) (tk ty tm td : Tok) (nm : Value) :
    ClT w p loose mean mg mb 140 5 news True [Value.int 2 tk, Value.int y ty, Value.int 14 tm, Value.int 0 td, nm] (RetV news (fun t => Value.str (Str.ofString "refused") t)) := by
  dsimp only [ClT]
  w_top off
  k_fill
  intros
  rename_i hpre _ _ hret
  refine wpAny_call ?_
  k_dflt walk_at "mine enterS"
  k_steps
  all_goals exact retS hret (by assumption) (by assumption)

abbrev RetVK (news : List (Addr × Obj)) (V : Tok → Value) (h₀ : Heap) (L : Addr) (m : Str → Option Value) (s : Shared) (Q E0 : Value → Shared → Prop) : Prop :=
  ∀ (t : Tok) (h' : Heap) (tk' : Nat), Fr h₀ L h' m → News h₀ L h' news → InElt s.heap h' → Q (V t) { s with heap := h', toks := tk' }
theorem retIK {h₀ h' : Heap} {L : Addr} {m : Str → Option Value} {news : List (Addr × Obj)} {s : Shared} {Q E : Value → Shared → Prop} {t : Tok} {tk' : Nat} {x y : Int} (hret : RetVK news (fun t => .int x t) h₀ L m s Q E) (F : Fr h₀ L h' m) (N : News h₀ L h' news) (K : InElt s.heap h') (e : y = x) : Q (.int y t) { s with heap := h', toks := tk' } := by
  subst e
  exact hret t h' tk' F N K
theorem eltNext {s₂ H H' : Heap} (E : InElt s₂ H) (k : InElt H H') : InElt s₂ H' := fun b o q => k b o (E b o q)
theorem wordsJ167 : True := by
  k_with "mine enterG" => (refine' code_defG ?k1 ?k2 ?k3 ?k4 ?k5 ?kA ?kF ?kK ?k6 ?k7 ?k8 ?k9 ?kB ?_ ?c2 ?c3 ?c4 ?c5; (case kA => exact rfl); (case kF => exact rfl); (case kK => assumption); (case k1 => k_asm); (case k2 => k_asm); (case k3 => k_asm); (case k4 => k_asm); (case k5 => k_asm); (case k6 => k_is); (case k7 => k_is); (case k8 => ktr_room); (case k9 => first | exact BindsTo.of_eq rfl | exact binds_K (by k_in) rfl (by k_is) rfl rfl rfl); (case c5 => decide); (case kB => exact locs rfl); (case c2 => exact rfl); (case c3 => exact rfl); (case c4 => exact rfl); k_whole; intro g' L' h' FG' F' N' B' X' T' kG'; (try dsimp only); (try k_lift B'); (try k_fold))
  trivial

theorem c_mlenK_s (news : List (Addr × Obj)) (y m : Int) (ty tm : Tok) (tn : Tok) :
    Cl w p loose mean mg mb 112 2 news (m ≤ 13 ∧ 533 ≤ y) [Value.int y ty, Value.int m tm, Value.str (Str.ofString "sarkawag") tn] (RetVK news (fun t => Value.int (armLen true y m) t)) := by
  dsimp only [Cl]
  w_top off
  k_fill
  intros
  rename_i hN0 _ _ hpre _ _ hret
  refine wpAny_call ?_
  k_dflt walk_at "mine enterG"
  k_steps
  all_goals (refine retIK hret (by assumption) (by assumption) (elt_after (InElt.start _) (by assumption) hN0 (by assumption) (by assumption) (fun _ q => q)) ?_)
  all_goals (unfold armLen armLeap; simp_all <;> omega)

theorem c_mlenK_x (news : List (Addr × Obj)) (y m : Int) (ty tm : Tok) (nm : Value) (hw : WayMN nm) :
    Cl w p loose mean mg mb 112 2 news (m ≤ 13) [Value.int y ty, Value.int m tm, nm] (RetVK news (fun t => Value.int (armLen false y m) t)) := by
  dsimp only [Cl]
  w_top off
  k_fill
  intros
  rename_i hN0 _ _ hpre _ _ hret
  refine wpAny_call ?_
  k_dflt walk_at "mine enterG"
  k_steps
  all_goals (refine retIK hret (by assumption) (by assumption) (elt_after (InElt.start _) (by assumption) hN0 (by assumption) (by assumption) (fun _ q => q)) ?_)
  all_goals (unfold armLen armLeap; simp_all <;> omega)

/-- the month that is looked at -/
def MonthIs (m0 : Int) : Prop := True

theorem c_fromX_s (news : List (Addr × Obj)) (n : Int) (ti : Tok) (tn : Tok) :
    Cl w p loose mean mg mb 88 2 news (2117212 ≤ n) [Value.int n ti, Value.str (Str.ofString "sarkawag") tn]
      (fun h₀ L f s Q E => ∀ y m d, ArmD true n y m d → MonthIs m → 533 ≤ y → 1 ≤ m → m ≤ 13 → 1 ≤ d → (m ≠ 13 ∧ d ≤ 30 ∨ m = 13 ∧ y % 4 = 0 ∧ d ≤ 6 ∨ m = 13 ∧ y % 4 ≠ 0 ∧ d ≤ 5) → n = armFirst true y + 30 * (m - 1) + d - 1 → RetT news y m d h₀ L f s Q E) := by
  dsimp only [Cl]
  intro dp un gd cn cs a ccd cl outer A₀ base h₀ L m s Q E k1 k2 k3 k4 k5 k6 hpre k8 k9 hret
  obtain ⟨y, m', d, h⟩ := armD_s_of hpre
  obtain ⟨q1, q2, q3, q4, q5, q6⟩ := armD_s.mp h
  exact c_from_jd_s news n y m' d ti tn dp un gd cn cs a ccd cl outer A₀ base h₀ L m s Q E k1 k2 k3 k4 k5 k6 h k8 k9 (hret y m' d h trivial q1 q2 q3 q4 (by split at q5 <;> (try split at q5) <;> omega) h.2.2.2.2.2)

theorem c_fromX_x (news : List (Addr × Obj)) (n : Int) (ti : Tok) (nm : Value) (hw : WayMN nm) :
    Cl w p loose mean mg mb 88 2 news (1922868 ≤ n) [Value.int n ti, nm]
      (fun h₀ L f s Q E => ∀ y m d, ArmD false n y m d → MonthIs m → 1 ≤ y → 1 ≤ m → m ≤ 13 → 1 ≤ d → (m ≠ 13 ∧ d ≤ 30 ∨ m = 13 ∧ d ≤ 5) → n = armFirst false y + 30 * (m - 1) + d - 1 → RetT news y m d h₀ L f s Q E) := by
  dsimp only [Cl]
  intro dp un gd cn cs a ccd cl outer A₀ base h₀ L m s Q E k1 k2 k3 k4 k5 k6 hpre k8 k9 hret
  obtain ⟨y, m', d, h⟩ := armD_m_of hpre
  obtain ⟨q1, q2, q3, q4, q5, q6⟩ := armD_m.mp h
  exact c_from_jd_x news n y m' d ti nm hw dp un gd cn cs a ccd cl outer A₀ base h₀ L m s Q E k1 k2 k3 k4 k5 k6 h k8 k9 (hret y m' d h trivial q1 q2 q3 q4 (by split at q5 <;> (try split at q5) <;> omega) h.2.2.2.2.2)

theorem c_lawX (news : List (Addr × Obj)) (n : Int) (ti : Tok) :
    Cl w p loose mean mg mb 133 1 news True [Value.int n ti] (fun h₀ L f s Q E => ∀ Y M D, JulD n Y M D → RetT news Y M D h₀ L f s Q E) := by
  dsimp only [Cl]
  intro dp un gd cn cs a ccd cl outer A₀ base h₀ L m s Q E k1 k2 k3 k4 k5 k6 hpre k8 k9 hret
  obtain ⟨Y, M, D, h⟩ := julD_of n
  exact c_law_j news n Y M D ti dp un gd cn cs a ccd cl outer A₀ base h₀ L m s Q E k1 k2 k3 k4 k5 k6 h k8 k9 (hret Y M D h)
section
variable {M : Model} {A : Around} {E : Value → Shared → Prop} {s : Shared} {env : Env} {n : Str} {Q : Unit → Shared → Prop}
theorem splitBool {b : Bool} (ht : b = true → wpAny M A (storeName env n (.bool true)) Q E s) (hf : b = false → wpAny M A (storeName env n (.bool false)) Q E s) : wpAny M A (storeName env n (.bool b)) Q E s := by
  cases b with
  | true => exact ht rfl
  | false => exact hf rfl
theorem genInt {e : Int} {t : Tok} (P : Int → Prop) (hp : P e) (h : ∀ N, P N → wpAny M A (storeName env n (.int N t)) Q E s) : wpAny M A (storeName env n (.int e t)) Q E s := h e hp
theorem num_ge {c x : Int} : c ≤ c + (if x < 0 then -x else x) := by split <;> omega
end

theorem c_lens_t (news : List (Addr × Obj)) (y : Int) (ty : Tok) :
    Cl w p loose mean mg mb 126 1 news True [Value.bool true, Value.int y ty] (fun h₀ L f s Q E => ∀ x, (y % 4 = 0 ∧ x = 6 ∨ y % 4 ≠ 0 ∧ x = 5) → x = armLen true y 13 → RetL news x h₀ L f s Q E) := by
  dsimp only [Cl]
  intro dp un gd cn cs a ccd cl outer A₀ base h₀ L m s Q E k1 k2 k3 k4 k5 k6 hpre k8 k9 hret
  exact c_lengths news true y ty dp un gd cn cs a ccd cl outer A₀ base h₀ L m s Q E k1 k2 k3 k4 k5 k6 hpre k8 k9 (hret (if armLeap true y then 6 else 5) (by simp [armLeap] <;> omega) (by simp [armLen]))

theorem c_lens_f (news : List (Addr × Obj)) (y : Int) (ty : Tok) :
    Cl w p loose mean mg mb 126 1 news True [Value.bool false, Value.int y ty] (fun h₀ L f s Q E => ∀ x, x = 5 → x = armLen false y 13 → RetL news x h₀ L f s Q E) := by
  dsimp only [Cl]
  intro dp un gd cn cs a ccd cl outer A₀ base h₀ L m s Q E k1 k2 k3 k4 k5 k6 hpre k8 k9 hret
  exact c_lengths news false y ty dp un gd cn cs a ccd cl outer A₀ base h₀ L m s Q E k1 k2 k3 k4 k5 k6 hpre k8 k9 (hret (if armLeap false y then 6 else 5) (by simp [armLeap] ) (by simp [armLen]))

section
variable {prog : PySem.Program} {w : World} {A : Around} {E : Value → Shared → Prop} {s : Shared}
theorem lensItem {value slice : PySem.Expr} {l : Addr} {m x : Int} {u : Tok} {t1 t2 t3 t4 t5 t6 t7 t8 t9 t10 t11 t12 t13 : Tok} {Q : Value → Shared → Prop} (hl : s.heap.IsList l #[.int 30 t1, .int 30 t2, .int 30 t3, .int 30 t4, .int 30 t5, .int 30 t6, .int 30 t7, .int 30 t8, .int 30 t9, .int 30 t10, .int 30 t11, .int 30 t12, .int x t13]) (h1 : 1 ≤ m) (h2 : m ≤ 13)
    (h : ∀ v t, (m ≠ 13 ∧ v = 30 ∨ m = 13 ∧ v = x) → Q (.int v t) s)
    (hs : subscripted slice false (.ref l) (.int (m - 1) u) = operate [.ref l, .int (m - 1) u] (getItem (.ref l) (.int (m - 1) u)) := by with_unfolding_all rfl) :
    wpAny (model prog w) A (subscriptTail value slice (.ref l) (.int (m - 1) u)) Q E s := by
  have hx : ∃ v t, #[.int 30 t1, .int 30 t2, .int 30 t3, .int 30 t4, .int 30 t5, .int 30 t6, .int 30 t7, .int 30 t8, .int 30 t9, .int 30 t10, .int 30 t11, .int 30 t12, .int x t13][(m - 1).toNat]? = some (Value.int v t) ∧ (m ≠ 13 ∧ v = 30 ∨ m = 13 ∧ v = x) := by
    rcases (by omega : m = 1 ∨ m = 2 ∨ m = 3 ∨ m = 4 ∨ m = 5 ∨ m = 6 ∨ m = 7 ∨ m = 8 ∨ m = 9 ∨ m = 10 ∨ m = 11 ∨ m = 12 ∨ m = 13) with e | e | e | e | e | e | e | e | e | e | e | e | e <;> subst e <;> exact ⟨_, _, rfl, by omega⟩
  obtain ⟨v, t, hv, hm⟩ := hx
  exact tail_any hl.typeIs F.slot_list_getitem.lookup (wpAny_getItem_list hl (by omega) (by omega) hv (h v t hm)) hs
end

theorem sum30 {m x : Int} (h1 : 1 ≤ m) (h2 : m ≤ 13) : (List.take (m - 1).toNat [30, 30, 30, 30, 30, 30, 30, 30, 30, 30, 30, 30, x]).sum = 30 * (m - 1) := by
  rcases (by omega : m = 1 ∨ m = 2 ∨ m = 3 ∨ m = 4 ∨ m = 5 ∨ m = 6 ∨ m = 7 ∨ m = 8 ∨ m = 9 ∨ m = 10 ∨ m = 11 ∨ m = 12 ∨ m = 13) with e | e | e | e | e | e | e | e | e | e | e | e | e <;> subst e <;> rfl
theorem addSum {M : Model} {A : Around} {E : Value → Shared → Prop} {s : Shared} {Q : Value → Shared → Prop} {m x b : Int} {t u : Tok} (h1 : 1 ≤ m) (h2 : m ≤ 13) (h : wpAny M A (binaryOp .Add (.int b t) (.int (30 * (m - 1)) u)) Q E s) :
    wpAny M A (binaryOp .Add (.int b t) (.int (List.take (m - 1).toNat [30, 30, 30, 30, 30, 30, 30, 30, 30, 30, 30, 30, x]).sum u)) Q E s := by
  rw [sum30 h1 h2]
  exact h
theorem first_day {y : Int} (h : 533 ≤ y) : ArmD true (armFirst true y) y 1 1 ∧ JulD (armFirst true y) (y + 551) 8 11 := by
  refine ⟨armD_s.mpr ⟨h, by decide, by decide, by decide, by simp, ?_⟩, by decide, by decide, by decide, by simp [julLen], ?_⟩
  · simp only [armFirst, if_true]
    omega
  · simp only [armFirst, if_true]
    have e : (y + 551 + 4712) / 4 = (y - 533) / 4 + 1449 := by omega
    have e2 : (y + 551 + 4712) % 4 = (y - 533) % 4 := by omega
    unfold julFirst
    rw [e, e2]
    have h3 : (y + 551) % 4 = 0 ↔ (y - 533) % 4 = 0 := by omega
    by_cases q : (y - 533) % 4 = 0
    · simp [julCum, h3, q]
      omega
    · simp [julCum, h3, q]
      omega

theorem le13 {k : Int} (h : k < 1 + ((14 - 1 : Int).toNat : Int)) : k ≤ 13 := by
  have e : ((14 - 1 : Int).toNat : Int) = 13 := rfl
  omega
theorem leap_eq {y : Int} (h : 533 ≤ y) : decide (533 ≤ y ∧ y % 4 = 0) = (y.fmod 4 == 0) := by
  rw [fm4, Bool.eq_iff_iff]
  simp
  omega
section
variable {prog : PySem.Program} {w : World} {A : Around} {E : Value → Shared → Prop} {s : Shared} {Q : Value → Shared → Prop}
theorem neB {a b : Bool} (e : a = b) (h : Q (.bool false) s) : wpAny (model prog w) A (compareOp .NotEq (.bool a) (.bool b)) Q E s := by
  subst e
  refine ne_bool ?_
  simpa using h
theorem neI {a b : Int} {t u : Tok} (e : a = b) (h : Q (.bool false) s) : wpAny (model prog w) A (compareOp .NotEq (.int a t) (.int b u)) Q E s := by
  subst e
  refine PyProof.Rows.ne_int ?_
  simpa using h
end

theorem lens_map {fx : Bool} {y x : Int} (h : x = armLen fx y 13) : List.map (fun k' => armLen fx y k') (rangeKs 1 (14 - 1 : Int).toNat) = [30, 30, 30, 30, 30, 30, 30, 30, 30, 30, 30, 30, x] := by
  subst h
  rfl
theorem neg_lt {c a : Int} (h : a < 0) : c + a < c := by omega

theorem mkArm_s {a m d v x : Int} (h0 : 0 ≤ a) (h1 : 1 ≤ m) (h2 : m ≤ 13) (h3 : 1 ≤ d) (q : m ≠ 13 ∧ v = 30 ∨ m = 13 ∧ v = x) (h4 : d ≤ v) (h5 : x = armLen true (533 + a) 13) :
    ArmD true (armFirst true (533 + a) + 30 * (m - 1) + d - 1) (533 + a) m d := by
  refine ⟨?_, h1, h2, h3, ?_, rfl⟩
  · simp only [Bool.false_eq_true, if_true, if_false]
    omega
  · rcases q with ⟨e, f⟩ | ⟨e, f⟩
    · subst f
      simpa [armLen, e] using h4
    · subst e
      subst f
      rw [← h5]
      exact h4

theorem mkArm_m {a m d v x : Int} (h0 : 0 ≤ a) (h1 : 1 ≤ m) (h2 : m ≤ 13) (h3 : 1 ≤ d) (q : m ≠ 13 ∧ v = 30 ∨ m = 13 ∧ v = x) (h4 : d ≤ v) (h5 : x = armLen false (1 + a) 13) :
    ArmD false (armFirst false (1 + a) + 30 * (m - 1) + d - 1) (1 + a) m d := by
  refine ⟨?_, h1, h2, h3, ?_, rfl⟩
  · simp only [Bool.false_eq_true, if_true, if_false]
    omega
  · rcases q with ⟨e, f⟩ | ⟨e, f⟩
    · subst f
      simpa [armLen, e] using h4
    · subst e
      subst f
      rw [← h5]
      exact h4

theorem wordsL20 : True := by
  k_with "mine prem" => ((case k1 => k_asm); (case k2 => k_asm); (case k3 => k_asm); (case k4 => k_asm); (case k5 => k_asm); (case k6 => first | exact rfl | assumption); (case k8 => first | exact Nat.le_of_ble_eq_true rfl | ktr_room); (case k9 => first | exact Nat.le_of_ble_eq_true rfl | ktr_units))
  k_with "mine retT" => (intro D9 t9a t9b t9c c9 h9 tk9 F9 N9 l9; (try dsimp only [tup3] at N9); (try simp only [AllLt, and_true] at l9); (try dsimp only); (try k_fold))
  trivial

def MonthAt (n0 : Int) : Prop := True
def DayAt (n0 : Int) : Prop := True
def PastAt (n0 : Int) : Prop := True
theorem monthAt {n : Int} : MonthAt n := trivial
theorem dayAt {n : Int} : DayAt n := trivial
def Legal (a m d x : Int) : Prop := 0 ≤ a ∧ 1 ≤ m ∧ m ≤ 13 ∧ 1 ≤ d ∧ (m ≠ 13 ∧ d ≤ 30 ∨ m = 13 ∧ d ≤ x)
section
variable {M : Model} {A : Around} {E : Value → Shared → Prop} {s : Shared}
theorem markPast {env : Env} {n : Str} {Q : Unit → Shared → Prop} {b a : Int} {t : Tok} (h : PastAt a → wpAny M A (storeName env n (.int (b + a) t)) Q E s) : wpAny M A (storeName env n (.int (b + a) t)) Q E s := h trivial
theorem joinCond {e : Sem Bool} {Q : Bool → Shared → Prop} {fx : Bool} {b a m d x : Int} (_ : PastAt a) (_ : MonthAt m) (_ : DayAt d) (_ : x = armLen fx (b + a) 13)
    (h : wpAny M A e (fun r s' => (r = true ↔ Legal a m d x) ∧ ∃ tk, s' = { s with toks := tk }) E s)
    (k1 : ∀ tk, Legal a m d x → 0 ≤ a → 1 ≤ m → m ≤ 13 → 1 ≤ d → Q true { s with toks := tk }) (k0 : ∀ tk, ¬Legal a m d x → Q false { s with toks := tk }) : wpAny M A e Q E s :=
  wpAny_mono h (fun r s' q => by
    obtain ⟨q1, tk, q2⟩ := q
    subst q2
    cases r with
    | true => exact k1 tk (q1.mp rfl) (q1.mp rfl).1 (q1.mp rfl).2.1 (q1.mp rfl).2.2.1 (q1.mp rfl).2.2.2.1
    | false => exact k0 tk fun l => by cases q1.mpr l) (fun _ _ e => e)
end
theorem mkL_s {a m d x : Int} (h : Legal a m d x) (h5 : x = armLen true (533 + a) 13) : ArmD true (armFirst true (533 + a) + 30 * (m - 1) + d - 1) (533 + a) m d := by
  obtain ⟨h0, h1, h2, h3, h4⟩ := h
  exact mkArm_s (v := if m = 13 then x else 30) h0 h1 h2 h3 (by omega) (by omega) h5
theorem mkL_m {a m d x : Int} (h : Legal a m d x) (h5 : x = armLen false (1 + a) 13) : ArmD false (armFirst false (1 + a) + 30 * (m - 1) + d - 1) (1 + a) m d := by
  obtain ⟨h0, h1, h2, h3, h4⟩ := h
  exact mkArm_m (v := if m = 13 then x else 30) h0 h1 h2 h3 (by omega) (by omega) h5
theorem refL_s {a m d x : Int} (h : ¬Legal a m d x) (h5 : (533 + a) % 4 = 0 ∧ x = 6 ∨ (533 + a) % 4 ≠ 0 ∧ x = 5) :
    ¬(533 ≤ 533 + a ∧ 1 ≤ m ∧ m ≤ 13 ∧ 1 ≤ d ∧ (m ≠ 13 ∧ d ≤ 30 ∨ m = 13 ∧ (533 + a) % 4 = 0 ∧ d ≤ 6 ∨ m = 13 ∧ (533 + a) % 4 ≠ 0 ∧ d ≤ 5)) := fun q => h (by unfold Legal; omega)
theorem refL_m {a m d x : Int} (h : ¬Legal a m d x) (h5 : x = 5) : ¬(1 ≤ 1 + a ∧ 1 ≤ m ∧ m ≤ 13 ∧ 1 ≤ d ∧ (m ≠ 13 ∧ d ≤ 30 ∨ m = 13 ∧ d ≤ 5)) := fun q => h (by unfold Legal; omega)
section
variable {h₀ h : Heap} {L : Addr} {a b c d e f g i j p q : Addr × Obj}
theorem keep1 (N : News h₀ L h [a, b, c, d, e, f, g, p, q]) : News h₀ L h [a, c, e, p, q] := fun x hx => N x (by
  simp only [List.mem_cons, List.not_mem_nil, or_false] at hx ⊢
  rcases hx with h | h | h | h | h <;> simp [h])
theorem keep2 (N : News h₀ L h [a, b, c, d, e, f, g, i, p, q]) : News h₀ L h [g, i, p, q] := fun x hx => N x (by
  simp only [List.mem_cons, List.not_mem_nil, or_false] at hx ⊢
  rcases hx with h | h | h | h <;> simp [h])
theorem keep3 (N : News h₀ L h [a, b, c, d, g, i, p, q]) : News h₀ L h [g, i, p, q] := fun x hx => N x (by
  simp only [List.mem_cons, List.not_mem_nil, or_false] at hx ⊢
  rcases hx with h | h | h | h <;> simp [h])
theorem keep4 (N : News h₀ L h [a, b, c, p, q]) : News h₀ L h [c, p, q] := fun x hx => N x (by
  simp only [List.mem_cons, List.not_mem_nil, or_false] at hx ⊢
  rcases hx with h | h | h <;> simp [h])
end
theorem wordsL248 : True := by
  k_with "eval Name" => (k_here; k_dflt (first
    | (refine' nameX_L ?F ?v ?_ ?a ?b ?c; (case F => k_asm); (case a => exact rfl); (case b => kernel_rfl!); (case c => kernel_rfl!); (case v => exact rfl); k_whole)
    | (refine' nameX_C ?N ?c ?m ?d ?_ ?a ?b ?e; (case a => exact rfl); (case b => kernel_rfl!); (case N => k_asm); (case c => rfl); (case m => k_mem); (case d => k_asm); (case e => kernel_rfl!); k_whole)
    | (refine' nameX_K ?F ?X ?T ?e ?_ ?a ?b ?c; (case F => k_asm); (case X => k_asm); (case T => k_asm); (case a => exact rfl); (case b => kernel_rfl!); (case c => kernel_rfl!); (case e => k_is); k_whole)))
  k_with "mine premT" => ((case k1 => k_asm); (case k2 => k_asm); (case k3 => k_asm); (case k4 => k_asm); (case k5 => k_asm); (case k6 => first | exact rfl | assumption); (case kX => assumption); (case kT => assumption); (case k8 => first | exact Nat.le_of_ble_eq_true rfl | ktr_room); (case k9 => first | exact Nat.le_of_ble_eq_true rfl | ktr_units))
  k_with "mine retL" => (intro D9 t9a t9b t9c t9d t9e t9f t9g t9h t9i t9j t9k t9l t9m h9 tk9 F9 N9 l9; (try simp only [AllLt, and_true] at l9); (try dsimp only); (try k_fold))
  k_with "call ref" => (k_here; (with_reducible show wpAny _ _ (call (Value.ref 88) [Value.int _ _, _]) _ _ _); k_dflt (refine' c_fromX_x _ _ _ _ ?hw _ _ _ _ _ _ _ _ _ _ _ _ _ _ _ _ _ ?k1 ?k2 ?k3 ?k4 ?k5 ?k6 ?k7 ?k8 ?k9 ?_; (case hw => with_reducible assumption); (case k7 => assumption); walk_at "mine prem"); intro y9 m9 d9 hA9 hM9 f1 f2 f3 f4 f5 f6; walk_at "mine retT")
  k_with "call ref" => (k_here; (with_reducible show wpAny _ _ (call (Value.ref 88) [Value.int _ _, Value.str (Str.ofString "sarkawag") _]) _ _ _); k_dflt (refine' c_fromX_s _ _ _ _ _ _ _ _ _ _ _ _ _ _ _ _ _ _ _ _ _ ?k1 ?k2 ?k3 ?k4 ?k5 ?k6 ?k7 ?k8 ?k9 ?_; (case k7 => assumption); walk_at "mine prem"); intro y9 m9 d9 hA9 hM9 f1 f2 f3 f4 f5 f6; walk_at "mine retT")
  k_with "storeName" => ((with_reducible show wpAny _ _ (storeName _ (Str.ofString "fixed") (Value.bool (_ == _))) _ _ _); refine splitBool (fun fxX => ?_) (fun fxX => ?_))
  k_with "storeName" => ((with_reducible show wpAny _ _ (storeName _ (Str.ofString "number") (Value.int (_ + ite _ _ _) _)) _ _ _); first | (refine genInt (fun N => 2117212 ≤ N) num_ge (fun n9 g9 => ?_)) | (refine genInt (fun N => 1922868 ≤ N) num_ge (fun n9 g9 => ?_)))
  k_with "eval IfExp" => (k_here; (with_reducible show wpAny _ _ (eval (PySem.Expr.IfExp _ (PySem.Expr.Constant (PySem.Const.str (Str.ofString "moveable")) _ _) _ _) _) _ _ _); (fail_if_success (with_reducible show wpAny _ _ _ (fun v _ => WayMN v ∧ _) _ _)); refine joinName ?_ (fun nm9 tk9 hnm9 => ?_))
  k_with "WayMN" => first | exact WayMN.none | exact WayMN.said _
  k_with "call ref" => (k_here; (with_reducible show wpAny _ _ (call (Value.ref 126) [Value.bool true, Value.int _ _]) _ _ _); k_dflt (refine' c_lens_t _ _ _ _ _ _ _ _ _ _ _ _ _ _ _ _ _ _ _ _ ?k1 ?k2 ?k3 ?k4 ?k5 ?k6 ?k7 ?k8 ?k9 ?_; (case k7 => trivial); walk_at "mine prem"); intro x9 fx9 gx9; walk_at "mine retL")
  k_with "call ref" => (k_here; (with_reducible show wpAny _ _ (call (Value.ref 126) [Value.bool false, Value.int _ _]) _ _ _); k_dflt (refine' c_lens_f _ _ _ _ _ _ _ _ _ _ _ _ _ _ _ _ _ _ _ _ ?k1 ?k2 ?k3 ?k4 ?k5 ?k6 ?k7 ?k8 ?k9 ?_; (case k7 => trivial); walk_at "mine prem"); intro x9 fx9 gx9; walk_at "mine retL")
  k_with "subscriptTail Name BinOp ref int" => (k_here; (with_reducible show wpAny _ _ (subscriptTail (PySem.Expr.Name (Str.ofString "lengths") _) _ (Value.ref _) (Value.int (_ - 1) _)) _ _ _); k_dflt (refine' lensItem ?kl ?k1 ?k2 ?_ ?ks; (case kl => is_list); (case k1 => omega); (case k2 => omega); (case ks => with_unfolding_all rfl)); intro v9 t9v q9; (try dsimp only))
  k_with "call ref" => (k_here; (with_reducible show wpAny _ _ (call (Value.ref 119) [Value.bool _, Value.int _ _]) _ _ _); k_dflt (refine' c_first _ _ _ _ _ _ _ _ _ _ _ _ _ _ _ _ _ _ _ _ _ ?k1 ?k2 ?k3 ?k4 ?k5 ?k6 ?k7 ?k8 ?k9 ?_; (case k7 => trivial); walk_at "mine prem"); walk_at "mine retV")
  k_with "binaryOp Add int int" => (k_here; (with_reducible show wpAny _ _ (binaryOp _ (Value.int _ _) (Value.int (List.sum (List.take (Int.toNat (_ - 1)) _)) _)) _ _ _); refine addSum (by omega) (by omega) ?_)
  k_with "call ref" => (k_here; (with_reducible show wpAny _ _ (call (Value.ref 133) [Value.int _ _]) _ _ _); k_dflt (refine' c_lawX _ _ _ _ _ _ _ _ _ _ _ _ _ _ _ _ _ _ _ _ ?k1 ?k2 ?k3 ?k4 ?k5 ?k6 ?k7 ?k8 ?k9 ?_; (case k7 => trivial); walk_at "mine prem"); intro Y9 M9 D9 hJ9; walk_at "mine retT")
  k_with "call ref" => (k_here; (with_reducible show wpAny _ _ (call (Value.ref 96) [Value.int _ _, Value.int _ _, Value.int _ _, _]) _ _ _); k_dflt (refine' c_to_jul_x _ _ _ _ _ _ _ _ _ _ _ _ ?hw _ _ _ _ _ _ _ _ _ _ _ _ _ _ _ _ _ ?k1 ?k2 ?k3 ?k4 ?k5 ?k6 ?k7 ?k8 ?k9 ?_; (case hw => with_reducible assumption); (case k7 => exact And.intro (by assumption) (by assumption)); walk_at "mine prem"); walk_at "mine retT")
  k_with "call ref" => (k_here; (with_reducible show wpAny _ _ (call (Value.ref 104) [Value.int _ _, Value.int _ _, Value.int _ _, _]) _ _ _); k_dflt (refine' c_from_jul_x _ _ _ _ _ _ _ _ _ _ _ _ ?hw _ _ _ _ _ _ _ _ _ _ _ _ _ _ _ _ _ ?k1 ?k2 ?k3 ?k4 ?k5 ?k6 ?k7 ?k8 ?k9 ?_; (case hw => with_reducible assumption); (case k7 => refine And.intro ?ka ?kb; (case kb => assumption); (case ka => assumption)); walk_at "mine prem"); walk_at "mine retT")
  k_with "call ref" => (k_here; (with_reducible show wpAny _ _ (call (Value.ref 96) [Value.int _ _, Value.int _ _, Value.int _ _, Value.str (Str.ofString "sarkawag") _]) _ _ _); k_dflt (refine' c_to_jul_s _ _ _ _ _ _ _ _ _ _ _ _ _ _ _ _ _ _ _ _ _ _ _ _ _ _ _ _ _ ?k1 ?k2 ?k3 ?k4 ?k5 ?k6 ?k7 ?k8 ?k9 ?_; (case k7 => exact And.intro (by assumption) (by assumption)); walk_at "mine prem"); walk_at "mine retT")
  k_with "call ref" => (k_here; (with_reducible show wpAny _ _ (call (Value.ref 104) [Value.int _ _, Value.int _ _, Value.int _ _, Value.str (Str.ofString "sarkawag") _]) _ _ _); k_dflt (refine' c_from_jul_s _ _ _ _ _ _ _ _ _ _ _ _ _ _ _ _ _ _ _ _ _ _ _ _ _ _ _ _ _ ?k1 ?k2 ?k3 ?k4 ?k5 ?k6 ?k7 ?k8 ?k9 ?_; (case k7 => refine And.intro ?ka ?kb; (case kb => assumption); (case ka => assumption)); walk_at "mine prem"); walk_at "mine retT")
  k_with "call ref" => (k_here; (with_reducible show wpAny _ _ (call (Value.ref 96) [Value.int _ _, Value.int 1 _, Value.int 1 _, Value.str _ _]) _ _ _); k_dflt (refine' c_to_jul_s _ _ _ _ _ _ _ _ _ _ _ _ _ _ _ _ _ _ _ _ _ _ _ _ _ _ _ _ _ ?k1 ?k2 ?k3 ?k4 ?k5 ?k6 ?k7 ?k8 ?k9 ?_; (case k7 => exact first_day (by assumption)); walk_at "mine prem"); walk_at "mine retT")
  k_with "compareOp NotEq int int" => (k_here; (with_reducible show wpAny _ _ (compareOp CmpOp.NotEq (Value.int _ _) (Value.int _ _)) _ _ _); refine neI ?ke ?_; (case ke => first | with_reducible rfl | omega))
  k_with "compareOp NotEq bool bool" => (k_here; (with_reducible show wpAny _ _ (compareOp CmpOp.NotEq (Value.bool _) (Value.bool _)) _ _ _); refine neB ?ke ?_; (case ke => first | exact leap_eq (by omega) | exact decide_eq_false (by omega)))
  k_with "call ref" => (k_here; (with_reducible show wpAny _ _ (call (Value.ref 112) [Value.int _ _, Value.int _ _, _]) _ _ _); (rename InElt _ _ => kE9); k_dflt (refine' c_mlenK_x _ _ _ _ _ _ ?hw _ _ _ _ _ _ _ _ _ _ _ _ _ _ _ _ _ ?k1 ?k2 ?k3 ?k4 ?k5 ?k6 ?k7 ?k8 ?k9 ?_; (case hw => with_reducible assumption); (case k7 => exact le13 (by assumption)); walk_at "mine prem"); intro t9 h9 tk9 F9 N9 k9; (have kE8 := eltNext kE9 k9); clear kE9 k9; (try dsimp only); (try k_fold))
  k_with "call ref" => (k_here; (with_reducible show wpAny _ _ (call (Value.ref 112) [Value.int _ _, Value.int _ _, Value.str (Str.ofString "sarkawag") _]) _ _ _); (rename InElt _ _ => kE9); k_dflt (refine' c_mlenK_s _ _ _ _ _ _ _ _ _ _ _ _ _ _ _ _ _ _ _ _ _ _ _ ?k1 ?k2 ?k3 ?k4 ?k5 ?k6 ?k7 ?k8 ?k9 ?_; (case k7 => exact And.intro (le13 (by assumption)) (by assumption)); walk_at "mine prem"); intro t9 h9 tk9 F9 N9 k9; (have kE8 := eltNext kE9 k9); clear kE9 k9; (try dsimp only); (try k_fold))
  k_with "eval Constant" => (k_here; (with_reducible show wpAny _ _ (eval (PySem.Expr.Constant (PySem.Const.bool false) _ _) _) _ _ _); (rename ¬ (List.map _ _ = _) => aX); exact absurd (lens_map (by assumption)) aX)
  k_with "storeName" => ((with_reducible show wpAny _ _ (storeName _ (Str.ofString "month") (Value.int (_ - 1) _)) _ _ _); refine genInt (fun n => MonthAt n) monthAt (fun n9 _ => ?_))
  k_with "storeName" => ((with_reducible show wpAny _ _ (storeName _ (Str.ofString "day") (Value.int (_ - 1) _)) _ _ _); refine genInt (fun n => DayAt n) dayAt (fun n9 _ => ?_))
  k_with "storeName" => ((with_reducible show wpAny _ _ (storeName _ (Str.ofString "year") (Value.int (_ + _) _)) _ _ _); (fail_if_success (with_reducible rename PastAt _ => aX)); (with_reducible rename News _ _ _ _ => nX); (replace nX := keep4 nX); refine markPast (fun aA9 => ?_))
  k_with "storeName" => ((with_reducible show wpAny _ _ (storeName _ (Str.ofString "other") _) _ _ _); (with_reducible rename News _ _ _ _ => nX); (replace nX := keep1 nX))
  k_with "exec If" => (k_here; (with_reducible show wpAny _ _ (exec (PySem.Stmt.If (PySem.Expr.Compare (PySem.Expr.Call (PySem.Expr.Name (Str.ofString "leap_armenian") _) _ _ _) _ _ _) _ _ _) _) _ _ _); (with_reducible rename News _ _ _ _ => nX); first | (replace nX := keep2 nX) | (replace nX := keep3 nX))
  k_with "isTrue BoolOp" => (k_here; (with_reducible show wpAny _ _ (isTrue (PySem.Expr.BoolOp BoolOp.And (PySem.Expr.Compare (PySem.Expr.Subscript (PySem.Expr.Name (Str.ofString "numbers") _) _ _) _ _ _ :: _) _) _ _) _ _ _); (fail_if_success (with_reducible show wpAny _ _ _ (fun r _ => (r = true ↔ _) ∧ _) _ _)); (refine' joinCond ?ha ?hm ?hd ?hx ?_ (fun tk9 hL9 b1 b2 b3 b4 => ?_) (fun tk9 hL9 => ?_); (case ha => with_reducible assumption); (case hm => with_reducible assumption); (case hd => with_reducible assumption); (case hx => with_reducible assumption)); (try dsimp only))
  k_with "And" => ((with_reducible show (_ ↔ Legal _ _ _ _) ∧ _); refine ⟨?_, _, rfl⟩; unfold Legal; first | (simp only [decide_eq_true_eq, Bool.false_eq_true, true_iff, false_iff]; omega) | (simp; omega))
  k_with "call ref" => (k_here; (with_reducible show wpAny _ _ (call (Value.ref 140) [Value.int 2 _, Value.int _ _, Value.int 14 _, Value.int 0 _, _]) _ _ _); k_dflt (refine' c_asked2 _ _ _ _ _ _ _ _ _ _ _ _ _ _ _ _ _ _ _ _ _ _ _ ?k1 ?k2 ?k3 ?k4 ?k5 ?k6 ?kX ?kT ?k7 ?k8 ?k9 ?_; (case k7 => trivial); walk_at "mine premT"); walk_at "mine retV")
  k_with "call ref" => (k_here; (with_reducible show wpAny _ _ (call (Value.ref 140) [Value.int 0 _, Value.int _ _, Value.int 0 _, Value.int 0 _, _]) _ _ _); k_dflt (refine' c_asked0_x _ _ _ _ _ _ _ ?hw _ _ _ _ _ _ _ _ _ _ _ _ _ _ _ _ ?k1 ?k2 ?k3 ?k4 ?k5 ?k6 ?kX ?kT ?k7 ?k8 ?k9 ?_; (case hw => with_reducible assumption); (case k7 => exact neg_lt (by with_reducible assumption)); walk_at "mine premT"); walk_at "mine retV")
  k_with "call ref" => (k_here; (with_reducible show wpAny _ _ (call (Value.ref 140) [Value.int 1 _, Value.int _ _, Value.int _ _, Value.int _ _, _]) _ _ _); k_dflt (refine' c_asked1r_x _ _ _ _ _ _ _ _ _ ?hw _ _ _ _ _ _ _ _ _ _ _ _ _ _ _ _ ?k1 ?k2 ?k3 ?k4 ?k5 ?k6 ?kX ?kT ?k7 ?k8 ?k9 ?_; (case hw => with_reducible assumption); (case k7 => exact refL_m (by with_reducible assumption) (by with_reducible assumption)); walk_at "mine premT"); walk_at "mine retV")
  k_with "call ref" => (k_here; (with_reducible show wpAny _ _ (call (Value.ref 140) [Value.int 1 _, Value.int _ _, Value.int _ _, Value.int _ _, _]) _ _ _); k_dflt (refine' c_asked1_x _ _ _ _ _ _ _ _ _ _ ?hw _ _ _ _ _ _ _ _ _ _ _ _ _ _ _ _ ?k1 ?k2 ?k3 ?k4 ?k5 ?k6 ?kX ?kT ?k7 ?k8 ?k9 ?_; (case hw => with_reducible assumption); (case k7 => exact mkL_m (by with_reducible assumption) (by with_reducible assumption)); walk_at "mine premT"); walk_at "mine retV")
  k_with "call ref" => (k_here; (with_reducible show wpAny _ _ (call (Value.ref 140) [Value.int 0 _, Value.int _ _, Value.int 0 _, Value.int 0 _, Value.str (Str.ofString "sarkawag") _]) _ _ _); k_dflt (refine' c_asked0_s _ _ _ _ _ _ _ _ _ _ _ _ _ _ _ _ _ _ _ _ _ _ _ ?k1 ?k2 ?k3 ?k4 ?k5 ?k6 ?kX ?kT ?k7 ?k8 ?k9 ?_; (case k7 => exact neg_lt (by with_reducible assumption)); walk_at "mine premT"); walk_at "mine retV")
  k_with "call ref" => (k_here; (with_reducible show wpAny _ _ (call (Value.ref 140) [Value.int 1 _, Value.int _ _, Value.int _ _, Value.int _ _, Value.str (Str.ofString "sarkawag") _]) _ _ _); k_dflt (refine' c_asked1r_s _ _ _ _ _ _ _ _ _ _ _ _ _ _ _ _ _ _ _ _ _ _ _ _ _ ?k1 ?k2 ?k3 ?k4 ?k5 ?k6 ?kX ?kT ?k7 ?k8 ?k9 ?_; (case k7 => exact refL_s (by with_reducible assumption) (by with_reducible assumption)); walk_at "mine premT"); walk_at "mine retV")
  k_with "call ref" => (k_here; (with_reducible show wpAny _ _ (call (Value.ref 140) [Value.int 1 _, Value.int _ _, Value.int _ _, Value.int _ _, Value.str (Str.ofString "sarkawag") _]) _ _ _); k_dflt (refine' c_asked1_s _ _ _ _ _ _ _ _ _ _ _ _ _ _ _ _ _ _ _ _ _ _ _ _ _ _ ?k1 ?k2 ?k3 ?k4 ?k5 ?k6 ?kX ?kT ?k7 ?k8 ?k9 ?_; (case k7 => exact mkL_s (by with_reducible assumption) (by with_reducible assumption)); walk_at "mine premT"); walk_at "mine retV")
  k_with "storeName" => (k_here; dsimp only)
  trivial

theorem walked : PySem.Challenge.rw_jb0009_01.Holds := hd (by
  k_go0
  all_goals try k_fold
  k_steps)

end Mine

theorem PySem.Challenge.cw_jb0009_01_holds : PySem.Challenge.rw_jb0009_01.Holds := by
  exact Mine.walked
