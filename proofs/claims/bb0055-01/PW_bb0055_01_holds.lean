import PyProof.Rows.All
import Wide.All
import OpenK.AllK
import Wide.FinOn
import PySem.Challenge.RW_bb0055_01
set_option Elab.async false
-- part HD
section
open PySem PySem.W PyProof.Rows
set_option maxRecDepth 100000
set_option maxHeartbeats 8000000
namespace Mine
open_top hd for PySem.Challenge.rw_bb0055_01
end Mine

end
theorem Mine.fresh0 : True := by (w_top off); first | (walk1; done) | trivial
-- part C0a
section
open PySem PySem.W PySem.Spec PySem.Calls PyProof.Rows
set_option maxRecDepth 100000
set_option maxHeartbeats 2000000
namespace Mine

/-! ### sizes -/
def Bd (k : Nat) (e : Int) : Prop := e.natAbs < 2 ^ k
theorem Bd.lit {e : Int} (h : e.natAbs < 2 ^ 8 := by decide) : Bd 8 e := h
theorem Bd.mul {i j : Nat} {a b : Int} (ha : Bd i a) (hb : Bd j b) : Bd (i + j) (a * b) := by
  unfold Bd at *
  rw [Int.natAbs_mul, Nat.pow_add]
  exact Nat.mul_lt_mul'' ha hb
theorem two_max {i j x : Nat} (h : x < 2 ^ i + 2 ^ j) : x < 2 ^ (i + j + 1) := by
  have h1 : 2 ^ i ≤ 2 ^ (i + j) := Nat.pow_le_pow_right (by omega) (by omega)
  have h2 : 2 ^ j ≤ 2 ^ (i + j) := Nat.pow_le_pow_right (by omega) (by omega)
  have h3 : 2 ^ (i + j + 1) = 2 ^ (i + j) * 2 := Nat.pow_succ ..
  omega
theorem Bd.add {i j : Nat} {a b : Int} (ha : Bd i a) (hb : Bd j b) : Bd (i + j + 1) (a + b) := by
  unfold Bd at *; refine two_max (i := i) (j := j) ?_; omega
theorem Bd.sub {i j : Nat} {a b : Int} (ha : Bd i a) (hb : Bd j b) : Bd (i + j + 1) (a - b) := by
  unfold Bd at *; refine two_max (i := i) (j := j) ?_; omega
theorem Bd.to64 {k : Nat} {e : Int} (h : Bd k e) (hk : k ≤ 64) : e.natAbs < 2 ^ 64 := Nat.lt_of_lt_of_le h (Nat.pow_le_pow_right (by omega) hk)
theorem Bd.ok {k : Nat} {a b : Int} (h : Bd k a) (hk : k ≤ 64) : IntMulOk a b := .of_left (intBits_le (h.to64 hk))
theorem Bd.ok' {k : Nat} {a b : Int} (h : Bd k b) (hk : k ≤ 64) : IntMulOk a b := .of_right (intBits_le (h.to64 hk))
theorem Bd.pow {k : Nat} {a : Int} {n : Nat} (ha : Bd k a) : Bd (k * n + 1) (a ^ n) := by
  unfold Bd at *
  rw [Int.natAbs_pow, Nat.pow_succ, Nat.pow_mul]
  have h1 : a.natAbs ^ n ≤ (2 ^ k) ^ n := Nat.pow_le_pow_left (Nat.le_of_lt ha) n
  have h2 : 0 < (2 ^ k) ^ n := Nat.pow_pos (Nat.pow_pos (by omega))
  omega
theorem Bd.small {e : Int} (h0 : 0 ≤ e) (h1 : e < 64) : Bd 6 e := by unfold Bd; omega

/-- the modulus -/
structure Md (P : Int) : Prop where
  two : 2 ≤ P
  up : P ≤ 43
theorem Md.ne {P : Int} (h : Md P) : P ≠ 0 := by have := h.two; omega
theorem Md.pos {P : Int} (h : Md P) : 0 < P := by have := h.two; omega
theorem Md.nn {P : Int} (h : Md P) (a : Int) : 0 ≤ a.fmod P := Int.fmod_nonneg_of_pos a h.pos
theorem Md.lt {P : Int} (h : Md P) (a : Int) : a.fmod P < P := Int.fmod_lt_of_pos a h.pos
theorem Md.b {P : Int} (h : Md P) (a : Int) : Bd 6 (a.fmod P) := by
  have h1 := h.nn a; have h2 := h.lt a; have h3 := h.up
  exact Bd.small h1 (by omega)
theorem Md.self {P : Int} (h : Md P) : Bd 6 P := by have h1 := h.two; have h3 := h.up; exact Bd.small (by omega) (by omega)

section
variable {pr : Program} {w : World} {A : Around} {E : Value → Shared → Prop} {s : Shared} {a n P : Int} {t u : Tok} {Q : Value → Shared → Prop}
theorem w_pow {k : Nat} (hn : 0 ≤ n ∧ n ≤ 16) (h : Q (.int (a ^ n.toNat) s.toks) { s with toks := s.toks + 1 }) (hb : Bd k a) (hk : k ≤ 64) :
    wpAny (model pr w) A (binaryOp .Pow (.int a t) (.int n u)) Q E s := pow_int_small hn.1 (by omega) (hb.to64 hk) h
theorem w_mul {k : Nat} (h : Q (.int (a * n) s.toks) { s with toks := s.toks + 1 }) (hb : Bd k a) (hk : k ≤ 64) :
    wpAny (model pr w) A (binaryOp .Mult (.int a t) (.int n u)) Q E s := mul_int h (hb.ok hk)
theorem w_mul' {k : Nat} (h : Q (.int (a * n) s.toks) { s with toks := s.toks + 1 }) (hb : Bd k n) (hk : k ≤ 64) :
    wpAny (model pr w) A (binaryOp .Mult (.int a t) (.int n u)) Q E s := mul_int h (hb.ok' hk)
theorem w_mod (hP : Md P) (h : Q (.int (a.fmod P) s.toks) { s with toks := s.toks + 1 }) :
    wpAny (model pr w) A (binaryOp .Mod (.int a t) (.int P u)) Q E s := mod_int' hP.ne h
end

/-! ### objects -/
abbrev tup2 (x y : Int) (t1 t2 : Tok) (c : Nat) : Obj := { cls := .type "tuple", data := .seq #[.int x t1, .int y t2] c }
abbrev tup3 (x y z : Int) (t1 t2 t3 : Tok) (c : Nat) : Obj := { cls := .type "tuple", data := .seq #[.int x t1, .int y t2, .int z t3] c }
abbrev tup6 (a b c d e f : Int) (t1 t2 t3 t4 t5 t6 : Tok) (n : Nat) : Obj := { cls := .type "tuple", data := .seq #[.int a t1, .int b t2, .int c t3, .int d t4, .int e t5, .int f t6] n }

/-- what comes back: a value over the ledger, which may have grown at its head -/
abbrev Ret (h₀ : Heap) (L : Addr) (m : Str → Option Value) (news : List (Addr × Obj)) (s : Shared) (Q : Value → Shared → Prop) (Out : Value → List (Addr × Obj) → Prop) : Prop :=
  ∀ (v : Value) (tl : List (Addr × Obj)) (h' : Heap) (tk' : Nat), Fr h₀ L h' m → News h₀ L h' (tl ++ news) → Out v (tl ++ news) → Q v { s with heap := h', toks := tk' }

/-- a call of the def at f, of frames' depth sz, within a def's frame -/
abbrev Ctr (w : World) (f : Addr) (sz : Nat) (news : List (Addr × Obj)) (vs : List Value) (Out : Value → List (Addr × Obj) → Prop) : Prop :=
  ∀ (mean : ExcName → Option Value) (mg mb : Str → Option Value) (dp un : Nat) (gd : Option (List Code)) (cn : Str) (cs : Scope) (a : Addr) (ccd : Value) (cl : List (Str × Addr)) (outer : List Env) (A₀ : Around) (base h₀ : Heap) (L : Addr) (m : Str → Option Value) (s : Shared) (Q E : Value → Shared → Prop),
    Below A₀ base outer h₀ → Fr h₀ L s.heap m → (hd.heap_39 w.params).In h₀ → News h₀ L s.heap news → Top hd.view_39 (looseW hd.view_39 []) mean mg mb h₀ → cs.kind = .function →
    dp + sz < recursionLimit → un + 8 * sz < cLine → Ret h₀ L m news s Q Out →
      wpAny (model PySem.Challenge.rw_bb0055_01.row.prog w) (ktrTop dp un gd cn cs L a ccd cl outer) (call (.ref f) vs) Q E s

/-- the value's a triple of ints on the ledger -/
abbrev IsT3 (r : Int × Int × Int) (v : Value) (l : List (Addr × Obj)) : Prop := ∃ D t1 t2 t3 c, v = .ref D ∧ (D, tup3 r.1 r.2.1 r.2.2 t1 t2 t3 c) ∈ l
abbrev IsT2 (r : Int × Int) (v : Value) (l : List (Addr × Obj)) : Prop := ∃ D t1 t2 c, v = .ref D ∧ (D, tup2 r.1 r.2 t1 t2 c) ∈ l

theorem ret3 {h₀ h' : Heap} {L D : Addr} {m : Str → Option Value} {news : List (Addr × Obj)} {s : Shared} {Q : Value → Shared → Prop} {r : Int × Int × Int} {x y z : Int} {t1 t2 t3 : Tok} {c tk' : Nat}
    (hret : Ret h₀ L m news s Q (IsT3 r)) (F : Fr h₀ L h' m) (N : News h₀ L h' ((D, tup3 x y z t1 t2 t3 c) :: news)) (e : r = (x, y, z)) : Q (.ref D) { s with heap := h', toks := tk' } := by
  subst e
  exact hret _ [_] _ _ F N ⟨D, t1, t2, t3, c, rfl, List.Mem.head _⟩
/-- one of the ledger's comes back -/
theorem ret3' {h₀ h' : Heap} {L D : Addr} {m : Str → Option Value} {news tl : List (Addr × Obj)} {s : Shared} {Q : Value → Shared → Prop} {r : Int × Int × Int} {x y z : Int} {t1 t2 t3 : Tok} {c tk' : Nat}
    (hret : Ret h₀ L m news s Q (IsT3 r)) (F : Fr h₀ L h' m) (N : News h₀ L h' (tl ++ news)) (hm : (D, tup3 x y z t1 t2 t3 c) ∈ tl ++ news) (e : r = (x, y, z)) : Q (.ref D) { s with heap := h', toks := tk' } := by
  subst e
  exact hret _ tl _ _ F N ⟨D, t1, t2, t3, c, rfl, hm⟩

def dblF (P A x y z : Int) : Int × Int × Int :=
  if y = 0 then (0, 0, 0) else
  let ysq := (y ^ 2).fmod P
  let S := (4 * x * ysq).fmod P
  let M := (3 * x ^ 2 + A * z ^ 4).fmod P
  let nx := (M ^ 2 - 2 * S).fmod P
  let ny := (M * (S - nx) - 8 * ysq ^ 2).fmod P
  let nz := (2 * y * z).fmod P
  (nx, ny, nz)

local macro_rules | `(tactic| walk_at "binaryOp Mod int int") => `(tactic| (k_here; (with_reducible refine w_mod (by assumption) ?_)))
local macro_rules | `(tactic| walk_at "binaryOp Pow int int") => `(tactic| (k_here; (with_reducible refine' w_pow ?k1 ?_ ?k3 ?k4); (case k1 => decide); (case k3 => (repeat' (first | with_reducible apply Bd.mul | with_reducible apply Bd.add | with_reducible apply Bd.sub | with_reducible exact Md.b (by assumption) _ | with_reducible exact Md.self (by assumption) | exact Bd.lit | with_reducible assumption))); (case k4 => decide)))
local macro_rules | `(tactic| walk_at "binaryOp Mult int int") => `(tactic| (k_here; first
  | ((with_reducible refine' w_mul ?_ ?k3 ?k4); (case k3 => (repeat' (first | with_reducible apply Bd.mul | with_reducible apply Bd.add | with_reducible apply Bd.sub | with_reducible exact Md.b (by assumption) _ | with_reducible exact Md.self (by assumption) | exact Bd.lit | with_reducible assumption))); (case k4 => decide))
  | ((with_reducible refine' w_mul' ?_ ?k3 ?k4); (case k3 => (repeat' (first | with_reducible apply Bd.mul | with_reducible apply Bd.add | with_reducible apply Bd.sub | with_reducible exact Md.b (by assumption) _ | with_reducible exact Md.self (by assumption) | exact Bd.lit | with_reducible assumption))); (case k4 => decide))))

theorem dbl (w : World) (news : List (Addr × Obj)) (D C : Addr) (P N A B' Gx Gy x y z : Int) (t1 t2 t3 : Tok) (c : Nat) (u1 u2 u3 u4 u5 u6 : Tok) (cc : Nat)
   (hm : (D, tup3 x y z t1 t2 t3 c) ∈ news) (hc : (C, tup6 P N A B' Gx Gy u1 u2 u3 u4 u5 u6 cc) ∈ news) (hP : Md P) (hx : Bd 6 x) (hy : Bd 6 y) (hz : Bd 6 z) (hA : Bd 6 A) :
    Ctr w 35 1 news [.ref D, .ref C] (IsT3 (dblF P A x y z)) := by
  unfold Ctr
  k_fill
  intro mean mg mb dp un gd cn cs a ccd cl outer A₀ base h₀ L m s Q E B F X N T hk hdp hun hret
  refine wpAny_call ?_
  k_dflt ktr_enter
  k_steps
  · exact ret3 hret (by assumption) (by assumption) (if_neg (by assumption))
  · exact ret3 hret (by assumption) (by assumption) (if_pos (by assumption))

theorem dbl_B {P A x y z : Int} (hP : Md P) : Bd 6 (dblF P A x y z).1 ∧ Bd 6 (dblF P A x y z).2.1 ∧ Bd 6 (dblF P A x y z).2.2 := by
  unfold dblF
  split
  · exact ⟨Bd.small (by decide) (by decide), Bd.small (by decide) (by decide), Bd.small (by decide) (by decide)⟩
  · exact ⟨hP.b _, hP.b _, hP.b _⟩

def addF (P A x y z x' y' z' : Int) : Int × Int × Int :=
  if y = 0 then (x', y', z') else
  if y' = 0 then (x, y, z) else
  let U1 := (x * z' ^ 2).fmod P
  let U2 := (x' * z ^ 2).fmod P
  let S1 := (y * z' ^ 3).fmod P
  let S2 := (y' * z ^ 3).fmod P
  if U1 = U2 then (if S1 = S2 then dblF P A x y z else (0, 0, 1)) else
  let H := U2 - U1
  let R := S2 - S1
  let H2 := (H * H).fmod P
  let H3 := (H * H2).fmod P
  let U1H2 := (U1 * H2).fmod P
  let nx := (R ^ 2 - H3 - 2 * U1H2).fmod P
  let ny := (R * (U1H2 - nx) - S1 * H3).fmod P
  let nz := (H * z * z').fmod P
  (nx, ny, nz)

local macro_rules | `(tactic| walk_at "call ref") => `(tactic| (k_here; (with_reducible show wpAny _ _ (call (Value.ref 35) [Value.ref _, Value.ref _]) _ _ _); k_dflt (refine' dbl _ _ _ _ _ _ _ _ _ _ _ _ _ _ _ _ _ _ _ _ _ _ _ _ ?hm ?hc ?hP ?hx ?hy ?hz ?hA _ _ _ _ _ _ _ _ _ _ _ _ _ _ _ _ _ _ _ _ ?k1 ?k2 ?k3 ?k4 ?k5 ?kK ?kd ?ku ?_); (case k1 => k_asm); (case k2 => k_asm); (case k3 => k_asm); (case k4 => k_asm); (case k5 => k_asm); (case kK => first | exact rfl | assumption); (case hm => first | assumption | k_mem); (case hc => first | assumption | k_mem); (case hP => assumption); (case hx => assumption); (case hy => assumption); (case hz => assumption); (case hA => assumption); (case kd => ktr_room); (case ku => ktr_units); intro v9 tl9 h9 tk9 F9 N9 hout9; rcases hout9 with ⟨D9, t91, t92, t93, c9, e9, hm9⟩; subst e9; (try dsimp only); (try k_fold)))

end Mine

end
theorem Mine.fresh1 : True := by (w_top off); first | (walk1; done) | trivial
-- part C1
section
open PySem PySem.W PySem.Spec PySem.Calls PyProof.Rows
set_option maxRecDepth 100000
set_option maxHeartbeats 2000000
namespace Mine
local macro_rules | `(tactic| walk_at "binaryOp Mod int int") => `(tactic| (k_here; (with_reducible refine w_mod (by assumption) ?_)))
local macro_rules | `(tactic| walk_at "binaryOp Pow int int") => `(tactic| (k_here; (with_reducible refine' w_pow ?k1 ?_ ?k3 ?k4); (case k1 => decide); (case k3 => (repeat' (first | with_reducible apply Bd.mul | with_reducible apply Bd.add | with_reducible apply Bd.sub | with_reducible exact Md.b (by assumption) _ | with_reducible exact Md.self (by assumption) | exact Bd.lit | with_reducible assumption))); (case k4 => decide)))
local macro_rules | `(tactic| walk_at "binaryOp Mult int int") => `(tactic| (k_here; first
  | ((with_reducible refine' w_mul ?_ ?k3 ?k4); (case k3 => (repeat' (first | with_reducible apply Bd.mul | with_reducible apply Bd.add | with_reducible apply Bd.sub | with_reducible exact Md.b (by assumption) _ | with_reducible exact Md.self (by assumption) | exact Bd.lit | with_reducible assumption))); (case k4 => decide))
  | ((with_reducible refine' w_mul' ?_ ?k3 ?k4); (case k3 => (repeat' (first | with_reducible apply Bd.mul | with_reducible apply Bd.add | with_reducible apply Bd.sub | with_reducible exact Md.b (by assumption) _ | with_reducible exact Md.self (by assumption) | exact Bd.lit | with_reducible assumption))); (case k4 => decide))))
local macro_rules | `(tactic| walk_at "call ref") => `(tactic| (k_here; (with_reducible show wpAny _ _ (call (Value.ref 35) [Value.ref _, Value.ref _]) _ _ _); k_dflt (refine' dbl _ _ _ _ _ _ _ _ _ _ _ _ _ _ _ _ _ _ _ _ _ _ _ _ ?hm ?hc ?hP ?hx ?hy ?hz ?hA _ _ _ _ _ _ _ _ _ _ _ _ _ _ _ _ _ _ _ _ ?k1 ?k2 ?k3 ?k4 ?k5 ?kK ?kd ?ku ?_); (case k1 => k_asm); (case k2 => k_asm); (case k3 => k_asm); (case k4 => k_asm); (case k5 => k_asm); (case kK => first | exact rfl | assumption); (case hm => first | assumption | k_mem); (case hc => first | assumption | k_mem); (case hP => assumption); (case hx => assumption); (case hy => assumption); (case hz => assumption); (case hA => assumption); (case kd => ktr_room); (case ku => ktr_units); intro v9 tl9 h9 tk9 F9 N9 hout9; rcases hout9 with ⟨D9, t91, t92, t93, c9, e9, hm9⟩; subst e9; (try dsimp only); (try k_fold)))
theorem add (w : World) (news : List (Addr × Obj)) (D D2 C : Addr) (P N A B' Gx Gy x y z x' y' z' : Int) (t1 t2 t3 : Tok) (c : Nat) (t1' t2' t3' : Tok) (c' : Nat) (u1 u2 u3 u4 u5 u6 : Tok) (cc : Nat)
   (hm : (D, tup3 x y z t1 t2 t3 c) ∈ news) (hm' : (D2, tup3 x' y' z' t1' t2' t3' c') ∈ news) (hc : (C, tup6 P N A B' Gx Gy u1 u2 u3 u4 u5 u6 cc) ∈ news) (hP : Md P) (hx : Bd 6 x) (hy : Bd 6 y) (hz : Bd 6 z) (hx' : Bd 6 x') (hy' : Bd 6 y') (hz' : Bd 6 z') (hA : Bd 6 A) :
    Ctr w 42 2 news [.ref D, .ref D2, .ref C] (IsT3 (addF P A x y z x' y' z')) := by
  unfold Ctr
  k_fill
  intro mean mg mb dp un gd cn cs a ccd cl outer A₀ base h₀ L m s Q E B F X N T hk hdp hun hret
  refine wpAny_call ?_
  k_dflt ktr_enter
  k_steps
  · exact ret3 hret (by assumption) (by assumption) ((if_neg (by assumption)).trans ((if_neg (by assumption)).trans ((if_pos (by assumption)).trans (if_neg (by assumption)))))
  · exact ret3' hret (by assumption) (by assumption) (by assumption) ((if_neg (by assumption)).trans ((if_neg (by assumption)).trans ((if_pos (by assumption)).trans (if_pos (by assumption)))))
  · exact ret3 hret (by assumption) (by assumption) ((if_neg (by assumption)).trans ((if_neg (by assumption)).trans (if_neg (by assumption))))
  · exact ret3' (tl := []) hret (by assumption) (by assumption) hm ((if_neg (by assumption)).trans (if_pos (by assumption)))
  · exact ret3' (tl := []) hret (by assumption) (by assumption) hm' (if_pos (by assumption))
end Mine

end
theorem Mine.fresh2 : True := by (w_top off); first | (walk1; done) | trivial
-- part C2
section
open PySem PySem.W PySem.Spec PySem.Calls PyProof.Rows
set_option maxRecDepth 100000
set_option maxHeartbeats 2000000
namespace Mine

def invL : Nat → Int → Int → Int → Int → Int
  | 0, lm, _, _, _ => lm
  | f + 1, lm, hm, low, high => if 1 < low then invL f (hm - lm * (high.fdiv low)) lm (high - low * (high.fdiv low)) low else lm
def invF (a n : Int) : Int := if a = 0 then 0 else (invL 64 1 0 (a.fmod n) n).fmod n

theorem fdiv_nn {h l : Int} (h0 : 0 ≤ h) (l0 : 1 < l) : 0 ≤ h.fdiv l := by
  rw [Int.fdiv_eq_ediv_of_nonneg _ (by omega)]; exact Int.ediv_nonneg h0 (by omega)
theorem fdiv_le {h l : Int} (h0 : 0 ≤ h) (l0 : 1 < l) : h.fdiv l ≤ h := by
  rw [Int.fdiv_eq_ediv_of_nonneg _ (by omega)]; exact Int.ediv_le_self _ h0
theorem Bd.fdiv {h l : Int} (h0 : 0 ≤ h ∧ h < 64) (l0 : 1 < l) : Bd 6 (h.fdiv l) := Bd.small (fdiv_nn h0.1 l0) (by have := fdiv_le h0.1 l0; omega)
theorem rest_eq {h l : Int} (l0 : 1 < l) : h - l * (h.fdiv l) = h % l := by
  rw [Int.fdiv_eq_ediv_of_nonneg _ (by omega), Int.emod_def]

def invP (T lm hm low high : Int) : Prop := 0 ≤ low ∧ low < 64 ∧ 0 ≤ high ∧ high < 64 ∧ ∃ f : Nat, low.toNat ≤ f ∧ invL f lm hm low high = T
theorem invP.start {a n : Int} (hn : Md n) : invP (invL 64 1 0 (a.fmod n) n) 1 0 (a.fmod n) n := by
  have := hn.nn a; have := hn.lt a; have := hn.up; have := hn.two
  exact ⟨by omega, by omega, by omega, by omega, 64, by omega, rfl⟩
theorem invP.turn {T lm hm low high : Int} (h : invP T lm hm low high) (l : 1 < low) : invP T (hm - lm * (high.fdiv low)) lm (high - low * (high.fdiv low)) low := by
  obtain ⟨h1, h2, h3, h4, f, hf, e⟩ := h
  have hm := Int.emod_lt_of_pos high (show 0 < low by omega)
  have hn := Int.emod_nonneg high (show low ≠ 0 by omega)
  cases f with
  | zero => omega
  | succ f =>
    refine ⟨by rw [rest_eq l]; exact hn, by rw [rest_eq l]; omega, h1, h2, f, by rw [rest_eq l]; omega, ?_⟩
    rw [← e]
    exact (if_pos l).symm
theorem invP.less {T lm hm low high : Int} (_ : invP T lm hm low high) (l : 1 < low) : (high - low * (high.fdiv low)).toNat < low.toNat := by
  have hm := Int.emod_lt_of_pos high (show 0 < low by omega)
  rw [rest_eq l]; omega
theorem invP.done {T lm hm low high : Int} (h : invP T lm hm low high) (l : ¬ 1 < low) : lm = T := by
  obtain ⟨h1, h2, h3, h4, f, hf, e⟩ := h
  cases f with
  | zero => exact e
  | succ f => rw [← e]; exact (if_neg l).symm
theorem invP.b {T lm hm low high : Int} (h : invP T lm hm low high) (l : 1 < low) : Bd 6 (high.fdiv low) := Bd.fdiv ⟨h.2.2.1, h.2.2.2.1⟩ l

theorem invP.ne {T lm hm low high : Int} (h : invP T lm hm low high) (l : 1 < low) : low ≠ 0 ∧ low.natAbs < 1073741824 := by
  have := h.1; have := h.2.1; omega
theorem w_fdiv {pr : Program} {w : World} {A : Around} {E : Value → Shared → Prop} {s : Shared} {a b : Int} {t u : Tok} {Q : Value → Shared → Prop} (hb : b ≠ 0 ∧ b.natAbs < 1073741824)
    (h : Q (.int (a.fdiv b) s.toks) { s with toks := s.toks + 1 }) : wpAny (model pr w) A (binaryOp .FloorDiv (.int a t) (.int b u)) Q E s :=
  floordiv_int hb.1 h (Or.inl (PyProof.noPylong_small hb.2))

theorem ret1 {h₀ h' : Heap} {L : Addr} {m : Str → Option Value} {news tl : List (Addr × Obj)} {s : Shared} {Q : Value → Shared → Prop} {r x : Int} {t : Tok} {tk' : Nat}
    (hret : Ret h₀ L m news s Q (fun v _ => ∃ t, v = .int r t)) (F : Fr h₀ L h' m) (N : News h₀ L h' (tl ++ news)) (e : r = x) : Q (.int x t) { s with heap := h', toks := tk' } := by
  subst e
  exact hret _ tl _ _ F N ⟨t, rfl⟩
local macro_rules | `(tactic| walk_at "binaryOp Mod int int") => `(tactic| (k_here; (with_reducible refine w_mod (by assumption) ?_)))
local macro_rules | `(tactic| walk_at "binaryOp Pow int int") => `(tactic| (k_here; (with_reducible refine' w_pow ?k1 ?_ ?k3 ?k4); (case k1 => decide); (case k3 => (repeat' (first | with_reducible apply Bd.mul | with_reducible apply Bd.add | with_reducible apply Bd.sub | with_reducible exact Md.b (by assumption) _ | with_reducible exact Md.self (by assumption) | exact Bd.lit | exact invP.b (by assumption) (by omega) | with_reducible assumption))); (case k4 => decide)))
local macro_rules | `(tactic| walk_at "binaryOp Mult int int") => `(tactic| (k_here; first
  | ((with_reducible refine' w_mul ?_ ?k3 ?k4); (case k3 => (repeat' (first | with_reducible apply Bd.mul | with_reducible apply Bd.add | with_reducible apply Bd.sub | with_reducible exact Md.b (by assumption) _ | with_reducible exact Md.self (by assumption) | exact Bd.lit | exact invP.b (by assumption) (by omega) | with_reducible assumption))); (case k4 => decide))
  | ((with_reducible refine' w_mul' ?_ ?k3 ?k4); (case k3 => (repeat' (first | with_reducible apply Bd.mul | with_reducible apply Bd.add | with_reducible apply Bd.sub | with_reducible exact Md.b (by assumption) _ | with_reducible exact Md.self (by assumption) | exact Bd.lit | exact invP.b (by assumption) (by omega) | with_reducible assumption))); (case k4 => decide))))
local macro_rules | `(tactic| walk_at "binaryOp FloorDiv int int") => `(tactic| (k_here; with_reducible refine w_fdiv (invP.ne (by assumption) (by omega)) ?_))
theorem inv (w : World) (news : List (Addr × Obj)) (x n : Int) (t1 t2 : Tok) (hn : Md n) :
    Ctr w 21 1 news [.int x t1, .int n t2] (fun v _ => ∃ t, v = .int (invF x n) t) := by
  unfold Ctr
  k_fill
  intro mean mg mb dp un gd cn cs a ccd cl outer A₀ base h₀ L m s Q E B F X N T hk hdp hun hret
  refine wpAny_call ?_
  k_dflt ktr_enter
  (k_with "exec While Compare cons nil" => k_while (fun _ lm hm low high => invP (invL 64 1 0 (x.fmod n) n) lm hm low high) (fun _ _ _ low _ => low.toNat) "lm" "hm" "low" "high")
  (k_with "state" => first | exact invP.start hn | exact invP.turn (by assumption) (by omega))
  (k_with "measure" => exact invP.less (by assumption) (by omega))
  k_steps
  · exact ret1 (tl := []) hret (by assumption) (by assumption) (if_pos (by assumption))
  · refine ret1 (tl := [_, _]) hret (by assumption) (by assumption) ((if_neg (by assumption)).trans ?_)
    exact congrArg (Int.fmod · n) (invP.done (by assumption) (by assumption)).symm
end Mine

end
theorem Mine.fresh3 : True := by (w_top off); first | (walk1; done) | trivial
-- part C3
section
open PySem PySem.W PySem.Spec PySem.Calls PyProof.Rows
set_option maxRecDepth 100000
set_option maxHeartbeats 2000000
namespace Mine

theorem Ctr.use {w : World} {f : Addr} {sz : Nat} {news : List (Addr × Obj)} {vs : List Value} {Out : Value → List (Addr × Obj) → Prop} (h : Ctr w f sz news vs Out)
    {mean : ExcName → Option Value} {mg mb : Str → Option Value} {dp un : Nat} {gd : Option (List Code)} {cn : Str} {cs : Scope} {a : Addr} {ccd : Value} {cl : List (Str × Addr)} {outer : List Env} {A₀ : Around} {base h₀ : Heap} {L : Addr} {m : Str → Option Value} {s : Shared} {Q E : Value → Shared → Prop}
    (k1 : Below A₀ base outer h₀) (k2 : Fr h₀ L s.heap m) (k3 : (hd.heap_39 w.params).In h₀) (k4 : News h₀ L s.heap news) (k5 : Top hd.view_39 (looseW hd.view_39 []) mean mg mb h₀) (kK : cs.kind = .function)
    (kd : dp + sz < recursionLimit) (ku : un + 8 * sz < cLine) (ret : Ret h₀ L m news s Q Out) :
      wpAny (model PySem.Challenge.rw_bb0055_01.row.prog w) (ktrTop dp un gd cn cs L a ccd cl outer) (call (.ref f) vs) Q E s := h _ _ _ _ _ _ _ _ _ _ _ _ _ _ _ _ _ _ _ _ k1 k2 k3 k4 k5 kK kd ku ret

theorem ret2 {h₀ h' : Heap} {L D : Addr} {m : Str → Option Value} {news tl : List (Addr × Obj)} {s : Shared} {Q : Value → Shared → Prop} {r : Int × Int} {x y : Int} {t1 t2 : Tok} {c tk' : Nat}
    (hret : Ret h₀ L m news s Q (IsT2 r)) (F : Fr h₀ L h' m) (N : News h₀ L h' ((D, tup2 x y t1 t2 c) :: (tl ++ news))) (e : r = (x, y)) : Q (.ref D) { s with heap := h', toks := tk' } := by
  subst e
  exact hret _ (_ :: tl) _ _ F N ⟨D, t1, t2, c, rfl, List.Mem.head _⟩

def fromF (P x y z : Int) : Int × Int := ((x * invF z P ^ 2).fmod P, (y * invF z P ^ 3).fmod P)
theorem invF_B {z P : Int} (hP : Md P) : Bd 6 (invF z P) := by
  unfold invF; split
  · exact Bd.small (by decide) (by decide)
  · exact hP.b _

local macro_rules | `(tactic| walk_at "binaryOp Mod int int") => `(tactic| (k_here; (with_reducible refine w_mod (by assumption) ?_)))
local macro_rules | `(tactic| walk_at "binaryOp Pow int int") => `(tactic| (k_here; (with_reducible refine' w_pow ?k1 ?_ ?k3 ?k4); (case k1 => decide); (case k3 => (repeat' (first | with_reducible apply Bd.mul | with_reducible apply Bd.add | with_reducible apply Bd.sub | with_reducible exact Md.b (by assumption) _ | with_reducible exact Md.self (by assumption) | with_reducible exact invF_B (by assumption) | exact Bd.lit | with_reducible assumption))); (case k4 => decide)))
local macro_rules | `(tactic| walk_at "binaryOp Mult int int") => `(tactic| (k_here; first
  | ((with_reducible refine' w_mul ?_ ?k3 ?k4); (case k3 => (repeat' (first | with_reducible apply Bd.mul | with_reducible apply Bd.add | with_reducible apply Bd.sub | with_reducible exact Md.b (by assumption) _ | with_reducible exact Md.self (by assumption) | with_reducible exact invF_B (by assumption) | exact Bd.lit | with_reducible assumption))); (case k4 => decide))
  | ((with_reducible refine' w_mul' ?_ ?k3 ?k4); (case k3 => (repeat' (first | with_reducible apply Bd.mul | with_reducible apply Bd.add | with_reducible apply Bd.sub | with_reducible exact Md.b (by assumption) _ | with_reducible exact Md.self (by assumption) | with_reducible exact invF_B (by assumption) | exact Bd.lit | with_reducible assumption))); (case k4 => decide))))
local macro_rules | `(tactic| walk_at "call ref") => `(tactic| (k_here; (with_reducible show wpAny _ _ (call (Value.ref 21) [Value.int _ _, Value.int _ _]) _ _ _); k_dflt (refine' Ctr.use (inv _ _ _ _ _ _ ?hP) ?k1 ?k2 ?k3 ?k4 ?k5 ?kK ?kd ?ku ?_); (case k1 => k_asm); (case k2 => k_asm); (case k3 => k_asm); (case k4 => k_asm); (case k5 => k_asm); (case kK => first | exact rfl | assumption); (case hP => assumption); (case kd => ktr_room); (case ku => ktr_units); intro v9 tl9 h9 tk9 F9 N9 hout9; rcases hout9 with ⟨t9, e9⟩; subst e9; (try dsimp only); (try k_fold)))

theorem fromJ (w : World) (news : List (Addr × Obj)) (D C : Addr) (P N A B' Gx Gy x y z : Int) (t1 t2 t3 : Tok) (c : Nat) (u1 u2 u3 u4 u5 u6 : Tok) (cc : Nat)
   (hm : (D, tup3 x y z t1 t2 t3 c) ∈ news) (hc : (C, tup6 P N A B' Gx Gy u1 u2 u3 u4 u5 u6 cc) ∈ news) (hP : Md P) (hx : Bd 6 x) (hy : Bd 6 y) (hz : Bd 6 z) :
    Ctr w 49 2 news [.ref D, .ref C] (IsT2 (fromF P x y z)) := by
  unfold Ctr
  k_fill
  intro mean mg mb dp un gd cn cs a ccd cl outer A₀ base h₀ L m s Q E B F X N T hk hdp hun hret
  refine wpAny_call ?_
  k_dflt ktr_enter
  k_steps
  exact ret2 hret (by assumption) (by assumption) rfl
end Mine

end
theorem Mine.fresh4 : True := by (w_top off); first | (walk1; done) | trivial
-- part C4
section
open PySem PySem.W PySem.Spec PySem.Calls PyProof.Rows
set_option maxRecDepth 100000
set_option maxHeartbeats 2000000
namespace Mine

/-- l is news with something ahead -/
def Suf (l news : List (Addr × Obj)) : Prop := ∃ tl, l = tl ++ news
theorem Suf.refl {news : List (Addr × Obj)} : Suf news news := ⟨[], rfl⟩
theorem Suf.app {a l news : List (Addr × Obj)} (h : Suf l news) : Suf (a ++ l) news := by
  obtain ⟨tl, rfl⟩ := h; exact ⟨a ++ tl, (List.append_assoc _ _ _).symm⟩
theorem Suf.cons {p : Addr × Obj} {l news : List (Addr × Obj)} (h : Suf l news) : Suf (p :: l) news := by
  obtain ⟨tl, rfl⟩ := h; exact ⟨p :: tl, rfl⟩
theorem ret3s {h₀ h' : Heap} {L D : Addr} {m : Str → Option Value} {news l : List (Addr × Obj)} {s : Shared} {Q : Value → Shared → Prop} {r : Int × Int × Int} {x y z : Int} {t1 t2 t3 : Tok} {c tk' : Nat}
    (hret : Ret h₀ L m news s Q (IsT3 r)) (F : Fr h₀ L h' m) (N : News h₀ L h' l) (hm : (D, tup3 x y z t1 t2 t3 c) ∈ l) (hs : Suf l news) (e : r = (x, y, z)) : Q (.ref D) { s with heap := h', toks := tk' } := by
  obtain ⟨tl, rfl⟩ := hs
  exact ret3' hret F N hm e
theorem ret2s {h₀ h' : Heap} {L D : Addr} {m : Str → Option Value} {news l : List (Addr × Obj)} {s : Shared} {Q : Value → Shared → Prop} {r : Int × Int} {x y : Int} {t1 t2 : Tok} {c tk' : Nat}
    (hret : Ret h₀ L m news s Q (IsT2 r)) (F : Fr h₀ L h' m) (N : News h₀ L h' l) (hm : (D, tup2 x y t1 t2 c) ∈ l) (hs : Suf l news) (e : r = (x, y)) : Q (.ref D) { s with heap := h', toks := tk' } := by
  obtain ⟨tl, rfl⟩ := hs
  subst e
  exact hret _ tl _ _ F N ⟨D, t1, t2, c, rfl, hm⟩

def mulJ (P A x y : Int) : Nat → Int → Int × Int × Int
  | 0, _ => (0, 0, 1)
  | f + 1, n =>
    if n = 0 then (0, 0, 1) else if n = 1 then (x, y, 1) else
    let d := mulJ P A x y f (n.fdiv 2)
    let e := dblF P A d.1 d.2.1 d.2.2
    if n.fmod 2 = 0 then e else addF P A e.1 e.2.1 e.2.2 x y 1

theorem b0 : Bd 6 0 := Bd.small (by decide) (by decide)
theorem b1 : Bd 6 1 := Bd.small (by decide) (by decide)
theorem add_B {P A x y z x' y' z' : Int} (hP : Md P) (h1 : Bd 6 x ∧ Bd 6 y ∧ Bd 6 z) (h2 : Bd 6 x' ∧ Bd 6 y' ∧ Bd 6 z') : Bd 6 (addF P A x y z x' y' z').1 ∧ Bd 6 (addF P A x y z x' y' z').2.1 ∧ Bd 6 (addF P A x y z x' y' z').2.2 := by
  unfold addF
  split
  · exact h2
  split
  · exact h1
  dsimp only
  split
  · split
    · exact dbl_B hP
    · exact ⟨b0, b0, b1⟩
  · exact ⟨hP.b _, hP.b _, hP.b _⟩
theorem mulJ_B {P A x y : Int} (hP : Md P) (hx : Bd 6 x) (hy : Bd 6 y) : ∀ {f : Nat} {n : Int}, Bd 6 (mulJ P A x y f n).1 ∧ Bd 6 (mulJ P A x y f n).2.1 ∧ Bd 6 (mulJ P A x y f n).2.2
  | 0, _ => ⟨b0, b0, b1⟩
  | f + 1, n => by
    unfold mulJ
    split
    · exact ⟨b0, b0, b1⟩
    split
    · exact ⟨hx, hy, b1⟩
    dsimp only
    split
    · exact dbl_B hP
    · exact add_B hP (dbl_B hP) ⟨hx, hy, b1⟩

theorem half_ok {f : Nat} {N n : Int} (h : 0 ≤ n ∧ n < N ∧ n < 2 ^ (f + 1)) (h0 : n ≠ 0) (h1 : n ≠ 1) : 0 ≤ n.fdiv 2 ∧ n.fdiv 2 < N ∧ n.fdiv 2 < 2 ^ f := by
  have e : n.fdiv 2 = n / 2 := Int.fdiv_eq_ediv_of_nonneg _ (by omega)
  have h3 : (2 : Int) ^ (f + 1) = 2 ^ f * 2 := Int.pow_succ ..
  rw [e]; omega
theorem mod_two {n : Int} (h : ¬ n.fmod 2 = 0) : n.fmod 2 = 1 := by
  have e : n.fmod 2 = n % 2 := Int.fmod_eq_emod_of_nonneg _ (by omega)
  omega

def MulOK (w : World) (f : Nat) : Prop := ∀ (news : List (Addr × Obj)) (D C : Addr) (P N A B' Gx Gy x y n : Int) (t1 t2 t3 t4 : Tok) (c : Nat) (u1 u2 u3 u4 u5 u6 : Tok) (cc : Nat)
   (_ : (D, tup3 x y 1 t1 t2 t3 c) ∈ news) (_ : (C, tup6 P N A B' Gx Gy u1 u2 u3 u4 u5 u6 cc) ∈ news) (_ : Md P) (_ : Bd 6 x) (_ : Bd 6 y) (_ : Bd 6 A) (_ : y ≠ 0) (_ : 0 ≤ n ∧ n < N ∧ n < 2 ^ f),
    Ctr w 56 (f + 3) news [.ref D, .int n t4, .ref C] (IsT3 (mulJ P A x y f n))
theorem MulOK.use {w : World} {f : Nat} (h : MulOK w f) {news : List (Addr × Obj)} {D C : Addr} {P N A B' Gx Gy x y n : Int} {t1 t2 t3 t4 : Tok} {c : Nat} {u1 u2 u3 u4 u5 u6 : Tok} {cc : Nat}
   (hm : (D, tup3 x y 1 t1 t2 t3 c) ∈ news) (hc : (C, tup6 P N A B' Gx Gy u1 u2 u3 u4 u5 u6 cc) ∈ news) (hP : Md P) (hx : Bd 6 x) (hy : Bd 6 y) (hA : Bd 6 A) (hy0 : y ≠ 0) (hn : 0 ≤ n ∧ n < N ∧ n < 2 ^ f) :
    Ctr w 56 (f + 3) news [.ref D, .int n t4, .ref C] (IsT3 (mulJ P A x y f n)) := h _ _ _ _ _ _ _ _ _ _ _ _ _ _ _ _ _ _ _ _ _ _ _ _ hm hc hP hx hy hA hy0 hn

local macro_rules | `(tactic| walk_at "call ref") => `(tactic| (k_here; (with_reducible show wpAny _ _ (call (Value.ref 35) [Value.ref _, Value.ref _]) _ _ _); k_dflt (refine' Ctr.use (dbl _ _ _ _ _ _ _ _ _ _ _ _ _ _ _ _ _ _ _ _ _ _ _ _ ?hm ?hc ?hP ?hx ?hy ?hz ?hA) ?k1 ?k2 ?k3 ?k4 ?k5 ?kK ?kd ?ku ?_); (case k1 => k_asm); (case k2 => k_asm); (case k3 => k_asm); (case k4 => k_asm); (case k5 => k_asm); (case kK => first | exact rfl | assumption); (case hm => first | assumption | ((repeat (refine List.mem_append.mpr (Or.inr ?_))); assumption) | k_mem); (case hc => first | assumption | ((repeat (refine List.mem_append.mpr (Or.inr ?_))); assumption) | k_mem); (case hP => assumption); (case hx => first | assumption | exact (dbl_B (by assumption)).1 | exact (dbl_B (by assumption)).2.1 | exact (dbl_B (by assumption)).2.2 | exact (mulJ_B (by assumption) (by assumption) (by assumption)).1 | exact (mulJ_B (by assumption) (by assumption) (by assumption)).2.1 | exact (mulJ_B (by assumption) (by assumption) (by assumption)).2.2 | exact b1 | exact b0); (case hy => first | assumption | exact (dbl_B (by assumption)).1 | exact (dbl_B (by assumption)).2.1 | exact (dbl_B (by assumption)).2.2 | exact (mulJ_B (by assumption) (by assumption) (by assumption)).1 | exact (mulJ_B (by assumption) (by assumption) (by assumption)).2.1 | exact (mulJ_B (by assumption) (by assumption) (by assumption)).2.2 | exact b1 | exact b0); (case hz => first | assumption | exact (dbl_B (by assumption)).1 | exact (dbl_B (by assumption)).2.1 | exact (dbl_B (by assumption)).2.2 | exact (mulJ_B (by assumption) (by assumption) (by assumption)).1 | exact (mulJ_B (by assumption) (by assumption) (by assumption)).2.1 | exact (mulJ_B (by assumption) (by assumption) (by assumption)).2.2 | exact b1 | exact b0); (case hA => assumption); (case kd => ktr_room); (case ku => ktr_units); intro v9 tl9 h9 tk9 F9 N9 hout9; rcases hout9 with ⟨D9, t91, t92, t93, c9, e9, hm9⟩; subst e9; (try dsimp only); (try k_fold)))
local macro_rules | `(tactic| walk_at "call ref") => `(tactic| (k_here; (with_reducible show wpAny _ _ (call (Value.ref 42) [Value.ref _, Value.ref _, Value.ref _]) _ _ _); k_dflt (refine' Ctr.use (add _ _ _ _ _ _ _ _ _ _ _ _ _ _ _ _ _ _ _ _ _ _ _ _ _ _ _ _ _ _ _ _ ?hm ?hm' ?hc ?hP ?hx ?hy ?hz ?hx' ?hy' ?hz' ?hA) ?k1 ?k2 ?k3 ?k4 ?k5 ?kK ?kd ?ku ?_); (case k1 => k_asm); (case k2 => k_asm); (case k3 => k_asm); (case k4 => k_asm); (case k5 => k_asm); (case kK => first | exact rfl | assumption); (case hm => first | assumption | ((repeat (refine List.mem_append.mpr (Or.inr ?_))); assumption) | k_mem); (case hm' => first | assumption | ((repeat (refine List.mem_append.mpr (Or.inr ?_))); assumption) | k_mem); (case hc => first | assumption | ((repeat (refine List.mem_append.mpr (Or.inr ?_))); assumption) | k_mem); (case hP => assumption); (case hx => first | assumption | exact (dbl_B (by assumption)).1 | exact (dbl_B (by assumption)).2.1 | exact (dbl_B (by assumption)).2.2 | exact (mulJ_B (by assumption) (by assumption) (by assumption)).1 | exact (mulJ_B (by assumption) (by assumption) (by assumption)).2.1 | exact (mulJ_B (by assumption) (by assumption) (by assumption)).2.2 | exact b1 | exact b0); (case hy => first | assumption | exact (dbl_B (by assumption)).1 | exact (dbl_B (by assumption)).2.1 | exact (dbl_B (by assumption)).2.2 | exact (mulJ_B (by assumption) (by assumption) (by assumption)).1 | exact (mulJ_B (by assumption) (by assumption) (by assumption)).2.1 | exact (mulJ_B (by assumption) (by assumption) (by assumption)).2.2 | exact b1 | exact b0); (case hz => first | assumption | exact (dbl_B (by assumption)).1 | exact (dbl_B (by assumption)).2.1 | exact (dbl_B (by assumption)).2.2 | exact (mulJ_B (by assumption) (by assumption) (by assumption)).1 | exact (mulJ_B (by assumption) (by assumption) (by assumption)).2.1 | exact (mulJ_B (by assumption) (by assumption) (by assumption)).2.2 | exact b1 | exact b0); (case hx' => first | assumption | exact (dbl_B (by assumption)).1 | exact (dbl_B (by assumption)).2.1 | exact (dbl_B (by assumption)).2.2 | exact (mulJ_B (by assumption) (by assumption) (by assumption)).1 | exact (mulJ_B (by assumption) (by assumption) (by assumption)).2.1 | exact (mulJ_B (by assumption) (by assumption) (by assumption)).2.2 | exact b1 | exact b0); (case hy' => first | assumption | exact (dbl_B (by assumption)).1 | exact (dbl_B (by assumption)).2.1 | exact (dbl_B (by assumption)).2.2 | exact (mulJ_B (by assumption) (by assumption) (by assumption)).1 | exact (mulJ_B (by assumption) (by assumption) (by assumption)).2.1 | exact (mulJ_B (by assumption) (by assumption) (by assumption)).2.2 | exact b1 | exact b0); (case hz' => first | assumption | exact (dbl_B (by assumption)).1 | exact (dbl_B (by assumption)).2.1 | exact (dbl_B (by assumption)).2.2 | exact (mulJ_B (by assumption) (by assumption) (by assumption)).1 | exact (mulJ_B (by assumption) (by assumption) (by assumption)).2.1 | exact (mulJ_B (by assumption) (by assumption) (by assumption)).2.2 | exact b1 | exact b0); (case hA => assumption); (case kd => ktr_room); (case ku => ktr_units); intro v9 tl9 h9 tk9 F9 N9 hout9; rcases hout9 with ⟨D9, t91, t92, t93, c9, e9, hm9⟩; subst e9; (try dsimp only); (try k_fold)))
local macro_rules | `(tactic| walk_at "call ref") => `(tactic| (k_here; (with_reducible show wpAny _ _ (call (Value.ref 56) [Value.ref _, Value.int _ _, Value.ref _]) _ _ _); k_dflt (refine' Ctr.use (MulOK.use ?hf ?hm ?hc ?hP ?hx ?hy ?hA ?hy0 ?hn) ?k1 ?k2 ?k3 ?k4 ?k5 ?kK ?kd ?ku ?_); (case k1 => k_asm); (case k2 => k_asm); (case k3 => k_asm); (case k4 => k_asm); (case k5 => k_asm); (case kK => first | exact rfl | assumption); (case hf => assumption); (case hm => first | assumption | ((repeat (refine List.mem_append.mpr (Or.inr ?_))); assumption) | k_mem); (case hc => first | assumption | ((repeat (refine List.mem_append.mpr (Or.inr ?_))); assumption) | k_mem); (case hP => assumption); (case hx => assumption); (case hy => assumption); (case hA => assumption); (case hy0 => assumption); (case hn => first | assumption | exact half_ok (by assumption) (by assumption) (by assumption)); (case kd => ktr_room); (case ku => ktr_units); intro v9 tl9 h9 tk9 F9 N9 hout9; rcases hout9 with ⟨D9, t91, t92, t93, c9, e9, hm9⟩; subst e9; (try dsimp only); (try k_fold)))

theorem mulJ_zero (w : World) : MulOK w 0 := by
  unfold MulOK
  intro news D C P N A B' Gx Gy x y n t1 t2 t3 t4 c u1 u2 u3 u4 u5 u6 cc hm hc hP hx hy hA hy0 hn
  have hn0 : n = 0 := by have : (2 : Int) ^ 0 = 1 := rfl; omega
  subst hn0
  unfold Ctr
  k_fill
  intro mean mg mb dp un gd cn cs a ccd cl outer A₀ base h₀ L m s Q E B F X N T hk hdp hun hret
  refine wpAny_call ?_
  k_dflt ktr_enter
  k_steps
  all_goals try (exact absurd (by assumption) hy0)
  exact ret3 hret (by assumption) (by assumption) rfl

theorem mulJ_succ (w : World) (f : Nat) (hf : MulOK w f) : MulOK w (f + 1) := by
  unfold MulOK
  intro news D C P N A B' Gx Gy x y n t1 t2 t3 t4 c u1 u2 u3 u4 u5 u6 cc hm hc hP hx hy hA hy0 hn
  have hn1 := hn.1
  have hn2 := hn.2.1
  unfold Ctr
  k_fill
  intro mean mg mb dp un gd cn cs a ccd cl outer A₀ base h₀ L m s Q E B F X N T hk hdp hun hret
  refine wpAny_call ?_
  k_dflt ktr_enter
  k_steps
  all_goals try (exact absurd (by assumption) hy0)
  all_goals try (exact absurd (mod_two (by assumption)) (by assumption))
  · exact ret3 hret (by assumption) (by assumption) (if_pos (by assumption))
  · exact ret3' (tl := []) hret (by assumption) (by assumption) hm ((if_neg (by assumption)).trans (if_pos (by assumption)))
  · exact ret3s hret (by assumption) (by assumption) (by assumption) (.app (.app .refl)) ((if_neg (by assumption)).trans ((if_neg (by assumption)).trans (if_pos (by assumption))))
  · exact ret3s hret (by assumption) (by assumption) (by assumption) (.app (.app (.app .refl))) ((if_neg (by assumption)).trans ((if_neg (by assumption)).trans (if_neg (by assumption))))

theorem mulJ_all (w : World) : ∀ f, MulOK w f
  | 0 => mulJ_zero w
  | f + 1 => mulJ_succ w f (mulJ_all w f)
end Mine

end
theorem Mine.fresh5 : True := by (w_top off); first | (walk1; done) | trivial
-- part PW3
section
open PySem PySem.W PySem.Spec PySem.Calls PyProof.Rows
set_option maxRecDepth 100000
set_option maxHeartbeats 2000000
namespace Mine
theorem kind_pow : builtinKind "pow" = none := by decide +kernel
theorem plain_pow : plainId "pow" = true := by decide +kernel
theorem entry_pow : entryFor table "pow" = some Builtin.«pow» := entryFor_of_fast (by kernel_rfl)
theorem args_pow3 (a b c : Value) : argsOk "pow" ⟨[a, b, c], []⟩ := by unfold argsOk; kernel_rfl
theorem args_int_pow3 (a b c : Value) : argsOk "int.__pow__" ⟨[a, b, c], []⟩ := by unfold argsOk; kernel_rfl

theorem look_pow : typeLookup (.type "int") (Str.ofString "__pow__") = pure (some (.builtin "int.__pow__")) := by rw [typeLookup_type, builtinLookup_eq_fast]; kernel_rfl
/-- pow(b, e, m), 0 ≤ e, 2 ≤ m -/
def powI (b e m : Int) : Int := ((Builtin.powMod (b % m).toNat e.natAbs m.natAbs : Nat) : Int)

section
variable {pr : Program} {w : World} {A : Around} {E : Value → Shared → Prop} {s : Shared} {b e m : Int} {t u v : Tok} {Q : Value → Shared → Prop}
theorem call_int_pow3 (hm : 2 ≤ m) (he : 0 ≤ e) (h : Q (.int (powI b e m) s.toks) { s with toks := s.toks + 1 }) :
    wpAny (model pr w) A (call (.builtin "int.__pow__") [.int b t, .int e u, .int m v]) (fun v s' => v ≠ .notImplemented ∧ Q v s') E s := by
  refine wpAny_call_entry slot_int_pow (typeIs_int s b t) entry_int_pow ?_ (args_int_pow3 _ _ _)
  show wpAny _ _ (if (m == 0) = true then _ else _) _ _ s
  rw [if_neg (by simp; omega)]
  show wpAny _ _ (if (m.natAbs == 1) = true then _ else _) _ _ s
  rw [if_neg (by simp; omega)]
  show wpAny _ _ (if e < 0 then _ else _) _ _ s
  rw [if_neg (by omega)]
  show wpAny _ _ (retInt _) _ _ s
  have hm' : (m.natAbs : Int) = m := by omega
  have hn : decide (m < 0) = false := by simp; omega
  rw [hn, Bool.false_and, if_neg (by simp), hm']
  exact wpAny_ret_mkInt ⟨by simp, h⟩
theorem w_pow3 (hm : 2 ≤ m ∧ 0 ≤ e) (h : Q (.int (powI b e m) s.toks) { s with toks := s.toks + 1 }) :
    wpAny (model pr w) A (call (.builtin "pow") [.int b t, .int e u, .int m v]) Q E s := by
  refine Calls.call_function_entry kind_pow plain_pow entry_pow (args_pow3 _ _ _) ?_
  unfold Builtin.«pow»
  refine wpAny_bind (m := Builtin.Builtins.bindParams "pow" ["base", "exp", "mod"] 2 _) (wpAny_pure ?_)
  refine wpAny_bind (m := rule "pow.mod") (wpAny_rule ?_)
  refine wpAny_bind (m := typeOf (.int b t)) (wpAny_pure ?_)
  refine wpAny_bind (m := typeLookup (.type "int") (Str.ofString "__pow__")) ?_
  rw [look_pow]
  refine wpAny_pure ?_
  refine wpAny_bind (m := callSpecial? (.int b t) (Str.ofString "__pow__") [.int e u, .int m v]) (wpAny_callSpecial?_slot (name := Str.ofString "__pow__") (typeIs_int s b t) slot_int_pow
    (wpAny_mono (call_int_pow3 (Q := Q) hm.1 hm.2 h) (fun r s' hr => ?_) fun _ _ x => x))
  show wpAny _ _ (if (r != Value.notImplemented) = true then ret r else _) _ _ s'
  rw [if_pos (by simpa using hr.1)]
  exact wpAny_pure ⟨_, rfl, hr.2⟩
end
end Mine

end
-- part C5
section
open PySem PySem.W PySem.Spec PySem.Calls PyProof.Rows
set_option maxRecDepth 100000
set_option maxHeartbeats 2000000
namespace Mine

theorem Ctr.mono {w : World} {f : Addr} {sz sz' : Nat} {news : List (Addr × Obj)} {vs : List Value} {Out : Value → List (Addr × Obj) → Prop} (h : Ctr w f sz news vs Out) (hs : sz ≤ sz') : Ctr w f sz' news vs Out := by
  intro mean mg mb dp un gd cn cs a ccd cl outer A₀ base h₀ L m s Q E k1 k2 k3 k4 k5 kK kd ku ret
  exact h.use k1 k2 k3 k4 k5 kK (by omega) (by omega) ret

theorem toJac {w : World} {news : List (Addr × Obj)} {D : Addr} {x y : Int} {t1 t2 : Tok} {c : Nat} (hm : (D, tup2 x y t1 t2 c) ∈ news) :
    Ctr w 28 1 news [.ref D] (IsT3 (x, y, 1)) := by
  unfold Ctr
  k_fill
  intro mean mg mb dp un gd cn cs a ccd cl outer A₀ base h₀ L m s Q E B F X N T hk hdp hun hret
  refine wpAny_call ?_
  k_dflt ktr_enter
  k_steps
  exact ret3 hret (by assumption) (by assumption) rfl

theorem fmod_in {n N : Int} (hN : 2 ≤ N ∧ N < 64) : 0 ≤ n.fmod N ∧ n.fmod N < N ∧ n.fmod N < 2 ^ 6 := by
  have h1 := Int.fmod_nonneg_of_pos n (show 0 < N by omega)
  have h2 := Int.fmod_lt_of_pos n (show 0 < N by omega)
  exact ⟨h1, h2, by omega⟩

local macro_rules | `(tactic| walk_at "call ref") => `(tactic| (k_here; (with_reducible show wpAny _ _ (call (Value.ref 56) [Value.ref _, Value.int _ _, Value.ref _]) _ _ _); k_dflt (refine' Ctr.use (MulOK.use ?hf ?hm ?hc ?hP ?hx ?hy ?hA ?hy0 ?hn) ?k1 ?k2 ?k3 ?k4 ?k5 ?kK ?kd ?ku ?_); (case k1 => k_asm); (case k2 => k_asm); (case k3 => k_asm); (case k4 => k_asm); (case k5 => k_asm); (case kK => first | exact rfl | assumption); (case hf => assumption); (case hm => first | assumption | ((repeat (refine List.mem_append.mpr (Or.inr ?_))); assumption) | k_mem); (case hc => first | assumption | ((repeat (refine List.mem_append.mpr (Or.inr ?_))); assumption) | k_mem); (case hP => assumption); (case hx => assumption); (case hy => assumption); (case hA => assumption); (case hy0 => assumption); (case hn => first | assumption | exact half_ok (by assumption) (by assumption) (by assumption)); (case kd => ktr_room); (case ku => ktr_units); intro v9 tl9 h9 tk9 F9 N9 hout9; rcases hout9 with ⟨D9, t91, t92, t93, c9, e9, hm9⟩; subst e9; (try dsimp only); (try k_fold)))
theorem mulAny {w : World} {news : List (Addr × Obj)} {D C : Addr} {P N A B' Gx Gy x y n : Int} {t1 t2 t3 t4 : Tok} {c : Nat} {u1 u2 u3 u4 u5 u6 : Tok} {cc : Nat}
   (hm : (D, tup3 x y 1 t1 t2 t3 c) ∈ news) (hc : (C, tup6 P N A B' Gx Gy u1 u2 u3 u4 u5 u6 cc) ∈ news) (hP : Md P) (hx : Bd 6 x) (hy : Bd 6 y) (hA : Bd 6 A) (hy0 : y ≠ 0) (hN : 2 ≤ N ∧ N < 64) :
    Ctr w 56 10 news [.ref D, .int n t4, .ref C] (IsT3 (mulJ P A x y 6 (n.fmod N))) := by
  have hN0 : N ≠ 0 := by omega
  have hfm := fmod_in (n := n) hN
  by_cases hn : 0 ≤ n ∧ n < N
  · rw [Int.fmod_eq_emod_of_nonneg _ (by omega), Int.emod_eq_of_lt hn.1 hn.2]
    exact ((mulJ_all w 6).use hm hc hP hx hy hA hy0 ⟨hn.1, hn.2, by omega⟩).mono (by omega)
  have hMul := mulJ_all w 6
  have hn0 : n ≠ 0 := fun e => hn (by omega)
  have hn1 : n ≠ 1 := fun e => hn (by omega)
  unfold Ctr
  k_fill
  intro mean mg mb dp un gd cn cs a ccd cl outer A₀ base h₀ L m s Q E B F X N T hk hdp hun hret
  refine wpAny_call ?_
  k_dflt ktr_enter
  k_steps
  all_goals try (exact absurd (by assumption) hy0)
  all_goals try (exact absurd (by assumption) hn0)
  all_goals try (exact absurd (by assumption) hn1)
  all_goals exact ret3s hret (by assumption) (by assumption) (by assumption) (.app .refl) rfl

def mulF (P N A x y n : Int) : Int × Int :=
  let d := mulJ P A x y 6 (n.fmod N)
  fromF P d.1 d.2.1 d.2.2

local macro_rules | `(tactic| walk_at "call ref") => `(tactic| (k_here; (with_reducible show wpAny _ _ (call (Value.ref 28) [Value.ref _]) _ _ _); k_dflt (refine' Ctr.use (toJac ?hm) ?k1 ?k2 ?k3 ?k4 ?k5 ?kK ?kd ?ku ?_); (case k1 => k_asm); (case k2 => k_asm); (case k3 => k_asm); (case k4 => k_asm); (case k5 => k_asm); (case kK => first | exact rfl | assumption); (case hm => first | assumption | ((repeat (refine List.mem_append.mpr (Or.inr ?_))); assumption) | k_mem); (case kd => ktr_room); (case ku => ktr_units); intro v9 tl9 h9 tk9 F9 N9 hout9; rcases hout9 with ⟨D9, t91, t92, t93, c9, e9, hm9⟩; subst e9; (try dsimp only); (try k_fold)))
local macro_rules | `(tactic| walk_at "call ref") => `(tactic| (k_here; (with_reducible show wpAny _ _ (call (Value.ref 56) [Value.ref _, Value.int _ _, Value.ref _]) _ _ _); k_dflt (refine' Ctr.use (mulAny ?hm ?hc ?hP ?hx ?hy ?hA ?hy0 ?hN) ?k1 ?k2 ?k3 ?k4 ?k5 ?kK ?kd ?ku ?_); (case k1 => k_asm); (case k2 => k_asm); (case k3 => k_asm); (case k4 => k_asm); (case k5 => k_asm); (case kK => first | exact rfl | assumption); (case hm => first | assumption | ((repeat (refine List.mem_append.mpr (Or.inr ?_))); assumption) | k_mem); (case hc => first | assumption | ((repeat (refine List.mem_append.mpr (Or.inr ?_))); assumption) | k_mem); (case hP => assumption); (case hx => assumption); (case hy => assumption); (case hA => assumption); (case hy0 => assumption); (case hN => assumption); (case kd => ktr_room); (case ku => ktr_units); intro v9 tl9 h9 tk9 F9 N9 hout9; rcases hout9 with ⟨D9, t91, t92, t93, c9, e9, hm9⟩; subst e9; (try dsimp only); (try k_fold)))
local macro_rules | `(tactic| walk_at "call ref") => `(tactic| (k_here; (with_reducible show wpAny _ _ (call (Value.ref 49) [Value.ref _, Value.ref _]) _ _ _); k_dflt (refine' Ctr.use (fromJ _ _ _ _ _ _ _ _ _ _ _ _ _ _ _ _ _ _ _ _ _ _ _ _ ?hm ?hc ?hP ?hx ?hy ?hz) ?k1 ?k2 ?k3 ?k4 ?k5 ?kK ?kd ?ku ?_); (case k1 => k_asm); (case k2 => k_asm); (case k3 => k_asm); (case k4 => k_asm); (case k5 => k_asm); (case kK => first | exact rfl | assumption); (case hm => first | assumption | ((repeat (refine List.mem_append.mpr (Or.inr ?_))); assumption) | k_mem); (case hc => first | assumption | ((repeat (refine List.mem_append.mpr (Or.inr ?_))); assumption) | k_mem); (case hP => assumption); (case hx => exact (mulJ_B (by assumption) (by assumption) (by assumption)).1); (case hy => exact (mulJ_B (by assumption) (by assumption) (by assumption)).2.1); (case hz => exact (mulJ_B (by assumption) (by assumption) (by assumption)).2.2); (case kd => ktr_room); (case ku => ktr_units); intro v9 tl9 h9 tk9 F9 N9 hout9; rcases hout9 with ⟨D9, t91, t92, c9, e9, hm9⟩; subst e9; (try dsimp only); (try k_fold)))

theorem mult {w : World} {news : List (Addr × Obj)} {D C : Addr} {P N A B' Gx Gy x y n : Int} {t1 t2 t4 : Tok} {c : Nat} {u1 u2 u3 u4 u5 u6 : Tok} {cc : Nat}
   (hm : (D, tup2 x y t1 t2 c) ∈ news) (hc : (C, tup6 P N A B' Gx Gy u1 u2 u3 u4 u5 u6 cc) ∈ news) (hP : Md P) (hx : Bd 6 x) (hy : Bd 6 y) (hA : Bd 6 A) (hy0 : y ≠ 0) (hN : 2 ≤ N ∧ N < 64) :
    Ctr w 63 12 news [.ref D, .int n t4, .ref C] (IsT2 (mulF P N A x y n)) := by
  unfold Ctr
  k_fill
  intro mean mg mb dp un gd cn cs a ccd cl outer A₀ base h₀ L m s Q E B F X N T hk hdp hun hret
  refine wpAny_call ?_
  k_dflt ktr_enter
  k_steps
  exact ret2s hret (by assumption) (by assumption) (by assumption) (.app (.app (.app .refl))) rfl
end Mine

end
theorem Mine.fresh7 : True := by (w_top off); first | (walk1; done) | trivial
-- part C6
section
open PySem PySem.W PySem.Spec PySem.Calls PyProof.Rows
set_option maxRecDepth 100000
set_option maxHeartbeats 2000000
namespace Mine

theorem ret1w {h₀ h' : Heap} {L : Addr} {m : Str → Option Value} {news l : List (Addr × Obj)} {s : Shared} {Q : Value → Shared → Prop} {r x : Int} {t : Tok} {tk' : Nat}
    (hret : Ret h₀ L m news s Q (fun v _ => ∃ t, v = .int r t)) (F : Fr h₀ L h' m) (N : News h₀ L h' l) (hs : ∀ p ∈ news, p ∈ l) (e : r = x) : Q (.int x t) { s with heap := h', toks := tk' } := by
  subst e
  exact hret _ [] _ _ F (fun p hp => N p (hs p hp)) ⟨t, rfl⟩
theorem Md.p1 {P : Int} (h : Md P) : 2 ≤ P ∧ 0 ≤ (P - 1).fdiv 2 := ⟨h.two, by have := h.two; rw [Int.fdiv_eq_ediv_of_nonneg _ (by omega)]; omega⟩
theorem Md.p2 {P : Int} (h : Md P) : 2 ≤ P ∧ 0 ≤ P - 2 := ⟨h.two, by have := h.two; omega⟩
theorem Md.p3 {P : Int} (h : Md P) : 2 ≤ P ∧ 0 ≤ (P + 1).fdiv 4 := ⟨h.two, by have := h.two; rw [Int.fdiv_eq_ediv_of_nonneg _ (by omega)]; omega⟩

def valF (p a b x : Int) : Int := (x ^ 3 + a * x + b).fmod p
def stepC (p a b x : Int) : Int := if powI (valF p a b x) ((p - 1).fdiv 2) p = 1 then 2 else 0
def countF (p a b : Int) : Int := if (rangeKs 0 p.toNat).any (fun x => valF p a b x == 0) then 0 else 1 + ((rangeKs 0 p.toNat).map (stepC p a b)).sum

def cntP (p a b : Int) (pre : List Int) (many : Int) : Prop := (∀ v ∈ pre, valF p a b v ≠ 0) ∧ many = 1 + (pre.map (stepC p a b)).sum

theorem cntP.start {p a b : Int} : cntP p a b [] 1 := by
  refine ⟨fun _ h => ?_, rfl⟩
  cases h
theorem cntP.turn1 {p a b k many : Int} {pre : List Int} (h : cntP p a b pre many) (h0 : valF p a b k ≠ 0) (h1 : powI (valF p a b k) ((p - 1).fdiv 2) p = 1) : cntP p a b (pre ++ [k]) (many + 2) := by
  refine ⟨fun v hv => ?_, ?_⟩
  · rcases List.mem_append.mp hv with hv | hv
    · exact h.1 v hv
    · rw [List.mem_singleton.mp hv]; exact h0
  · rw [List.map_append, List.sum_append, h.2, List.map_singleton, stepC, if_pos h1, List.sum_singleton]; omega
theorem cntP.turn2 {p a b k many : Int} {pre : List Int} (h : cntP p a b pre many) (h0 : valF p a b k ≠ 0) (h1 : ¬ powI (valF p a b k) ((p - 1).fdiv 2) p = 1) : cntP p a b (pre ++ [k]) many := by
  refine ⟨fun v hv => ?_, ?_⟩
  · rcases List.mem_append.mp hv with hv | hv
    · exact h.1 v hv
    · rw [List.mem_singleton.mp hv]; exact h0
  · rw [List.map_append, List.sum_append, h.2, List.map_singleton, stepC, if_neg h1, List.sum_singleton]; omega
theorem cntP.zero {p a b k : Int} (hv : valF p a b k = 0) (h0 : 0 ≤ k) (h1 : k < p) : countF p a b = 0 := by
  refine if_pos (List.any_eq_true.mpr ⟨k, ?_, by simpa using hv⟩)
  simp only [rangeKs, List.mem_map, List.mem_range]
  exact ⟨k.toNat, by omega, by omega⟩
theorem cntP.done {p a b many : Int} (h : cntP p a b (rangeKs 0 p.toNat) many) : countF p a b = many := by
  rw [countF, if_neg, h.2]
  intro hc
  obtain ⟨v, hv, he⟩ := List.any_eq_true.mp hc
  exact h.1 v hv (by simpa using he)

local macro_rules | `(tactic| walk_at "call builtin:pow") => `(tactic| (k_here; first | with_reducible refine w_pow3 (Md.p1 (by assumption)) ?_ | with_reducible refine w_pow3 (Md.p2 (by assumption)) ?_ | with_reducible refine w_pow3 (Md.p3 (by assumption)) ?_))
local macro_rules | `(tactic| walk_at "binaryOp Mod int int") => `(tactic| (k_here; (with_reducible refine w_mod (by assumption) ?_)))
local macro_rules | `(tactic| walk_at "binaryOp Pow int int") => `(tactic| (k_here; (with_reducible refine' w_pow ?k1 ?_ ?k3 ?k4); (case k1 => decide); (case k3 => (repeat' (first | with_reducible apply Bd.mul | with_reducible apply Bd.add | with_reducible apply Bd.sub | with_reducible exact Md.b (by assumption) _ | with_reducible exact Md.self (by assumption) | exact Bd.lit | exact Bd.small (by omega) (by omega) | with_reducible assumption))); (case k4 => decide)))
local macro_rules | `(tactic| walk_at "binaryOp Mult int int") => `(tactic| (k_here; first
  | ((with_reducible refine' w_mul ?_ ?k3 ?k4); (case k3 => (repeat' (first | with_reducible apply Bd.mul | with_reducible apply Bd.add | with_reducible apply Bd.sub | with_reducible exact Md.b (by assumption) _ | with_reducible exact Md.self (by assumption) | exact Bd.lit | exact Bd.small (by omega) (by omega) | with_reducible assumption))); (case k4 => decide))
  | ((with_reducible refine' w_mul' ?_ ?k3 ?k4); (case k3 => (repeat' (first | with_reducible apply Bd.mul | with_reducible apply Bd.add | with_reducible apply Bd.sub | with_reducible exact Md.b (by assumption) _ | with_reducible exact Md.self (by assumption) | exact Bd.lit | exact Bd.small (by omega) (by omega) | with_reducible assumption))); (case k4 => decide))))

local macro_rules | `(tactic| walk_at "pyIter ref") => `(tactic| (k_here; k_extra "pyIter ref"))
theorem cnt (w : World) (news : List (Addr × Obj)) (p a b : Int) (t1 t2 t3 : Tok) (hP : Md p) (ha : Bd 6 a) :
    Ctr w 71 1 news [.int p t1, .int a t2, .int b t3] (fun v _ => ∃ t, v = .int (countF p a b) t) := by
  have hp2 := hP.two
  have hp43 := hP.up
  unfold Ctr
  k_fill
  intro mean mg mb dp un gd cn cs a' ccd cl outer A₀ base h₀ L m s Q E B F X N T hk hdp hun hret
  refine wpAny_call ?_
  k_dflt ktr_enter
  (k_with "pyIter ref" => k_state (fun pre many => cntP p a b pre many) "many")
  (k_with "state" => first | exact cntP.start | exact cntP.turn1 (by assumption) (by assumption) (by assumption) | exact cntP.turn2 (by assumption) (by assumption) (by assumption))
  k_steps
  · exact ret1w hret (by assumption) (by assumption) (fun _ h => List.mem_append.mpr (.inl h)) (cntP.zero (by assumption) (by omega) (by omega))
  · refine ret1w hret (by assumption) (by assumption) (fun _ h => h) (cntP.done ?_)
    have e : (p - 0).toNat = p.toNat := by omega
    rw [← e]
    assumption
end Mine

end
theorem Mine.fresh8 : True := by (w_top off); first | (walk1; done) | trivial
-- part C7
section
open PySem PySem.W PySem.Spec PySem.Calls PyProof.Rows
set_option maxRecDepth 100000
set_option maxHeartbeats 1000000
namespace Mine

def Eqn (r e : Int) : Prop := r = e
theorem Eqn.b {r e P : Int} (h : Eqn r (e.fmod P)) (hP : Md P) : Bd 6 r := by rw [show r = e.fmod P from h]; exact hP.b _
theorem w_modE {pr : Program} {w : World} {A : Around} {E : Value → Shared → Prop} {s : Shared} {a P : Int} {t u : Tok} {Q : Value → Shared → Prop} (hP : Md P)
    (h : ∀ r, Eqn r (a.fmod P) → Bd 6 r → Q (.int r s.toks) { s with toks := s.toks + 1 }) :
    wpAny (model pr w) A (binaryOp .Mod (.int a t) (.int P u)) Q E s := w_mod hP (h _ rfl (hP.b _))

def threeF (a b x : Int) : Int := 3 * x ^ Int.toNat 4 + 6 * a * x ^ Int.toNat 2 + 12 * b * x - a ^ Int.toNat 2
def fourF (a b x y : Int) : Int := 4 * y * (x ^ Int.toNat 6 + 5 * a * x ^ Int.toNat 4 + 20 * b * x ^ Int.toNat 3 - 5 * a ^ Int.toNat 2 * x ^ Int.toNat 2 - 4 * a * b * x - 8 * b ^ Int.toNat 2 - a ^ Int.toNat 3)
def w0F (p a b x y : Int) : List Int := [-2 * y, -1, 0, 1, 2 * y, (threeF a b x).fmod p, (fourF a b x y).fmod p]
def halfF (p y : Int) : Int := powI (2 * y) (p - 2) p
def wNew (p half : Int) (w : List Int) (n : Int) : Int :=
  let m := n.fdiv 2
  if n.fmod 2 = 1 then (w.getD (m + 4).toNat 0 * w.getD (m + 2).toNat 0 ^ 3 - w.getD (m + 1).toNat 0 * w.getD (m + 3).toNat 0 ^ 3).fmod p
  else (w.getD (m + 2).toNat 0 * (w.getD (m + 4).toNat 0 * w.getD (m + 1).toNat 0 ^ 2 - w.getD m.toNat 0 * w.getD (m + 3).toNat 0 ^ 2) * half).fmod p
def wStep (p half : Int) (w : List Int) (n : Int) : List Int := w ++ [wNew p half w n]
def wP (p a b x y : Int) (pre : List Int) (w : List Int) : Prop := w = pre.foldl (wStep p (halfF p y)) (w0F p a b x y)
def AllB (w : List Int) : Prop := ∀ i, Bd 8 (w.getD i 0)
theorem AllB.at {w : List Int} (h : AllB w) (i : Nat) : Bd 8 (w.getD i 0) := h i
theorem AllB.nil : AllB [] := fun i => by
  rw [List.getD_nil]; unfold Bd; decide
theorem AllB.cons {a : Int} {w : List Int} (ha : Bd 8 a) (h : AllB w) : AllB (a :: w) := fun i => by
  cases i with
  | zero => exact ha
  | succ i => exact h i
theorem AllB.app {u w : List Int} (hu : AllB u) (h : AllB w) : AllB (u ++ w) := by
  induction u with
  | nil => exact h
  | cons a u ih => exact .cons (hu 0) (ih fun i => hu (i + 1))
theorem Bd.up {a : Int} (h : Bd 6 a) : Bd 8 a := Nat.lt_trans h (by decide)
theorem wP.start {p a b x y r1 r2 : Int} (h1 : Eqn r1 ((threeF a b x).fmod p)) (h2 : Eqn r2 ((fourF a b x y).fmod p)) (hb1 : Bd 6 r1) (hb2 : Bd 6 r2) (hy : Bd 6 y) : [-2 * y, -1, 0, 1, 2 * y, r1, r2].length = ([] : List Int).length + 7 ∧ wP p a b x y [] [-2 * y, -1, 0, 1, 2 * y, r1, r2] ∧ AllB [-2 * y, -1, 0, 1, 2 * y, r1, r2] := by
  refine ⟨rfl, ?_, ?_⟩
  · rw [show r1 = _ from h1, show r2 = _ from h2]; rfl
  · have hy' : y.natAbs < 64 := hy
    exact .cons (by unfold Bd; omega) (.cons (by unfold Bd; omega) (.cons (by unfold Bd; omega) (.cons (by unfold Bd; omega) (.cons (by unfold Bd; omega) (.cons hb1.up (.cons hb2.up .nil))))))

theorem powMod_lt {b e m : Nat} (hm : 0 < m) : Builtin.powMod b e m < m := by
  unfold Builtin.powMod
  generalize (List.range _).reverse = l
  have : ∀ (l : List Nat) (q : Nat), q < m → l.foldl (fun p i => if e.testBit i then p * p % m * b % m else p * p % m) q < m := by
    intro l
    induction l with
    | nil => exact fun q h => h
    | cons i l ih =>
      intro q _
      refine ih _ ?_
      show (if e.testBit i = true then _ else _) < m
      split
      · exact Nat.mod_lt _ hm
      · exact Nat.mod_lt _ hm
  exact this l _ (Nat.mod_lt _ hm)
theorem powI_B {b e p : Int} (hP : Md p) : Bd 6 (powI b e p) := by
  have h1 := hP.two
  have h2 := hP.up
  have h3 : Builtin.powMod (b % p).toNat e.natAbs p.natAbs < p.natAbs := powMod_lt (by omega)
  exact Bd.small (Int.natCast_nonneg _) (by unfold powI; omega)
local macro_rules | `(tactic| walk_at "call builtin:pow") => `(tactic| (k_here; first | with_reducible refine w_pow3 (Md.p1 (by assumption)) ?_ | with_reducible refine w_pow3 (Md.p2 (by assumption)) ?_ | with_reducible refine w_pow3 (Md.p3 (by assumption)) ?_))
local macro_rules | `(tactic| walk_at "binaryOp Mod int int") => `(tactic| (k_here; (with_reducible refine w_modE (by assumption) ?_); intro r9 hr9 hb9; (try dsimp only)))
local macro_rules | `(tactic| walk_at "binaryOp Pow int int") => `(tactic| (k_here; (with_reducible refine' w_pow ?k1 ?_ ?k3 ?k4); (case k1 => decide); (case k3 => (repeat' (first | with_reducible apply Bd.mul | with_reducible apply Bd.add | with_reducible apply Bd.sub | with_reducible apply Bd.pow | with_reducible exact Md.b (by assumption) _ | with_reducible exact Md.self (by assumption) | with_reducible exact AllB.at (by assumption) _ | with_reducible exact powI_B (by assumption) | exact Bd.lit | exact Bd.small (by omega) (by omega) | with_reducible assumption))); (case k4 => decide); (try dsimp only)))
local macro_rules | `(tactic| walk_at "binaryOp Mult int int") => `(tactic| (k_here; first
  | ((with_reducible refine' w_mul ?_ ?k3 ?k4); (case k3 => (repeat' (first | with_reducible apply Bd.mul | with_reducible apply Bd.add | with_reducible apply Bd.sub | with_reducible apply Bd.pow | with_reducible exact Md.b (by assumption) _ | with_reducible exact Md.self (by assumption) | with_reducible exact AllB.at (by assumption) _ | with_reducible exact powI_B (by assumption) | exact Bd.lit | exact Bd.small (by omega) (by omega) | with_reducible assumption))); (case k4 => decide); (try dsimp only))
  | ((with_reducible refine' w_mul' ?_ ?k3 ?k4); (case k3 => (repeat' (first | with_reducible apply Bd.mul | with_reducible apply Bd.add | with_reducible apply Bd.sub | with_reducible apply Bd.pow | with_reducible exact Md.b (by assumption) _ | with_reducible exact Md.self (by assumption) | with_reducible exact AllB.at (by assumption) _ | with_reducible exact powI_B (by assumption) | exact Bd.lit | exact Bd.small (by omega) (by omega) | with_reducible assumption))); (case k4 => decide); (try dsimp only))))

def Stop (P : Prop) : Prop := P
theorem Stop.out {P : Prop} (h : Stop P) : P := h
local macro_rules | `(tactic| walk_at "pyIter ref") => `(tactic| (k_here; refine Stop.out ?_))
theorem not_one {x z : Str} (h : [x].contains z = false) : z ≠ x := by
  intro e
  subst e
  simp at h
theorem ints_snoc {us : List Value} {ws : List Int} (r : Int) (t : Tok) (h : IntsAre us ws) : IntsAre (us ++ [.int r t]) (ws ++ [r]) := by
  induction h with
  | nil => exact .cons r t .nil
  | cons n t' _ ih => exact .cons n t' ih
theorem wP.turn {p a b x y k r : Int} {pre ws : List Int} (hl : ws.length = pre.length + 7) (h : wP p a b x y pre ws) (hA : AllB ws) (hb : Bd 6 r) (hr : r = wNew p (halfF p y) ws k) :
    (ws ++ [r]).length = (pre ++ [k]).length + 7 ∧ wP p a b x y (pre ++ [k]) (ws ++ [r]) ∧ AllB (ws ++ [r]) := by
  refine ⟨by simp only [List.length_append, List.length_singleton]; omega, ?_, hA.app (.cons hb.up .nil)⟩
  unfold wP at h ⊢
  rw [List.foldl_append, ← h, hr]
  rfl
def dueAt (p x half : Int) (w : List Int) (n : Int) : Int × Int :=
  let here := (w.getD (n + 2).toNat 0).fmod p
  if here = 0 then (0, 0) else
  let back := powI here (p - 2) p
  ((x - w.getD (n + 1).toNat 0 * w.getD (n + 3).toNat 0 * back ^ 2).fmod p,
   (((w.getD (n + 4).toNat 0 * w.getD (n + 1).toNat 0 ^ 2 - w.getD n.toNat 0 * w.getD (n + 3).toNat 0 ^ 2) * back ^ 3 * half * (p + 1)).fdiv 2).fmod p)
/-- the list's refs are the pairs, over the ledger -/
def Outs (l : List (Addr × Obj)) : List Value → List (Int × Int) → Prop
  | [], [] => True
  | v :: vs, d :: ds => IsT2 d v l ∧ Outs l vs ds
  | _, _ => False
section
variable {prog : Program} {w : World} {A : Around} {E : Value → Shared → Prop} {s : Shared} {env : Env} {h₀ : Heap} {x : Str} {body : List Stmt} {Q : Flow → Shared → Prop}
/-- the state of the list that is built, and its pairs -/
abbrev OutP (f : Int → Int × Int) (pre : List Int) (c : List Value × Nat × List (Int × Int)) : Prop := c.1.length = pre.length ∧ c.2.2 = pre.map f
abbrev OutJ (lo : Addr) (cst : List (Addr × Obj)) (stored : List Str) (x : Str) (m₀ : Str → Option Value) (f : Int → Int × Int) (pre : List Int) :=
  KdS (σ := List Value × Nat × List (Int × Int)) (fun c => [(lo, listOf c.1.toArray c.2.1)]) cst (fun _ => []) (fun l c => Outs l c.1 c.2.2) x stored m₀ (OutP f) (lo :: cst.map (·.1)) pre
theorem out_loop {r : Addr} {b₀ : Int} {t₀ u₀ v₀ : Tok} {n : Nat} {m₀ : Str → Option Value} {lo : Addr} {cst : List (Addr × Obj)} (f : Int → Int × Int) (stored : List Str)
    (hh : A.handled = none) (hr : IsRange s.heap r 0 b₀ 1 t₀ u₀ v₀) (hsmall : Builtin.Range.small 0 b₀ 1 = true) (hsz : Builtin.Range.rangeSize 0 b₀ 1 = (n : Int)) (F : Fr h₀ env.locals s.heap m₀) (N : News h₀ env.locals s.heap ((lo, listOf #[] 0) :: cst))
    (turn : ∀ vs vn ds tl (pre : List Int) (k : Int) t (u : Str → Option Value) h tk own, k = (pre.length : Int) → pre.length < n → KdSep own tl (lo :: cst.map (·.1)) → OwnOff (tl ++ own) (lo :: cst.map (·.1)) → Outs (cst ++ tl) vs ds → vs.length = pre.length → ds = pre.map f →
      Fr h₀ env.locals h (fun y => if y = x then some (.int k t) else if stored.contains y then u y else m₀ y) → News h₀ env.locals h ((lo, listOf vs.toArray vn) :: (cst ++ (tl ++ own))) →
      wpAny (model prog w) A (execs body env) (InvPostG h₀ env.locals (OutJ lo cst stored x m₀ f (pre ++ [k])) own { s with heap := h, toks := tk } Q) E { s with heap := h, toks := tk })
    (done : ∀ vs vn tl (u : Str → Option Value) h tk, Outs (cst ++ tl) vs ((rangeKs 0 n).map f) → Fr h₀ env.locals h (fun y => if y = x then u y else if stored.contains y then u y else m₀ y) → News h₀ env.locals h ((lo, listOf vs.toArray vn) :: (cst ++ tl)) → Q .next { s with heap := h, toks := tk }) :
    wpAny (model prog w) A (pyIter (.ref r)) (fun it s₂ => LoopAtV prog w A h₀ env x body Q E it s₂) E s := by
  refine kd_range (σ := List Value × Nat × List (Int × Int)) (fun c => [(lo, listOf c.1.toArray c.2.1)]) cst (fun _ => []) (fun l c => Outs l c.1 c.2.2) stored (OutP f) (lo :: cst.map (·.1)) ([], 0, []) hh hr hsmall hsz F N (fun q hq => ?_) (fun _ => rfl) True.intro (List.forall_mem_nil _) ⟨rfl, rfl⟩ ?_ ?_
  · rw [List.append_nil] at hq; exact hq
  · rintro ⟨vs, vn, ds⟩ tl pre k t u h tk own hk hl h1 h2 h3 ⟨h4, h5⟩ F' N'
    exact turn vs vn ds tl pre k t u h tk own (by rw [hk]; omega) hl h1 h2 h3 h4 h5 F' N'
  · rintro ⟨vs, vn, ds⟩ tl u h tk _ h3 ⟨h4, h5⟩ F' N'
    dsimp only at h3 h5
    rw [h5] at h3
    exact done vs vn tl u h tk h3 F' N'
end
theorem allLt_mem {d : Nat} : ∀ {l : List (Addr × Obj)}, AllLt d l → ∀ p ∈ l, p.1 < d
  | [], _, _, hp => (nomatch hp)
  | q :: r, h, p, hp => by
    rcases List.mem_cons.mp hp with e | hp
    · rw [e]; exact h.1
    · exact allLt_mem h.2 p hp
theorem Outs.mono {l l' : List (Addr × Obj)} (hs : ∀ p ∈ l, p ∈ l') : ∀ {vs : List Value} {ds : List (Int × Int)}, Outs l vs ds → Outs l' vs ds
  | [], [], _ => True.intro
  | [], _ :: _, h => h.elim
  | _ :: _, [], h => h.elim
  | v :: vs, d :: ds, h => by
    obtain ⟨⟨D, t1, t2, c, e, hm⟩, h2⟩ := h
    exact ⟨⟨D, t1, t2, c, e, hs _ hm⟩, Outs.mono hs h2⟩
theorem Outs.snoc {l : List (Addr × Obj)} {v : Value} {d : Int × Int} (hv : IsT2 d v l) : ∀ {vs : List Value} {ds : List (Int × Int)}, Outs l vs ds → Outs l (vs ++ [v]) (ds ++ [d])
  | [], [], _ => ⟨hv, True.intro⟩
  | [], _ :: _, h => h.elim
  | _ :: _, [], h => h.elim
  | _ :: vs, _ :: ds, h => ⟨h.1, Outs.snoc hv h.2⟩
theorem out_end {L lo D' : Addr} {h₀ h' : Heap} {x : Str} {stored : List Str} {m₀ m' : Str → Option Value} {cst tl own : List (Addr × Obj)} {vs : List Value} {vn c tk : Nat} {ds : List (Int × Int)} {a b k : Int} {t1 t2 : Tok} {f : Int → Int × Int} {pre : List Int} {s₁ : Shared}
    (h0 : KdSep own tl (lo :: cst.map (·.1))) (F : Fr h₀ L h' m') (N : News h₀ L h' ((D', tup2 a b t1 t2 c) :: (lo, listOf (vs.toArray.push (.ref D')) (vn + 1)) :: (cst ++ (tl ++ own)))) (hlt : lo < D' ∧ AllLt D' (cst ++ (tl ++ own)))
    (hO : Outs (cst ++ tl) vs ds) (hvl : vs.length = pre.length) (hds : ds = pre.map f) (hf : f k = (a, b))
    (hr : ∀ z, z ≠ x → stored.contains z = false → m' z = m₀ z) : InvEndG h₀ L (OutJ lo cst stored x m₀ f (pre ++ [k])) own s₁ { s₁ with heap := h', toks := tk } := by
  have hal := allLt_mem hlt.2
  rw [List.push_toArray] at N
  refine kd_end (vs ++ [.ref D'], vn + 1, ds ++ [(a, b)]) [(D', tup2 a b t1 t2 c)] h0 F N ?_ ?_ rfl ?_ ?_ (List.forall_mem_nil _) (fun z h1 _ h3 => hr z h1 h3) ?_ ⟨?_, ?_⟩
  · intro p hp
    rcases List.mem_append.mp hp with hp | hp
    · exact .tail _ (by rw [List.mem_singleton.mp hp]; exact .head _)
    rcases List.mem_append.mp hp with hp | hp
    · exact .tail _ (.tail _ (List.mem_append.mpr (.inl hp)))
    rcases List.mem_append.mp hp with hp | hp
    · rw [List.mem_singleton.mp hp]; exact .head _
    · exact .tail _ (.tail _ (List.mem_append.mpr (.inr (List.mem_append.mpr (.inl hp)))))
  · exact fun p hp => .tail _ (.tail _ (List.mem_append.mpr (.inr (List.mem_append.mpr (.inr hp)))))
  · intro q hq d hd
    rw [List.mem_singleton.mp hq]
    rcases List.mem_cons.mp hd with e | hd
    · rw [e]; exact Nat.ne_of_lt hlt.1
    · obtain ⟨p, hp, e⟩ := List.mem_map.mp hd
      rw [← e]
      exact Nat.ne_of_lt (hal p (List.mem_append.mpr (.inl hp)))
  · intro q hq p hp
    rw [List.mem_singleton.mp hq]
    exact Nat.ne_of_lt (hal p (List.mem_append.mpr (.inr (List.mem_append.mpr (.inr hp)))))
  · refine Outs.snoc (l := cst ++ ((D', tup2 a b t1 t2 c) :: tl)) (d := (a, b)) ⟨D', t1, t2, c, rfl, List.mem_append.mpr (.inr (.head _))⟩ (hO.mono fun p hp => ?_)
    rcases List.mem_append.mp hp with hp | hp
    · exact List.mem_append.mpr (.inl hp)
    · exact List.mem_append.mpr (.inr (.tail _ hp))
  · simp only [List.length_append, List.length_singleton]; omega
  · dsimp only
    rw [hds, List.map_append, List.map_singleton, hf]
theorem dueAt_zero {p x half k r : Int} {w : List Int} (h : Eqn r ((w.getD (k + 2).toNat 0).fmod p)) (h0 : r = 0) : dueAt p x half w k = (0, 0) := by
  rw [show r = _ from h] at h0
  exact if_pos h0
theorem dueAt_pos {p x half k r a b : Int} {w : List Int} (h : Eqn r ((w.getD (k + 2).toNat 0).fmod p)) (h0 : r ≠ 0)
    (h1 : Eqn a ((x - w.getD (k + 1).toNat 0 * w.getD (k + 3).toNat 0 * powI r (p - 2) p ^ Int.toNat 2).fmod p))
    (h2 : Eqn b ((((w.getD (k + 4).toNat 0 * w.getD (k + 1).toNat 0 ^ Int.toNat 2 - w.getD k.toNat 0 * w.getD (k + 3).toNat 0 ^ Int.toNat 2) * powI r (p - 2) p ^ Int.toNat 3 * half * (p + 1)).fdiv 2).fmod p)) : dueAt p x half w k = (a, b) := by
  rw [show a = _ from h1, show b = _ from h2]
  rw [show r = _ from h] at h0 ⊢
  exact if_neg h0
abbrev IsDue (ds : List (Int × Int)) (v : Value) (l : List (Addr × Obj)) : Prop := ∃ D us c, v = .ref D ∧ (D, listOf us.toArray c) ∈ l ∧ Outs l us ds
def wAll (p a b x y : Int) (most : Int) : List Int := (rangeKs 5 (most + 3 - 5).toNat).foldl (wStep p (halfF p y)) (w0F p a b x y)
def dueF (p a b x y most : Int) : List (Int × Int) := (rangeKs 0 (most + 1 - 0).toNat).map (dueAt p x (halfF p y) (wAll p a b x y most))
theorem retDue {h₀ h' : Heap} {L lo : Addr} {m : Str → Option Value} {news tl : List (Addr × Obj)} {q : Addr × Obj} {s : Shared} {Q : Value → Shared → Prop} {ds : List (Int × Int)} {vs : List Value} {vn tk' : Nat}
    (hret : Ret h₀ L m news s Q (IsDue ds)) (F : Fr h₀ L h' m) (N : News h₀ L h' ((lo, listOf vs.toArray vn) :: (q :: news ++ tl))) (hO : Outs (q :: news ++ tl) vs ds) : Q (.ref lo) { s with heap := h', toks := tk' } := by
  have hs : ∀ p ∈ ((lo, listOf vs.toArray vn) :: q :: tl) ++ news, p ∈ (lo, listOf vs.toArray vn) :: (q :: news ++ tl) := by
    intro p hp
    rcases List.mem_append.mp hp with hp | hp
    · rcases List.mem_cons.mp hp with e | hp
      · rw [e]; exact .head _
      rcases List.mem_cons.mp hp with e | hp
      · rw [e]; exact .tail _ (.head _)
      · exact .tail _ (List.mem_append.mpr (.inr hp))
    · exact .tail _ (List.mem_append.mpr (.inl (.tail _ hp)))
  refine hret _ ((lo, listOf vs.toArray vn) :: q :: tl) _ _ F (fun p hp => N p (hs p hp)) ⟨lo, vs, vn, rfl, .head _, hO.mono fun p hp => ?_⟩
  rcases List.mem_append.mp hp with hp | hp
  · rcases List.mem_cons.mp hp with e | hp
    · rw [e]; exact .tail _ (.head _)
    · exact List.mem_append.mpr (.inr hp)
  · exact .tail _ (.tail _ (List.mem_append.mpr (.inl hp)))
theorem my_ne {d : Addr} {o : Obj} {news own : List (Addr × Obj)} (h1 : ∀ p ∈ news, p.1 < d) (h2 : OwnOff own (List.map (fun x => x.1) ((d, o) :: news))) : ∀ p ∈ news ++ own, p.1 ≠ d := by
  intro p hp
  rcases List.mem_append.mp hp with hp | hp
  · exact Nat.ne_of_lt (h1 p hp)
  · exact h2 p hp d (List.mem_map.mpr ⟨(d, o), List.Mem.head _, rfl⟩)
local macro_rules | `(tactic| walk_at "call builtin:list.append") => `(tactic| (k_here; (with_reducible show wpAny _ _ (call (Value.builtin _) [Value.ref _, _]) _ _ _); k_dflt (refine' append_K ?k1 ?k2 ?k3 ?_ ?z; (case k1 => k_asm); (case k2 => k_asm); (case k3 => (refine Upd.head ?nn; (case nn => exact my_ne (by assumption) (by assumption)))); (case z => (simp only [List.size_toArray, PySem.sizeLine_eq]; omega)); k_whole); intro h' F' N'))
local macro_rules | `(tactic| walk_at "InvEndG") => `(tactic| (k_here; refine Stop.out ?_))
local macro_rules | `(tactic| walk_at "InvEndN") => `(tactic| (k_here; refine Stop.out ?_))
theorem mul (w : World) (news : List (Addr × Obj)) (p a b x y most : Int) (t1 t2 t3 t4 t5 t6 : Tok) (hP : Md p) (ha : Bd 6 a) (hb : Bd 6 b) (hx : Bd 6 x) (hy : Bd 6 y) (hm0 : 0 ≤ most) (hm1 : most < 64) :
    Ctr w 78 1 news [.int p t1, .int a t2, .int b t3, .int x t4, .int y t5, .int most t6] (IsDue (dueF p a b x y most)) := by
  have hp2 := hP.two
  have hp43 := hP.up
  unfold Ctr
  k_fill
  intro mean mg mb dp un gd cn cs a' ccd cl outer A₀ base h₀ L m s Q E B F X N T hk hdp hun hret
  refine wpAny_call ?_
  k_dflt ktr_enter
  k_steps
  show wpAny _ _ _ _ _ _
  (rename Fr _ _ _ _ => lF')
  (rename News _ _ _ _ => lN')
  (rename IsRange _ _ _ _ _ _ _ _ => rgX)
  (with_unfolding_all refine' kst_range (σ := List Value × Nat × List Int) (fun c => (_, listOf c.1.toArray c.2.1) :: news) (fun _ => []) (fun c => IntsAre c.1 c.2.2) [Str.ofString "m"] (fun pre c => c.2.2.length = pre.length + 7 ∧ wP p a b x y pre c.2.2 ∧ AllB c.2.2) (_, _, _) (by rfl) rgX (small_one (by omega) (by omega) (by omega) (by omega)) (rangeSize_nat _ _) lF' ?kn ?kf ?kk ?kp ?kt ?kd)
  case kn => exact lN'
  case kf => exact .cons _ _ (.cons _ _ (.cons _ _ (.cons _ _ (.cons _ _ (.cons _ _ (.cons _ _ .nil))))))
  case kk => exact List.forall_mem_nil _
  case kp => exact wP.start (by assumption) (by assumption) (by assumption) (by assumption) hy
  case kt =>
    rintro ⟨us, cn', ws⟩ pre k t u h tk own hk hlen hoff hF ⟨hlw, hW, hAB⟩ FF NN
    have kMk := kstMark
    dsimp only [kstB] at FF NN hF hlw hW hAB hoff ⊢
    have hul := hF.length
    k_steps
    · (rename Fr _ _ _ _ => fE)
      (rename News _ _ _ _ => nE)
      rw [List.push_toArray] at nE
      unfold Stop
      refine' kst_end (us ++ [Value.int ?r1 ?t1], cn' + 1, ws ++ [?r1]) fE nE ?hn1 ?ho1 rfl (ints_snoc _ _ hF) (List.forall_mem_nil _) ?hr1 (wP.turn hlw hW hAB ?hb1 ?he1)
      case hn1 =>
        intro p hp
        rcases List.mem_cons.mp hp with hp | hp
        · rw [hp]
          exact List.Mem.head _
        · exact List.Mem.tail _ (List.mem_append.mpr (.inl hp))
      case ho1 => exact fun p hp => List.Mem.tail _ (List.mem_append.mpr (.inr hp))
      case hr1 =>
        intro z h1 h2 h3
        exact (if_neg (not_one h3)).trans ((if_neg h1).trans (if_neg (by rw [h3]; exact Bool.false_ne_true)))
      case hb1 => assumption
      case he1 => exact (show _ = _ by assumption).trans (if_pos (by assumption)).symm
    · (rename Fr _ _ _ _ => fE)
      (rename News _ _ _ _ => nE)
      rw [List.push_toArray] at nE
      unfold Stop
      refine' kst_end (us ++ [Value.int ?r2 ?t2], cn' + 1, ws ++ [?r2]) fE nE ?hn2 ?ho2 rfl (ints_snoc _ _ hF) (List.forall_mem_nil _) ?hr2 (wP.turn hlw hW hAB ?hb2 ?he2)
      case hn2 =>
        intro p hp
        rcases List.mem_cons.mp hp with hp | hp
        · rw [hp]
          exact List.Mem.head _
        · exact List.Mem.tail _ (List.mem_append.mpr (.inl hp))
      case ho2 => exact fun p hp => List.Mem.tail _ (List.mem_append.mpr (.inr hp))
      case hr2 =>
        intro z h1 h2 h3
        exact (if_neg (not_one h3)).trans ((if_neg h1).trans (if_neg (by rw [h3]; exact Bool.false_ne_true)))
      case hb2 => assumption
      case he2 => exact (show _ = _ by assumption).trans (if_neg (by assumption)).symm
  case kd =>
    rintro ⟨us, cn', ws⟩ u h tk hF ⟨hlw, hW, hAB⟩ FF NN
    have kMk := kstMark
    dsimp only [kstB] at FF NN hF hlw hW hAB ⊢
    rw [rangeKs_length] at hlw
    have hul := hF.length
    k_steps
    show wpAny _ _ _ _ _ _
    (rename Fr _ _ _ _ => lF2)
    (rename News _ _ _ _ => lN2)
    (rename IsRange _ _ _ _ _ _ _ _ => rg2)
    (rename (_ < _ ∧ AllLt _ _) => hlt)
    (with_unfolding_all refine' out_loop (dueAt p x (halfF p y) ws) [Str.ofString "here", Str.ofString "back", Str.ofString "first", Str.ofString "second"] (by rfl) rg2 (small_one (by omega) (by omega) (by omega) (by omega)) (rangeSize_nat _ _) lF2 lN2 ?dt ?dd)
    case dt =>
      intro vs vn ds tl pre k t u2 h2 tk2 own hk hlen hsep hoff hO hvl hds FF2 NN2
      k_steps
      · (rename Fr _ _ _ _ => fE)
        (rename News _ _ _ _ => nE)
        unfold Stop
        refine out_end hsep fE nE (by assumption) hO hvl hds (dueAt_zero (by assumption) (by assumption)) ?_
        intro z h1 h3
        (have h4 := h3)
        simp only [List.contains_cons, List.contains_nil, Bool.or_false, Bool.or_eq_false_iff, beq_eq_false_iff_ne, ne_eq] at h4
        obtain ⟨a1, a2, a3, a4⟩ := h4
        exact (if_neg a1).trans ((if_neg h1).trans (if_neg (by rw [h3]; exact Bool.false_ne_true)))
      · (rename Fr _ _ _ _ => fE)
        (rename News _ _ _ _ => nE)
        unfold Stop
        refine out_end hsep fE nE (by assumption) hO hvl hds (dueAt_pos (by assumption) (by assumption) (by assumption) (by assumption)) ?_
        intro z h1 h3
        (have h4 := h3)
        simp only [List.contains_cons, List.contains_nil, Bool.or_false, Bool.or_eq_false_iff, beq_eq_false_iff_ne, ne_eq] at h4
        obtain ⟨a1, a2, a3, a4⟩ := h4
        exact (if_neg a4).trans ((if_neg a3).trans ((if_neg a2).trans ((if_neg a1).trans ((if_neg h1).trans (if_neg (by rw [h3]; exact Bool.false_ne_true))))))
    case dd =>
      intro vs vn tl u2 h2 tk2 hO FF2 NN2
      k_steps
      have e : ws = wAll p a b x y most := hW
      rw [e] at hO
      exact retDue hret (by assumption) (by assumption) hO
end Mine

end
theorem Mine.fresh9 : True := by (w_top off); first | (walk1; done) | trivial
-- part L0
section
open PySem PySem.W PySem.Spec PySem.Calls PyProof.Rows
set_option maxRecDepth 100000
set_option maxHeartbeats 1000000
namespace Mine
theorem News.right {h₀ h : Heap} {L : Addr} {a b : List (Addr × Obj)} (N : News h₀ L h (a ++ b)) : News h₀ L h b := fun p hp => N p (List.mem_append.mpr (.inr hp))
theorem News.first {h₀ h : Heap} {L : Addr} {q : Addr × Obj} {b : List (Addr × Obj)} (N : News h₀ L h (q :: b)) : News h₀ L h [q] := fun p hp => N p (by rw [List.mem_singleton.mp hp]; exact .head _)
theorem restInts {t0 t1 t2 t3 t4 t5 : Tok} : IntsAre [Value.int 0 t0, Value.int 2 t1, Value.int 4 t2, Value.int 1 t3, Value.int 0 t4, Value.int 1234567 t5] [0, 2, 4, 1, 0, 1234567] :=
  .cons _ _ (.cons _ _ (.cons _ _ (.cons _ _ (.cons _ _ (.cons _ _ .nil)))))
local macro_rules | `(tactic| walk_at "call ref") => `(tactic| (plain_pass; k_here; refine Stop.out ?_))
local macro_rules | `(tactic| walk_at "call builtin:pow") => `(tactic| (k_here; first | with_reducible refine w_pow3 (Md.p1 (by assumption)) ?_ | with_reducible refine w_pow3 (Md.p2 (by assumption)) ?_ | with_reducible refine w_pow3 (Md.p3 (by assumption)) ?_))
local macro_rules | `(tactic| walk_at "binaryOp Pow int int") => `(tactic| (k_here; (with_reducible refine' w_pow ?k1 ?_ ?k3 ?k4); (case k1 => decide); (case k3 => (repeat' (first | with_reducible apply Bd.mul | with_reducible apply Bd.add | with_reducible apply Bd.sub | with_reducible apply Bd.pow | with_reducible exact Md.b (by assumption) _ | with_reducible exact Md.self (by assumption) | with_reducible exact powI_B (by assumption) | exact Bd.lit | exact Bd.small (by omega) (by omega) | with_reducible assumption))); (case k4 => decide); (try dsimp only)))
local macro_rules | `(tactic| walk_at "binaryOp Mult int int") => `(tactic| (k_here; first
  | ((with_reducible refine' w_mul ?_ ?k3 ?k4); (case k3 => (repeat' (first | with_reducible apply Bd.mul | with_reducible apply Bd.add | with_reducible apply Bd.sub | with_reducible apply Bd.pow | with_reducible exact Md.b (by assumption) _ | with_reducible exact Md.self (by assumption) | with_reducible exact powI_B (by assumption) | exact Bd.lit | exact Bd.small (by omega) (by omega) | with_reducible assumption))); (case k4 => decide); (try dsimp only))
  | ((with_reducible refine' w_mul' ?_ ?k3 ?k4); (case k3 => (repeat' (first | with_reducible apply Bd.mul | with_reducible apply Bd.add | with_reducible apply Bd.sub | with_reducible apply Bd.pow | with_reducible exact Md.b (by assumption) _ | with_reducible exact Md.self (by assumption) | with_reducible exact powI_B (by assumption) | exact Bd.lit | exact Bd.small (by omega) (by omega) | with_reducible assumption))); (case k4 => decide); (try dsimp only))))

local macro_rules | `(tactic| walk_at "subscriptTail Name Slice ref ref") => `(tactic| (k_here; (with_reducible show wpAny _ _ (subscriptTail _ (PySem.Expr.Slice (some _) none none _) (Value.ref _) (Value.ref _)) _ _ _); k_dflt (refine' kmk_slice_ints ?F ?N ?l ?p ?q ?i ?m ?c ?_ ?s ?t ?z; (case F => k_asm); (case N => k_asm); (case l => exact News.isList (by k_asm) (by k_mem)); (case p => kmk_part); (case q => kmk_part); (case i => exact restInts); (case m => exact kmk_from restInts (Int.natCast_nonneg _)); (case c => exact rfl); (case s => with_unfolding_all rfl); (case t => kmk_pure); (case z => exact Nat.le_of_ble_eq_true rfl)); intro D' ws' h' F' N' l1 hI' hC' hL'; (try k_lt l1); (try k_sweep)))
inductive Mk : Nat → Prop
  | mk (n : Nat) : Mk n
theorem six_cells (ns : List Int) : ∃ c0 c1 c2 c3 c4 c5, List.take 6 ns ++ List.drop ((List.take 6 ns).length : Int).toNat [0, 2, 4, 1, 0, 1234567] = [c0, c1, c2, c3, c4, c5] := by
  match ns with
  | [] => exact ⟨_, _, _, _, _, _, rfl⟩
  | [_] => exact ⟨_, _, _, _, _, _, rfl⟩
  | [_, _] => exact ⟨_, _, _, _, _, _, rfl⟩
  | [_, _, _] => exact ⟨_, _, _, _, _, _, rfl⟩
  | [_, _, _, _] => exact ⟨_, _, _, _, _, _, rfl⟩
  | [_, _, _, _, _] => exact ⟨_, _, _, _, _, _, rfl⟩
  | _ :: _ :: _ :: _ :: _ :: _ :: _ => exact ⟨_, _, _, _, _, _, rfl⟩
theorem six_vals {ws : List Value} {c0 c1 c2 c3 c4 c5 : Int} (h : IntsAre ws [c0, c1, c2, c3, c4, c5]) : ∃ t0 t1 t2 t3 t4 t5, ws = [.int c0 t0, .int c1 t1, .int c2 t2, .int c3 t3, .int c4 t4, .int c5 t5] := by
  cases h with | cons _ _ h => cases h with | cons _ _ h => cases h with | cons _ _ h => cases h with | cons _ _ h => cases h with | cons _ _ h => cases h with | cons _ _ h => cases h with | nil => exact ⟨_, _, _, _, _, _, rfl⟩
local macro_rules | `(tactic| walk_at "storeName") => `(tactic| (k_here; (with_reducible show wpAny _ _ (storeName _ (Str.ofString "cells") _) _ _ _); (fail_if_success (rename Mk 1 => hh)); refine Stop.out ?_))
local macro_rules | `(tactic| walk_at "storeName") => `(tactic| (k_here; (with_reducible show wpAny _ _ (storeName _ (Str.ofString "p") _) _ _ _); (fail_if_success (rename Mk 2 => hh)); refine Stop.out ?_))
theorem w_modR {pr : Program} {w : World} {A : Around} {E : Value → Shared → Prop} {s : Shared} {a m : Int} {t u : Tok} {Q : Value → Shared → Prop} (hm : 0 < m)
    (h : ∀ r, Eqn r (a.fmod m) → 0 ≤ r ∧ r < m → Q (.int r s.toks) { s with toks := s.toks + 1 }) :
    wpAny (model pr w) A (binaryOp .Mod (.int a t) (.int m u)) Q E s := mod_int' (by omega) (h _ rfl ⟨Int.fmod_nonneg_of_pos a hm, Int.fmod_lt_of_pos a hm⟩)
def primes : List Int := [7, 11, 19, 23, 31, 43]
theorem prime_in {i : Int} (h0 : 0 ≤ i) (h1 : i < 6) : primes.getD i.toNat 0 ∈ primes := by
  have : i = 0 ∨ i = 1 ∨ i = 2 ∨ i = 3 ∨ i = 4 ∨ i = 5 := by omega
  rcases this with rfl | rfl | rfl | rfl | rfl | rfl <;> decide
theorem prime_md {p : Int} (h : p ∈ primes) : Md p ∧ 7 ≤ p ∧ p ≤ 43 := by
  simp only [primes, List.mem_cons, List.not_mem_nil, or_false] at h
  exact ⟨⟨by omega, by omega⟩, by omega, by omega⟩
def yOf (p a b x : Int) : Int := powI (x ^ Int.toNat 3 + a * x + b) ((p + 1).fdiv 4) p
def onC (p a b x : Int) : Prop := (yOf p a b x * yOf p a b x - x ^ Int.toNat 3 - a * x - b).fmod p = 0
/-- the multiples agree -/
structure DueG (p N a b x y : Int) (ds : List (Int × Int)) : Prop where
  len : 23 ≤ (ds.length : Int) ∧ N < (ds.length : Int) ∧ 3 ≤ N ∧ N < 64
  val : ∀ n : Int, mulF p N a x y n = ds.getD (n.fmod N).toNat (0, 0)
  low : ∀ n : Int, 0 ≤ n → n < 23 → ds.getD (n.fmod N).toNat (0, 0) = ds.getD n.toNat (0, 0)
  top : ds.getD (N.fmod N).toNat (0, 0) = ds.getD N.toNat (0, 0)
/-- what the plain law has to bring -/
structure Facts : Prop where
  exB : ∀ p ∈ primes, ∀ a, 1 ≤ a → a < p → ∃ b, 0 ≤ b ∧ b < p ∧ countF p a b ≠ 0
  num : ∀ p ∈ primes, ∀ a, 1 ≤ a → a < p → ∀ b, 0 ≤ b → b < p → countF p a b ≠ 0 → 3 ≤ countF p a b ∧ countF p a b < 64
  main : ∀ p ∈ primes, ∀ a, 1 ≤ a → a < p → ∀ b, 0 ≤ b → b < p → countF p a b ≠ 0 → ∀ x, 0 ≤ x → x < p → onC p a b x → ∀ y, y = yOf p a b x ∨ y = p - yOf p a b x →
    0 < y ∧ y < p ∧ DueG p (countF p a b) a b x y (dueF p a b x y (if countF p a b > 22 then countF p a b else 22))
  exX : ∀ p ∈ primes, ∀ a, 1 ≤ a → a < p → ∀ b, 0 ≤ b → b < p → countF p a b ≠ 0 → ∃ x, 0 ≤ x ∧ x < p ∧ onC p a b x
local macro_rules | `(tactic| walk_at "call ref") => `(tactic| (k_here; (with_reducible show wpAny _ _ (call (Value.ref 71) [Value.int _ _, Value.int _ _, Value.int _ _]) _ _ _); k_dflt (refine' Ctr.use (cnt _ _ _ _ _ _ _ _ ?hP ?ha) ?k1 ?k2 ?k3 ?k4 ?k5 ?kK ?kd ?ku ?_; (case k1 => k_asm); (case k2 => k_asm); (case k3 => k_asm); (case k4 => k_asm); (case k5 => k_asm); (case kK => first | exact rfl | assumption); (case hP => assumption); (case ha => first | assumption | exact Bd.small (by omega) (by omega)); (case kd => ktr_room); (case ku => ktr_units)); intro v9 tl9 h9 tk9 F9 N9 hout9; rcases hout9 with ⟨t9, e9⟩; subst e9; (replace N9 := News.right N9); (try dsimp only); (try k_fold)))

local macro_rules | `(tactic| walk_at "binaryOp Mod int int") => `(tactic| (k_here; (with_reducible refine w_modR (by omega) ?_); intro r9 hr9 hb9; (try dsimp only)))
local macro_rules | `(tactic| walk_at "exec While Compare cons nil") => `(tactic| (k_here; refine Stop.out ?_))
local macro_rules | `(tactic| walk_at "KswEnd") => `(tactic| (k_here; refine Stop.out ?_))
local macro_rules | `(tactic| walk_at "storeName") => `(tactic| (k_here; (with_reducible show wpAny _ _ (storeName _ (Str.ofString "a") _) _ _ _); (fail_if_success (rename Mk 3 => hh)); refine Stop.out ?_))
local macro_rules | `(tactic| walk_at "storeName") => `(tactic| (k_here; (with_reducible show wpAny _ _ (storeName _ (Str.ofString "x") _) _ _ _); (fail_if_success (rename Mk 5 => hh)); refine Stop.out ?_))
local macro_rules | `(tactic| walk_at "storeName") => `(tactic| (k_here; (with_reducible show wpAny _ _ (storeName _ (Str.ofString "b") _) _ _ _); (fail_if_success (rename Mk 4 => hh)); refine Stop.out ?_))
theorem gen_store {M : Model} {A : Around} {env : Env} {E : Value → Shared → Prop} {s : Shared} {x : Str} {v : Int} {t : Tok} {Q : Unit → Shared → Prop}
    (h : ∀ a, a = v → wpAny M A (storeName env x (.int a t)) Q E s) : Stop (wpAny M A (storeName env x (.int v t)) Q E s) := h v rfl
theorem fmod_p {p n : Int} (hp : 0 < p) : n.fmod p = n % p := Int.fmod_eq_emod_of_nonneg _ (by omega)
theorem ghost0 {p b c : Int} (hp : 0 < p) (h0 : 0 ≤ c) (h1 : c < p) : (b + (((c - b).fmod p).toNat : Int)).fmod p = c := by
  rw [fmod_p hp, fmod_p hp]
  have h2 := Int.emod_nonneg (c - b) (show p ≠ 0 by omega)
  rw [Int.toNat_of_nonneg h2, Int.add_emod, Int.emod_emod, ← Int.add_emod, show b + (c - b) = c by omega, Int.emod_eq_of_lt h0 h1]
theorem ghost1 {p b : Int} {k : Nat} (hp : 0 < p) (hk : 0 < k) : ((b + 1).fmod p + ((k - 1 : Nat) : Int)).fmod p = (b + (k : Int)).fmod p := by
  rw [fmod_p hp, fmod_p hp, fmod_p hp, Int.emod_add_emod]
  congr 1
  omega
theorem ghost2 {p b : Int} (hp : 0 < p) (h0 : 0 ≤ b) (h1 : b < p) : (b + ((0 : Nat) : Int)).fmod p = b := by
  rw [fmod_p hp]; simp only [Int.natCast_zero, Int.add_zero]; exact Int.emod_eq_of_lt h0 h1
def bP (p a : Int) (c : Int × Tok × Int × Tok × Nat) : Prop := 0 ≤ c.1 ∧ c.1 < p ∧ c.2.2.1 = countF p a c.1 ∧ countF p a ((c.1 + (c.2.2.2.2 : Int)).fmod p) ≠ 0
theorem bP.start {p a b : Int} {t1 t2 : Tok} (HF : Facts) (hp : p ∈ primes) (ha : 1 ≤ a ∧ a < p) (hb : 0 ≤ b ∧ b < p) : ∃ k, bP p a (b, t1, countF p a b, t2, k) := by
  obtain ⟨c, h0, h1, h2⟩ := HF.exB p hp a ha.1 ha.2
  exact ⟨((c - b).fmod p).toNat, hb.1, hb.2, rfl, by dsimp only; rw [ghost0 (by omega) h0 h1]; exact h2⟩
theorem bP.turn {p a b r many : Int} {t1 t2 t3 t4 : Tok} {k : Nat} (h : bP p a (b, t1, many, t2, k)) (h0 : many = 0) (hr : Eqn r ((b + 1).fmod p)) : bP p a (r, t3, countF p a r, t4, k - 1) ∧ k - 1 < k := by
  obtain ⟨h1, h2, h3, h4⟩ := h
  dsimp only at h1 h2 h3 h4
  have hk : 0 < k := by
    rcases Nat.eq_zero_or_pos k with e | e
    · rw [e, ghost2 (by omega) h1 h2, ← h3] at h4; exact absurd h0 h4
    · exact e
  have hr' : r = (b + 1).fmod p := hr
  refine ⟨⟨?_, ?_, rfl, ?_⟩, by omega⟩
  · rw [hr']; exact Int.fmod_nonneg_of_pos _ (by omega)
  · rw [hr']; exact Int.fmod_lt_of_pos _ (by omega)
  · dsimp only; rw [hr', ghost1 (by omega) hk]; exact h4
def xP (p a b : Int) (c : Int × Tok × Int × Tok × Nat) : Prop := 0 ≤ c.1 ∧ c.1 < p ∧ c.2.2.1 = yOf p a b c.1 ∧ onC p a b ((c.1 + (c.2.2.2.2 : Int)).fmod p)
theorem xP.start {p a b x : Int} {t1 t2 : Tok} (HF : Facts) (hp : p ∈ primes) (ha : 1 ≤ a ∧ a < p) (hb : 0 ≤ b ∧ b < p) (hc : countF p a b ≠ 0) (hx : 0 ≤ x ∧ x < p) : ∃ k, xP p a b (x, t1, yOf p a b x, t2, k) := by
  obtain ⟨c, h0, h1, h2⟩ := HF.exX p hp a ha.1 ha.2 b hb.1 hb.2 hc
  exact ⟨((c - x).fmod p).toNat, hx.1, hx.2, rfl, by dsimp only; rw [ghost0 (by omega) h0 h1]; exact h2⟩
theorem xP.turn {p a b x r y : Int} {t1 t2 t3 t4 : Tok} {k : Nat} (h : xP p a b (x, t1, y, t2, k)) (h0 : ¬ (y * y - x ^ Int.toNat 3 - a * x - b).fmod p = 0) (hr : Eqn r ((x + 1).fmod p)) : xP p a b (r, t3, yOf p a b r, t4, k - 1) ∧ k - 1 < k := by
  obtain ⟨h1, h2, h3, h4⟩ := h
  dsimp only at h1 h2 h3 h4
  have hk : 0 < k := by
    rcases Nat.eq_zero_or_pos k with e | e
    · rw [e, ghost2 (by omega) h1 h2] at h4
      rw [h3] at h0
      exact absurd h4 h0
    · exact e
  have hr' : r = (x + 1).fmod p := hr
  refine ⟨⟨?_, ?_, rfl, ?_⟩, by omega⟩
  · rw [hr']; exact Int.fmod_nonneg_of_pos _ (by omega)
  · rw [hr']; exact Int.fmod_lt_of_pos _ (by omega)
  · dsimp only; rw [hr', ghost1 (by omega) hk]; exact h4

/-- l0 lies in l -/
def Sub (l l0 : List (Addr × Obj)) : Prop := ∀ q ∈ l0, q ∈ l
theorem Sub.refl {l : List (Addr × Obj)} : Sub l l := fun _ h => h
theorem Sub.cons {p : Addr × Obj} {l l0 : List (Addr × Obj)} (h : Sub l l0) : Sub (p :: l) l0 := fun q hq => .tail _ (h q hq)
theorem Sub.app {a l l0 : List (Addr × Obj)} (h : Sub l l0) : Sub (a ++ l) l0 := fun q hq => List.mem_append.mpr (.inr (h q hq))
theorem Sub.appl {a l l0 : List (Addr × Obj)} (h : Sub l l0) : Sub (l ++ a) l0 := fun q hq => List.mem_append.mpr (.inl (h q hq))
theorem Outs.get {l : List (Addr × Obj)} : ∀ {vs : List Value} {ds : List (Int × Int)}, Outs l vs ds → ∀ k, k < ds.length → ∃ D t1 t2 c, vs[k]? = some (.ref D) ∧ (D, tup2 (ds.getD k (0, 0)).1 (ds.getD k (0, 0)).2 t1 t2 c) ∈ l
  | [], [], _, _, hk => absurd hk (Nat.not_lt_zero _)
  | [], _ :: _, h, _, _ => h.elim
  | _ :: _, [], h, _, _ => h.elim
  | v :: vs, d :: ds, h, 0, _ => by
    obtain ⟨⟨D, t1, t2, c, e, hm⟩, _⟩ := h
    exact ⟨D, t1, t2, c, by rw [e]; rfl, hm⟩
  | v :: vs, d :: ds, h, k + 1, hk => Outs.get h.2 k (Nat.lt_of_succ_lt_succ hk)
/-- due over a ledger -/
structure DueAt (l0 : List (Addr × Obj)) (W : Addr) (ds : List (Int × Int)) : Prop where
  is : ∃ us c, (W, listOf us.toArray c) ∈ l0 ∧ Outs l0 us ds
theorem due_item {w : World} {A : Around} {E : Value → Shared → Prop} {s : Shared} {h₀ : Heap} {L W : Addr} {l l0 : List (Addr × Obj)} {ds : List (Int × Int)} {k : Int} {u : Tok} {Q : Value → Shared → Prop} {value slice : PySem.Expr} {pr : Program}
    (N : News h₀ L s.heap l) (hs : Sub l l0) (hd : DueAt l0 W ds) (hk : 0 ≤ k ∧ k < (ds.length : Int)) (hk2 : k < 64)
    (h : ∀ D t1 t2 c, (D, tup2 (ds.getD k.toNat (0, 0)).1 (ds.getD k.toNat (0, 0)).2 t1 t2 c) ∈ l → Q (.ref D) s)
    (hsub : subscripted slice false (.ref W) (.int k u) = operate [.ref W, .int k u] (getItem (.ref W) (.int k u)) := by with_unfolding_all rfl) :
    wpAny (model pr w) A (subscriptTail value slice (.ref W) (.int k u)) Q E s := by
  obtain ⟨us, c, hm, hO⟩ := hd.is
  obtain ⟨D, t1, t2, c', hv, hm2⟩ := hO.get k.toNat (by omega)
  exact item_litK ⟨_, (N _ (hs _ hm)).1, rfl, c, rfl⟩ hk.1 (by omega) hv (h D t1 t2 c' (hs _ hm2)) hsub
section
variable {w : World} {A : Around} {E : Value → Shared → Prop} {s : Shared} {h₀ : Heap} {L D1 D2 : Addr} {l : List (Addr × Obj)} {r r' : Int × Int} {t1 t2 t1' t2' : Tok} {c c' : Nat} {Q : Value → Shared → Prop} {pr : Program}
theorem eqv2 {x y : Int} : PyData.eqv (.tuple [.int x, .int y]) (.tuple [.int x, .int y]) = true := by
  simp [PyData.eqv, PyData.eqvAll]
theorem ne_tup2 (N : News h₀ L s.heap l) (m1 : (D1, tup2 r.1 r.2 t1 t2 c) ∈ l) (m2 : (D2, tup2 r'.1 r'.2 t1' t2' c') ∈ l) (he : r = r') (hu : A.units + 64 < cLine) (h : Q (.bool false) s) :
    wpAny (model pr w) A (compareOp .NotEq (.ref D1) (.ref D2)) Q E s := by
  subst he
  refine ne_dataH (reads_tuple_at (N _ m1).1 rfl rfl (.cons (Reads.int _ _) (.cons (Reads.int _ _) .nil))) (reads_tuple_at (N _ m2).1 rfl rfl (.cons (Reads.int _ _) (.cons (Reads.int _ _) .nil))) rfl rfl hu ?_
  rw [eqv2]; exact h
theorem eq_tup2 (N : News h₀ L s.heap l) (m1 : (D1, tup2 r.1 r.2 t1 t2 c) ∈ l) (m2 : (D2, tup2 r'.1 r'.2 t1' t2' c') ∈ l) (he : r = r') (hu : A.units + 64 < cLine) (h : Q (.bool true) s) :
    wpAny (model pr w) A (compareOp .Eq (.ref D1) (.ref D2)) Q E s := by
  subst he
  refine eq_dataH (reads_tuple_at (N _ m1).1 rfl rfl (.cons (Reads.int _ _) (.cons (Reads.int _ _) .nil))) (reads_tuple_at (N _ m2).1 rfl rfl (.cons (Reads.int _ _) (.cons (Reads.int _ _) .nil))) rfl rfl hu ?_
  rw [eqv2]; exact h
end
theorem DueG.eqA {p N a b x y n : Int} {ds : List (Int × Int)} (h : DueG p N a b x y ds) (h0 : 0 ≤ n) (h1 : n < 23) : mulF p N a x y n = ds.getD n.toNat (0, 0) := (h.val n).trans (h.low n h0 h1)
theorem DueG.eqB {p N a b x y n r : Int} {ds : List (Int × Int)} (h : DueG p N a b x y ds) (hr : Eqn r (n.fmod N)) : mulF p N a x y n = ds.getD r.toNat (0, 0) := by rw [show r = _ from hr]; exact h.val n
theorem DueG.eqC {p N a b x y : Int} {ds : List (Int × Int)} (h : DueG p N a b x y ds) : mulF p N a x y N = ds.getD N.toNat (0, 0) := (h.val N).trans h.top
theorem Sub.mem {l l0 : List (Addr × Obj)} {q : Addr × Obj} (h : q ∈ l0) (hs : Sub l l0) : q ∈ l := hs q h
local macro_rules | `(tactic| walk_at "call ref") => `(tactic| (k_here; (with_reducible show wpAny _ _ (call (Value.ref 78) [Value.int _ _, Value.int _ _, Value.int _ _, Value.int _ _, Value.int _ _, Value.int _ _]) _ _ _); k_dflt (refine' Ctr.use (mul _ _ _ _ _ _ _ _ _ _ _ _ _ _ ?hP ?ha ?hb ?hx ?hy ?hm0 ?hm1) ?k1 ?k2 ?k3 ?k4 ?k5 ?kK ?kd ?ku ?_; (case k1 => k_asm); (case k2 => k_asm); (case k3 => k_asm); (case k4 => k_asm); (case k5 => k_asm); (case kK => first | exact rfl | assumption); (case hP => assumption); (case ha => first | assumption | exact Bd.small (by omega) (by omega)); (case hb => first | assumption | exact Bd.small (by omega) (by omega)); (case hx => first | assumption | exact Bd.small (by omega) (by omega)); (case hy => first | assumption | exact Bd.small (by omega) (by omega)); (case hm0 => split <;> omega); (case hm1 => split <;> omega); (case kd => ktr_room); (case ku => ktr_units)); intro v9 tl9 h9 tk9 F9 N9 hout9; rcases hout9 with ⟨W9, us9, c9, e9, hmW9, hO9⟩; subst e9; (have hD9 := DueAt.mk ⟨us9, c9, hmW9, hO9⟩); clear hmW9 hO9; (try dsimp only); (try k_fold)))
local macro_rules | `(tactic| walk_at "call ref") => `(tactic| (k_here; (with_reducible show wpAny _ _ (call (Value.ref 63) [Value.ref _, Value.int _ _, Value.ref _]) _ _ _); k_dflt (refine' Ctr.use (mult ?hm ?hc ?hP ?hx ?hy ?hA ?hy0 ?hN) ?k1 ?k2 ?k3 ?k4 ?k5 ?kK ?kd ?ku ?_; (case k1 => k_asm); (case k2 => k_asm); (case k3 => k_asm); (case k4 => k_asm); (case k5 => k_asm); (case kK => first | exact rfl | assumption); (case hm => k_mem); (case hc => first | assumption | ((refine Sub.mem (by assumption) ?_); repeat' (first | assumption | with_reducible exact Sub.refl | with_reducible exact Sub.appl Sub.refl | with_reducible apply Sub.cons | with_reducible apply Sub.app))); (case hP => assumption); (case hx => first | assumption | exact Bd.small (by omega) (by omega)); (case hy => first | assumption | exact Bd.small (by omega) (by omega)); (case hA => first | assumption | exact Bd.small (by omega) (by omega)); (case hy0 => first | assumption | omega); (case hN => first | assumption | (constructor <;> omega)); (case kd => ktr_room); (case ku => ktr_units)); intro v9 tl9 h9 tk9 F9 N9 hout9; rcases hout9 with ⟨D9, t91, t92, c9, e9, hm9⟩; subst e9; (try dsimp only); (try k_fold)))
theorem lit_item {w : World} {A : Around} {E : Value → Shared → Prop} {s : Shared} {h₀ : Heap} {L W : Addr} {l : List (Addr × Obj)} {vs : List Value} {c : Nat} {k : Int} {u : Tok} {v : Value} {Q : Value → Shared → Prop} {value slice : PySem.Expr} {pr : Program}
    (N : News h₀ L s.heap l) (hm : (W, listOf vs.toArray c) ∈ l) (hk : 0 ≤ k ∧ k < 2 ^ 63) (hx : vs[k.toNat]? = some v) (h : Q v s)
    (hsub : subscripted slice false (.ref W) (.int k u) = operate [.ref W, .int k u] (getItem (.ref W) (.int k u)) := by with_unfolding_all rfl) :
    wpAny (model pr w) A (subscriptTail value slice (.ref W) (.int k u)) Q E s := item_litK ⟨_, (N _ hm).1, rfl, c, rfl⟩ hk.1 hk.2 hx h hsub
local macro_rules | `(tactic| walk_at "subscriptTail Name Constant ref int") => `(tactic| (k_here; (rename Mk 7 => hmk7); (with_reducible show wpAny _ _ (subscriptTail _ _ (Value.ref _) (Value.int _ _)) _ _ _); k_dflt (refine' lit_item ?k1 ?k2 ?k3 ?k4 ?_ ?k6; (case k1 => k_asm); (case k2 => first | assumption | ((refine Sub.mem (by assumption) ?_); repeat' (first | assumption | with_reducible exact Sub.refl | with_reducible exact Sub.appl Sub.refl | with_reducible apply Sub.cons | with_reducible apply Sub.app))); (case k3 => decide); (case k4 => rfl); (case k6 => with_unfolding_all rfl)); (try dsimp only)))
local macro_rules | `(tactic| walk_at "subscriptTail Name Name ref int") => `(tactic| (k_here; (with_reducible show wpAny _ _ (subscriptTail _ _ (Value.ref _) (Value.int _ _)) _ _ _); k_dflt (refine' due_item ?k1 ?k2 ?k3 ?k4 ?k5 ?_ ?k6; (case k1 => k_asm); (case k3 => assumption); (case k2 => repeat' (first | assumption | with_reducible exact Sub.refl | with_reducible exact Sub.appl Sub.refl | with_reducible apply Sub.cons | with_reducible apply Sub.app)); (case k4 => (constructor <;> omega)); (case k5 => omega); (case k6 => with_unfolding_all rfl)); intro D8 t81 t82 c8 hm8))
local macro_rules | `(tactic| walk_at "subscriptTail Name BinOp ref int") => `(tactic| (k_here; (with_reducible show wpAny _ _ (subscriptTail _ _ (Value.ref _) (Value.int _ _)) _ _ _); k_dflt (refine' due_item ?k1 ?k2 ?k3 ?k4 ?k5 ?_ ?k6; (case k1 => k_asm); (case k3 => assumption); (case k2 => repeat' (first | assumption | with_reducible exact Sub.refl | with_reducible exact Sub.appl Sub.refl | with_reducible apply Sub.cons | with_reducible apply Sub.app)); (case k4 => (constructor <;> omega)); (case k5 => omega); (case k6 => with_unfolding_all rfl)); intro D8 t81 t82 c8 hm8))
local macro_rules | `(tactic| walk_at "compareOp NotEq ref ref") => `(tactic| (k_here; (with_reducible show wpAny _ _ (compareOp CmpOp.NotEq (Value.ref _) (Value.ref _)) _ _ _); k_dflt (refine' ne_tup2 ?k1 ?k2 ?k3 ?k4 ?k5 ?_; (case k1 => k_asm); (case k2 => assumption); (case k3 => assumption); (case k4 => first | exact DueG.eqB (by assumption) (by assumption) | exact DueG.eqA (by assumption) (by omega) (by omega)); (case k5 => ke_room))))
local macro_rules | `(tactic| walk_at "compareOp Eq ref ref") => `(tactic| (k_here; (with_reducible show wpAny _ _ (compareOp CmpOp.Eq (Value.ref _) (Value.ref _)) _ _ _); k_dflt (refine' eq_tup2 ?k1 ?k2 ?k3 ?k4 ?k5 ?_; (case k1 => k_asm); (case k2 => assumption); (case k3 => assumption); (case k4 => exact DueG.eqC (by assumption)); (case k5 => ke_room))))
local macro_rules | `(tactic| walk_at "exec If") => `(tactic| (k_here; (rename Mk 5 => hmk5); (fail_if_success (rename Mk 6 => hh)); (with_reducible show wpAny _ _ (exec (PySem.Stmt.If (PySem.Expr.Compare (PySem.Expr.BinOp (PySem.Expr.Subscript _ _ _) _ _ _) _ _ _) _ _ _) _) _ _ _); refine Stop.out ?_))
local macro_rules | `(tactic| walk_at "pyIter ref") => `(tactic| (k_here; (rename Mk 6 => hmk6); (rename IsRange _ _ _ _ _ _ _ _ => hrg); (fail_if_success (rename Mk 7 => hh)); refine Stop.out ?_))
local macro_rules | `(tactic| walk_at "InvEndN") => `(tactic| (k_here; refine Stop.out ?_))
theorem News.curve {h₀ h : Heap} {L C : Addr} {o : Obj} {tl rest : List (Addr × Obj)} (_ : News h₀ L h (tl ++ ((C, o) :: rest))) : (C, o) ∈ tl ++ ((C, o) :: rest) := List.mem_append.mpr (.inr (.head _))
theorem News.cells {h₀ h : Heap} {L : Addr} {q r : Addr × Obj} {tl : List (Addr × Obj)} (_ : News h₀ L h (tl ++ [q, r])) : r ∈ tl ++ [q, r] := List.mem_append.mpr (.inr (.tail _ (.head _)))
section
variable {prog : Program} {w : World} {A : Around} {E : Value → Shared → Prop} {s : Shared} {env : Env} {h₀ : Heap} {x : Str} {body : List Stmt} {Q : Flow → Shared → Prop}
theorem map_keep {m₁ m₀ : Str → Option Value} (o : Option Value) (h : ∀ z, z ≠ x → m₁ z = m₀ z) : (fun y => if y = x then o else m₁ y) = fun y => if y = x then o else m₀ y := by
  funext y
  by_cases e : y = x
  · rw [if_pos e, if_pos e]
  · rw [if_neg e, if_neg e]; exact h y e
theorem map_done {m₁ m₀ : Str → Option Value} (h : ∀ z, z ≠ x → m₁ z = m₀ z) : (fun y => if y = x then m₁ y else m₀ y) = m₁ := by
  funext y
  by_cases e : y = x
  · rw [if_pos e]
  · rw [if_neg e]; exact (h y e).symm
theorem turn_end {L : Addr} {h' : Heap} {m' m₀ : Str → Option Value} {l0 own news' : List (Addr × Obj)} {s₁ : Shared} {tk : Nat} (F : Fr h₀ L h' m') (N : News h₀ L h' news') (h1 : Sub news' l0) (h2 : Sub news' own) (h3 : ∀ z, z ≠ x → m' z = m₀ z) :
    Stop (InvEndN h₀ L (fun m' nx => nx = l0 ∧ ∀ z, z ≠ x → m' z = m₀ z) own (l0.map (·.1)) s₁ { s₁ with heap := h', toks := tk }) :=
  InvEndN.intro F N ⟨rfl, h3⟩ rfl h1 h2
theorem rng_loop {r : Addr} {a₀ b₀ : Int} {t₀ u₀ v₀ : Tok} {n : Nat} {l0 : List (Addr × Obj)} {m₀ : Str → Option Value} (hh : A.handled = none) (hr : IsRange s.heap r a₀ b₀ 1 t₀ u₀ v₀) (hsmall : Builtin.Range.small a₀ b₀ 1 = true) (hn : Builtin.Range.rangeSize a₀ b₀ 1 = (n : Int))
    (F : Fr h₀ env.locals s.heap m₀) (N : News h₀ env.locals s.heap l0)
    (turn : ∀ (k : Int) t h tk own, a₀ ≤ k ∧ k < a₀ + (n : Int) → OwnOff own (l0.map (·.1)) → Fr h₀ env.locals h (fun y => if y = x then some (.int k t) else m₀ y) → News h₀ env.locals h (l0 ++ own) →
      wpAny (model prog w) A (execs body env) (InvPostN h₀ env.locals (fun m' nx => nx = l0 ∧ ∀ z, z ≠ x → m' z = m₀ z) own (l0.map (·.1)) { s with heap := h, toks := tk } Q) E { s with heap := h, toks := tk })
    (done : ∀ (u : Str → Option Value) h tk, Fr h₀ env.locals h (fun y => if y = x then u y else m₀ y) → News h₀ env.locals h l0 → Q .next { s with heap := h, toks := tk }) :
    wpAny (model prog w) A (pyIter (.ref r)) (fun it s₂ => LoopAtV prog w A h₀ env x body Q E it s₂) E s := by
  refine kpr_invN (fun _ m' nx => nx = l0 ∧ ∀ z, z ≠ x → m' z = m₀ z) hh hr hsmall hn F N ⟨rfl, fun _ _ => rfl⟩ ?_ ?_
  · rintro i k t m₁ nx h tk own hk hoff ⟨rfl, hm⟩ F₁ N₁
    rw [map_keep _ hm] at F₁
    exact turn k t h tk own (mem_rangeKs (List.mem_of_getElem? hk)) hoff F₁ N₁
  · rintro m₁ nx h tk ⟨rfl, hm⟩ F₁ N₁
    exact done m₁ h tk (by rw [map_done hm]; exact F₁) N₁
theorem tup_loop {ax : Addr} {vs : List Value} {c : Nat} {l0 : List (Addr × Obj)} {m₀ : Str → Option Value} (hh : A.handled = none) (F : Fr h₀ env.locals s.heap m₀)
    (N : News h₀ env.locals s.heap ((ax, ({ cls := .type "tuple", data := .seq vs.toArray c } : Obj)) :: l0)) (hlt : ∀ p ∈ l0, p.1 < ax) (hi : ∀ v ∈ vs, ∃ k t, v = .int k t)
    (turn : ∀ (k : Int) t h tk own, OwnOff own (l0.map (·.1)) → Fr h₀ env.locals h (fun y => if y = x then some (.int k t) else m₀ y) → News h₀ env.locals h (l0 ++ own) →
      wpAny (model prog w) A (execs body env) (InvPostN h₀ env.locals (fun m' nx => nx = l0 ∧ ∀ z, z ≠ x → m' z = m₀ z) own (l0.map (·.1)) { s with heap := h, toks := tk } Q) E { s with heap := h, toks := tk })
    (done : ∀ (u : Str → Option Value) h tk, Fr h₀ env.locals h (fun y => if y = x then u y else m₀ y) → News h₀ env.locals h l0 → Q .next { s with heap := h, toks := tk }) :
    wpAny (model prog w) A (pyIter (.ref ax)) (fun it s₂ => LoopAtV prog w A h₀ env x body Q E it s₂) E s := by
  have hax := N _ (.head _)
  have ht : s.heap.IsTuple ax vs.toArray := ⟨_, hax.1, rfl, c, rfl⟩
  have hne : ax ≠ s.heap.objs.size := Nat.ne_of_lt (Heap.lt_size hax.1)
  have hmap : ∀ (m₁ : Str → Option Value) (o : Option Value), (∀ z, z ≠ x → m₁ z = m₀ z) → (fun y => if y = x then o else m₁ y) = fun y => if y = x then o else m₀ y := by
    intro m₁ o h
    funext y
    by_cases e : y = x
    · rw [if_pos e, if_pos e]
    · rw [if_neg e, if_neg e]; exact h y e
  refine wpAny_pyIter_tuple ht ?_
  refine loop_invN (news := l0) (m₀ := m₀) (fun _ m' nx => nx = l0 ∧ ∀ z, z ≠ x → m' z = m₀ z) (Walks.tuple hh s.heap.objs.size ax hne vs.toArray) ?_ ?_ ?_ ?_ ⟨⟨_, Heap.get?_push_size _ rfl, rfl, rfl⟩, ht.push _⟩ (F.push _) (fun p hp => ⟨Heap.get?_push_of_some _ (N p (.tail _ hp)).1, (N p (.tail _ hp)).2⟩) ⟨rfl, fun _ _ => rfl⟩ ?_ ?_
  · intro hm
    rcases List.mem_cons.mp hm with e | hm
    · exact absurd F.ns.lt (e ▸ Nat.lt_irrefl _)
    · exact hax.2.1 (List.mem_singleton.mp hm).symm
  · intro b hb
    rw [List.mem_singleton.mp hb]
    exact next_is_new F
  · intro p hp hI
    exact absurd (Heap.lt_size (N p (.tail _ hp)).1) ((List.mem_singleton.mp hI) ▸ Nat.lt_irrefl _)
  · intro p hp hI
    rcases List.mem_cons.mp hI with e | hI
    · exact absurd (Heap.lt_size (N p (.tail _ hp)).1) (e ▸ Nat.lt_irrefl _)
    · exact absurd (hlt p hp) ((List.mem_singleton.mp hI) ▸ Nat.lt_irrefl _)
  · rintro i v m₁ nx h tk own hin hP _ hoff ⟨rfl, hm⟩ F₁ N₁
    have hv : vs[i]? = some v := by simpa using hP
    obtain ⟨k, t, rfl⟩ := hi v (List.mem_of_getElem? hv)
    rw [hmap m₁ _ hm] at F₁
    exact turn k t h tk own hoff F₁ N₁
  · rintro m₁ nx h tk ⟨rfl, hm⟩ F₁ N₁
    refine done m₁ h tk ?_ N₁
    have e : (fun y => if y = x then m₁ y else m₀ y) = m₁ := by
      funext y
      by_cases e : y = x
      · rw [if_pos e]
      · rw [if_neg e]; exact (hm y e).symm
    rw [e]; exact F₁
end
local macro_rules | `(tactic| walk_at "exec For Name Tuple cons nil") => `(tactic| (k_here; (rename Mk 7 => hmk7); (rename Fr _ _ _ _ => F'); (with_unfolding_all refine For_invVF F' (by rfl) (by rfl) ?_)))
local macro_rules | `(tactic| walk_at "pyIter ref") => `(tactic| (k_here; (rename Mk 7 => hmk7); (fail_if_success (rename Mk 8 => hh)); refine Stop.out ?_))
theorem t (HF : Facts) : PySem.Challenge.rw_bb0055_01.Holds := hd (by
  k_go0
  (all_goals try k_fold)
  k_steps
  (have mk1 := Mk.mk 1)
  unfold Stop
  (rename (IntsAre _ (List.take 6 _ ++ _)) => hcs)
  obtain ⟨c0, c1, c2, c3, c4, c5, ecs⟩ := six_cells _
  rw [ecs] at hcs
  obtain ⟨t0, t1, t2, t3, t4, t5, ews⟩ := six_vals hcs
  subst ews
  clear hcs ecs
  (rename News _ _ _ _ => lN0)
  replace lN0 := News.first lN0
  dsimp only
  k_steps
  (have mk2 := Mk.mk 2)
  unfold Stop
  (rename (_ ≤ _ ∧ _ < (6 : Int)) => hc0)
  have hpm := prime_in hc0.1 hc0.2
  dsimp only [primes] at hpm
  generalize ([7, 11, 19, 23, 31, 43] : List Int).getD _ 0 = p at hpm ⊢
  obtain ⟨hP, hp7, hp43⟩ := prime_md hpm
  k_steps
  (have mk3 := Mk.mk 3)
  refine gen_store ?_
  intro a ha
  have ha1 : 1 ≤ a ∧ a < p := by omega
  k_steps
  (have mk4 := Mk.mk 4)
  refine gen_store ?_
  intro b hb
  have hb1 : 0 ≤ b ∧ b < p := by omega
  clear ha hb
  k_steps
  obtain ⟨gk, hgk⟩ := bP.start (t1 := 0) (t2 := 0) HF hpm ha1 hb1
  (rename Fr _ _ _ _ => lF')
  (rename News _ _ _ _ => lN')
  unfold Stop
  (with_unfolding_all refine' ksw_while (σ := Int × Tok × Int × Tok × Nat) (fun _ => _) (fun c => [(Str.ofString "b", Value.int c.1 c.2.1), (Str.ofString "many", Value.int c.2.2.1 c.2.2.2.1)]) (fun _ => True) [] (bP p a) (fun c => c.2.2.2.2) (b, _, countF p a b, _, gk) lF' lN' True.intro ?wk ?wp ?wt)
  case wk => kst_all
  case wp => exact hgk
  rintro ⟨b', tb', many', tm', gk'⟩ u h tk hT hbP FF NN
  clear hgk lF' lN'
  dsimp only [kstB] at FF NN ⊢
  have hB := hbP
  obtain ⟨hb2, hb3, hmany, _⟩ := hB
  dsimp only at hb2 hb3 hmany
  k_steps
  · (rename Fr _ _ _ _ => fE)
    (rename News _ _ _ _ => nE)
    unfold Stop
    (rename Eqn _ _ => eE)
    refine' ksw_end (_, _, _, _, gk' - 1) fE nE (fun p hp => hp) True.intro ?ek1 ?es1 ?ep1 ?em1
    case ek1 => kst_all
    case es1 => ksw_same
    case ep1 => exact (bP.turn hbP (by assumption) eE).1
    case em1 => exact (bP.turn (t3 := 0) (t4 := 0) hbP (by assumption) eE).2
  (rename ¬ many' = 0 => hm0)
  (have mk5 := Mk.mk 5)
  refine gen_store ?_
  intro x hx
  have hx1 : 0 ≤ x ∧ x < p := by omega
  clear hx
  k_steps
  rw [hmany] at hm0
  obtain ⟨gk2, hgk2⟩ := xP.start (t1 := 0) (t2 := 0) HF hpm ha1 ⟨hb2, hb3⟩ hm0 hx1
  (rename Fr _ _ _ _ => lF')
  (rename News _ _ _ _ => lN')
  unfold Stop
  (with_unfolding_all refine' ksw_while (σ := Int × Tok × Int × Tok × Nat) (fun _ => _) (fun c => [(Str.ofString "x", Value.int c.1 c.2.1), (Str.ofString "y", Value.int c.2.2.1 c.2.2.2.1)]) (fun _ => True) [] (xP p a b') (fun c => c.2.2.2.2) (x, _, yOf p a b' x, _, gk2) lF' lN' True.intro ?wk2 ?wp2 ?wt2)
  case wk2 => kst_all
  case wp2 => exact hgk2
  rintro ⟨x', tx', y', ty', gk2'⟩ u2 h2 tk2 hT2 hxP FF2 NN2
  clear hgk2 lF' lN'
  dsimp only [kstB] at FF2 NN2 ⊢
  have hX := hxP
  obtain ⟨hx2, hx3, hy, _⟩ := hX
  dsimp only at hx2 hx3 hy
  have hyB : Bd 6 y' := by rw [hy]; exact powI_B hP
  have hnum := HF.num p hpm a ha1.1 ha1.2 b' hb2 hb3 hm0
  rw [← hmany] at hnum
  have hxB : Bd 6 x' := Bd.small (by omega) (by omega)
  have haB : Bd 6 a := Bd.small (by omega) (by omega)
  k_steps
  · (rename Fr _ _ _ _ => fE)
    (rename News _ _ _ _ => nE)
    unfold Stop
    (rename Eqn _ (Int.fmod (_ + 1) _) => eX)
    (rename Eqn _ (Int.fmod (_ - _ - _ - _) _) => eC)
    (rename _ ≠ (0 : Int) => e0)
    refine' ksw_end (_, _, _, _, gk2' - 1) fE nE (fun p hp => hp) True.intro ?ek2 ?es2 ?ep2 ?em2
    case ek2 => kst_all
    case es2 => ksw_same
    case ep2 => exact (xP.turn hxP (fun h => e0 ((show _ = _ from eC).trans h)) eX).1
    case em2 => exact (xP.turn (t3 := 0) (t4 := 0) hxP (fun h => e0 ((show _ = _ from eC).trans h)) eX).2
  (rename Eqn _ (Int.fmod (_ - _ - _ - _) _) => eC)
  (rename _ = (0 : Int) => e0)
  have hon : onC p a b' x' := by
    have h := (show _ = _ from eC).symm.trans e0
    rw [hy] at h
    exact h
  obtain ⟨hy1, hy2, hG1⟩ := HF.main p hpm a ha1.1 ha1.2 b' hb2 hb3 hm0 x' hx2 hx3 hon y' (.inl hy)
  obtain ⟨hz1, hz2, hG2⟩ := HF.main p hpm a ha1.1 ha1.2 b' hb2 hb3 hm0 x' hx2 hx3 hon (p - y') (.inr (by rw [hy]))
  rw [← hmany] at hG1 hG2
  have hN2 : 2 ≤ many' ∧ many' < 64 := ⟨by omega, by omega⟩
  have hyB1 : Bd 6 y' := Bd.small (by omega) (by omega)
  have hyB2 : Bd 6 (p - y') := Bd.small (by omega) (by omega)
  have hy01 : y' ≠ 0 := by omega
  have hy02 : p - y' ≠ 0 := by omega
  have hl1 := hG1.len
  have hl2 := hG2.len
  clear eC e0 hxP hbP
  (have mk6 := Mk.mk 6)
  unfold Stop
  k_steps
  · (rename Fr _ _ _ _ => lF3)
    (rename News _ _ _ _ => lN3)
    (rename IsRange _ _ _ _ _ _ _ _ => rg3)
    have hcv := News.curve lN3
    have hcl := News.cells lN3
    unfold Stop
    (with_unfolding_all refine' rng_loop ?hhA1 rg3 ?hsA1 (rangeSize_nat _ _) lF3 lN3 ?ta1 ?da1)
    case hhA1 => rfl
    case hsA1 => exact small_one (by omega) (by omega) (by omega) (by omega)
    case ta1 =>
      intro k t h3 tk3 own hk hoff FF3 NN3
      have hk2 : 0 ≤ k ∧ k < 23 := by omega
      dsimp only at FF3 NN3 hoff ⊢
      k_steps
      (rename Fr _ _ _ _ => fE)
      (rename News _ _ _ _ => nE)
      refine turn_end fE nE ?_ ?_ (fun z h1 => if_neg h1)
      · repeat' (first | assumption | with_reducible exact Sub.refl | with_reducible exact Sub.appl Sub.refl | with_reducible apply Sub.cons | with_reducible apply Sub.app)
      · repeat' (first | assumption | with_reducible exact Sub.refl | with_reducible exact Sub.appl Sub.refl | with_reducible apply Sub.cons | with_reducible apply Sub.app)
    case da1 =>
      intro u3 h3 tk3 FF3 NN3
      dsimp only at FF3 NN3 ⊢
      (have mk7 := Mk.mk 7)
      k_steps
      (rename Fr _ _ _ _ => lF4)
      (rename News _ _ _ _ => lN4)
      unfold Stop
      (with_unfolding_all refine' tup_loop ?hhB1 lF4 lN4 ?lt1 ?hi1 ?tb1 ?db1)
      case hhB1 => rfl
      case lt1 => first | assumption | exact allLt_mem (by assumption)
      case hi1 =>
        intro v hv
        simp only [List.mem_cons, List.not_mem_nil, or_false] at hv
        rcases hv with rfl | rfl | rfl | rfl | rfl <;> exact ⟨_, _, rfl⟩
      case tb1 =>
        intro k t h4 tk4 own hoff FF4 NN4
        (have mk8 := Mk.mk 8)
        dsimp only at FF4 NN4 hoff ⊢
        k_steps
        (rename Fr _ _ _ _ => fE)
        (rename News _ _ _ _ => nE)
        refine turn_end fE nE ?_ ?_ (fun z h1 => if_neg h1)
        · repeat' (first | assumption | with_reducible exact Sub.refl | with_reducible exact Sub.appl Sub.refl | with_reducible apply Sub.cons | with_reducible apply Sub.app)
        · repeat' (first | assumption | with_reducible exact Sub.refl | with_reducible exact Sub.appl Sub.refl | with_reducible apply Sub.cons | with_reducible apply Sub.app)
      case db1 =>
        intro u4 h4 tk4 FF4 NN4
        (have mk8 := Mk.mk 8)
        dsimp only at FF4 NN4 ⊢
        k_steps
  · (rename Fr _ _ _ _ => lF3)
    (rename News _ _ _ _ => lN3)
    (rename IsRange _ _ _ _ _ _ _ _ => rg3)
    have hcv := News.curve lN3
    have hcl := News.cells lN3
    unfold Stop
    (with_unfolding_all refine' rng_loop ?hhA2 rg3 ?hsA2 (rangeSize_nat _ _) lF3 lN3 ?ta2 ?da2)
    case hhA2 => rfl
    case hsA2 => exact small_one (by omega) (by omega) (by omega) (by omega)
    case ta2 =>
      intro k t h3 tk3 own hk hoff FF3 NN3
      have hk2 : 0 ≤ k ∧ k < 23 := by omega
      dsimp only at FF3 NN3 hoff ⊢
      k_steps
      (rename Fr _ _ _ _ => fE)
      (rename News _ _ _ _ => nE)
      refine turn_end fE nE ?_ ?_ (fun z h1 => if_neg h1)
      · repeat' (first | assumption | with_reducible exact Sub.refl | with_reducible exact Sub.appl Sub.refl | with_reducible apply Sub.cons | with_reducible apply Sub.app)
      · repeat' (first | assumption | with_reducible exact Sub.refl | with_reducible exact Sub.appl Sub.refl | with_reducible apply Sub.cons | with_reducible apply Sub.app)
    case da2 =>
      intro u3 h3 tk3 FF3 NN3
      dsimp only at FF3 NN3 ⊢
      (have mk7 := Mk.mk 7)
      k_steps
      (rename Fr _ _ _ _ => lF4)
      (rename News _ _ _ _ => lN4)
      unfold Stop
      (with_unfolding_all refine' tup_loop ?hhB2 lF4 lN4 ?lt2 ?hi2 ?tb2 ?db2)
      case hhB2 => rfl
      case lt2 => first | assumption | exact allLt_mem (by assumption)
      case hi2 =>
        intro v hv
        simp only [List.mem_cons, List.not_mem_nil, or_false] at hv
        rcases hv with rfl | rfl | rfl | rfl | rfl <;> exact ⟨_, _, rfl⟩
      case tb2 =>
        intro k t h4 tk4 own hoff FF4 NN4
        (have mk8 := Mk.mk 8)
        dsimp only at FF4 NN4 hoff ⊢
        k_steps
        (rename Fr _ _ _ _ => fE)
        (rename News _ _ _ _ => nE)
        refine turn_end fE nE ?_ ?_ (fun z h1 => if_neg h1)
        · repeat' (first | assumption | with_reducible exact Sub.refl | with_reducible exact Sub.appl Sub.refl | with_reducible apply Sub.cons | with_reducible apply Sub.app)
        · repeat' (first | assumption | with_reducible exact Sub.refl | with_reducible exact Sub.appl Sub.refl | with_reducible apply Sub.cons | with_reducible apply Sub.app)
      case db2 =>
        intro u4 h4 tk4 FF4 NN4
        (have mk8 := Mk.mk 8)
        dsimp only at FF4 NN4 ⊢
        k_steps)
end Mine

end
theorem Mine.fresh10 : True := by (w_top off); first | (walk1; done) | trivial
-- part M1
section
set_option maxRecDepth 100000
namespace Mine.K
/-- 6 bits a cell -/
def get6 (T i : Nat) : Nat := Nat.mod (Nat.shiftRight T (Nat.mul 6 i)) 64
/-- a triple packed: x + 64 y + 4096 z -/
def pk (x y z : Nat) : Nat := (Nat.add (Nat.add x (Nat.mul 64 y)) (Nat.mul 4096 z))
def jX (J : Nat) : Nat := (Nat.mod J 64)
def jY (J : Nat) : Nat := (Nat.mod (Nat.div J 64) 64)
def jZ (J : Nat) : Nat := (Nat.div J 4096)
def dblC (p s m y z ysq nx : Nat) : Nat := pk nx (Nat.mod (Nat.add (Nat.mul m (Nat.add s (Nat.sub p nx))) (Nat.mul 8 (Nat.sub p (Nat.mod (Nat.mul ysq ysq) p)))) p) (Nat.mod (Nat.mul (Nat.mul 2 y) z) p)
def dblB (p s m y z ysq : Nat) : Nat := dblC p s m y z ysq (Nat.mod (Nat.add (Nat.mul m m) (Nat.mul 2 (Nat.sub p s))) p)
def dblA (p a x y z ysq zz : Nat) : Nat := dblB p (Nat.mod (Nat.mul (Nat.mul 4 x) ysq) p) (Nat.mod (Nat.add (Nat.mul (Nat.mul 3 x) x) (Nat.mul a (Nat.mul zz zz))) p) y z ysq
def dblN (p a J : Nat) : Nat := bif Nat.beq (jY J) 0 then 0 else dblA p a (jX J) (jY J) (jZ J) (Nat.mod (Nat.mul (jY J) (jY J)) p) (Nat.mod (Nat.mul (jZ J) (jZ J)) p)
def addD (p y z h r h3 u nx : Nat) : Nat := pk nx (Nat.mod (Nat.add (Nat.mul r (Nat.add u (Nat.sub p nx))) (Nat.sub p (Nat.mod (Nat.mul y h3) p))) p) (Nat.mod (Nat.mul h z) p)
def addC (p y z h r h3 u : Nat) : Nat := addD p y z h r h3 u (Nat.mod (Nat.add (Nat.add (Nat.mul r r) (Nat.sub p h3)) (Nat.mul 2 (Nat.sub p u))) p)
def addB (p x y z h r h2 : Nat) : Nat := addC p y z h r (Nat.mod (Nat.mul h h2) p) (Nat.mod (Nat.mul x h2) p)
def addA (p a x y z u2 s2 J : Nat) : Nat :=
  bif Nat.beq x u2 then (bif Nat.beq y s2 then dblN p a J else 4096) else
  addB p x y z (Nat.add u2 (Nat.sub p x)) (Nat.add s2 (Nat.sub p y)) (Nat.mod (Nat.mul (Nat.add u2 (Nat.sub p x)) (Nat.add u2 (Nat.sub p x))) p)
/-- add the affine point (x', y') -/
def addN (p a x' y' J : Nat) : Nat :=
  bif Nat.beq (jY J) 0 then pk x' y' 1 else
  addA p a (jX J) (jY J) (jZ J) (Nat.mod (Nat.mul x' (Nat.mod (Nat.mul (jZ J) (jZ J)) p)) p) (Nat.mod (Nat.mul y' (Nat.mul (Nat.mod (Nat.mul (jZ J) (jZ J)) p) (jZ J))) p) J
def affA (p x y zi : Nat) : Nat := (Nat.add (Nat.mod (Nat.mul x (Nat.mul zi zi)) p) (Nat.mul 64 (Nat.mod (Nat.mul y (Nat.mul (Nat.mul zi zi) zi)) p)))
/-- affine, packed -/
def affN (p T J : Nat) : Nat := affA p (jX J) (jY J) (get6 T (jZ J))
def wOdd (p w1 w2 w3 w4 : Nat) : Nat := (Nat.mod (Nat.add (Nat.mul w4 (Nat.mul (Nat.mul w2 w2) w2)) (Nat.mul w1 (Nat.sub p (Nat.mod (Nat.mul w3 (Nat.mul w3 w3)) p)))) p)
def wEven (p half w0 w1 w2 w3 w4 : Nat) : Nat := (Nat.mod (Nat.mul (Nat.mul w2 (Nat.add (Nat.mul w4 (Nat.mul w1 w1)) (Nat.mul w0 (Nat.sub p (Nat.mod (Nat.mul w3 w3) p))))) half) p)
/-- the next w; cell i of W is w(i - 2) -/
def wNewN (p half W n m : Nat) : Nat :=
  bif Nat.beq (Nat.mod n 2) 1 then wOdd p (get6 W (Nat.add m 1)) (get6 W (Nat.add m 2)) (get6 W (Nat.add m 3)) (get6 W (Nat.add m 4))
  else wEven p half (get6 W m) (get6 W (Nat.add m 1)) (get6 W (Nat.add m 2)) (get6 W (Nat.add m 3)) (get6 W (Nat.add m 4))
def wGo (p half : Nat) : Nat → Nat → Nat → Nat
  | 0, _, W => W
  | k + 1, n, W => wGo p half k (Nat.succ n) (Nat.add W (Nat.shiftLeft (wNewN p half W n (Nat.div n 2)) (Nat.mul 6 (Nat.add n 2))))
def w0N (p a b x y : Nat) : Nat :=
  Nat.add (Nat.sub p (Nat.mod (Nat.mul 2 y) p)) (Nat.add (Nat.mul 64 (Nat.sub p 1)) (Nat.add 262144 (Nat.add (Nat.mul 16777216 (Nat.mod (Nat.mul 2 y) p)) (Nat.add
    (Nat.mul 1073741824 (Nat.mod (Nat.add (Nat.add (Nat.add (Nat.mul 3 (Nat.mul (Nat.mul x x) (Nat.mul x x))) (Nat.mul (Nat.mul 6 a) (Nat.mul x x))) (Nat.mul (Nat.mul 12 b) x)) (Nat.sub p (Nat.mod (Nat.mul a a) p))) p))
    (Nat.mul 68719476736 (Nat.mod (Nat.mul (Nat.mul 4 y) (Nat.add (Nat.add (Nat.add (Nat.add (Nat.add (Nat.add (Nat.mul (Nat.mul (Nat.mul x x) x) (Nat.mul (Nat.mul x x) x)) (Nat.mul (Nat.mul 5 a) (Nat.mul (Nat.mul (Nat.mul x x) x) x))) (Nat.mul (Nat.mul 20 b) (Nat.mul (Nat.mul x x) x))) (Nat.mul 5 (Nat.sub p (Nat.mod (Nat.mul (Nat.mul a a) (Nat.mul x x)) p)))) (Nat.mul 4 (Nat.sub p (Nat.mod (Nat.mul (Nat.mul a b) x) p)))) (Nat.mul 8 (Nat.sub p (Nat.mod (Nat.mul b b) p)))) (Nat.sub p (Nat.mod (Nat.mul (Nat.mul a a) a) p)))) p))))))
def dueB (p x half w0 w1 w3 w4 bk : Nat) : Nat :=
  Nat.add (Nat.mod (Nat.add x (Nat.mul (Nat.mul w1 w3) (Nat.sub p (Nat.mod (Nat.mul bk bk) p)))) p) (Nat.mul 64 (Nat.mod (Nat.mul (Nat.mul (Nat.mul (Nat.add (Nat.mul w4 (Nat.mul w1 w1)) (Nat.mul w0 (Nat.sub p (Nat.mod (Nat.mul w3 w3) p)))) (Nat.mul (Nat.mul bk bk) bk)) half) (Nat.div (Nat.add p 1) 2)) p))
def dueN (p T x half W n : Nat) : Nat :=
  bif Nat.beq (get6 W (Nat.add n 2)) 0 then 0 else
  dueB p x half (get6 W n) (get6 W (Nat.add n 1)) (get6 W (Nat.add n 3)) (get6 W (Nat.add n 4)) (get6 T (get6 W (Nat.add n 2)))
def treeOk (p T a x y half W N : Nat) : Nat → Nat → Nat → Bool
  | 0, _, _ => false
  | f + 1, n, J => bif Nat.ble N n then true else
    bif Nat.beq (affN p T J) (dueN p T x half W n) then
      (bif treeOk p T a x y half W N f (Nat.mul 2 n) (dblN p a J) then treeOk p T a x y half W N f (Nat.add (Nat.mul 2 n) 1) (addN p a x y (dblN p a J)) else false)
    else false
def perOk (p T x half W N : Nat) : Nat → Nat → Bool
  | 0, _ => true
  | k + 1, n => bif Nat.beq (dueN p T x half W n) (dueN p T x half W (Nat.mod n N)) then perOk p T x half W N k (Nat.succ n) else false
def pointB (p T a x y N half top W : Nat) : Bool :=
  bif Nat.beq (dueN p T x half W 0) 0 then
    bif perOk p T x half W N (Nat.sub (Nat.add top 1) N) N then treeOk p T a x y half W N 7 1 (pk x y 1) else false
  else false
def pointA (p T a b x y N half top : Nat) : Bool := pointB p T a x y N half top (wGo p half (Nat.sub top 2) 5 (w0N p a b x y))
def topN (N : Nat) : Nat := bif Nat.ble N 22 then 22 else N
def pointOk (p T a b x y N : Nat) : Bool := pointA p T a b x y N (get6 T (Nat.mod (Nat.mul 2 y) p)) (topN N)
/-- the number of points, 0 if the cubic has a root; M the mask of the squares -/
def cntN (p M a b : Nat) : Nat → Nat → Nat
  | 0, acc => acc
  | x + 1, acc => bif Nat.beq (Nat.mod (Nat.add (Nat.add (Nat.mul x (Nat.mul x x)) (Nat.mul a x)) b) p) 0 then 0 else cntN p M a b x (Nat.add acc (Nat.mul 2 (Nat.mod (Nat.shiftRight M (Nat.mod (Nat.add (Nat.add (Nat.mul x (Nat.mul x x)) (Nat.mul a x)) b) p)) 2)))
/-- all y of one x -/
def yGo (p T a b x v N : Nat) : Nat → Bool
  | 0 => true
  | y + 1 => bif Nat.beq (Nat.mod (Nat.mul (Nat.add y 1) (Nat.add y 1)) p) v then (bif pointOk p T a b x (Nat.add y 1) N then yGo p T a b x v N y else false) else yGo p T a b x v N y
def xGo (p T a b N h : Nat) : Nat → Bool
  | 0 => true
  | x + 1 => bif yGo p T a b x (Nat.mod (Nat.add (Nat.add (Nat.mul x (Nat.mul x x)) (Nat.mul a x)) b) p) N h then xGo p T a b N h x else false
def bOk (p T a h b N : Nat) : Bool := bif Nat.beq N 0 then true else xGo p T a b N h p
def bGo (p T M a h : Nat) : Nat → Bool
  | 0 => true
  | b + 1 => bif bOk p T a h b (cntN p M a b p 1) then bGo p T M a h b else false
end Mine.K

end
-- part M3
section
set_option maxRecDepth 10000
namespace Mine
open Mine.K

/-! ### equal mod p -/
def Cg (p a b : Int) : Prop := ∃ k, a = b + p * k
section
variable {p a b c d : Int}
theorem Cg.refl (a : Int) : Cg p a a := ⟨0, by omega⟩
theorem Cg.of_eq (h : a = b) : Cg p a b := ⟨0, by omega⟩
theorem Cg.symm (h : Cg p a b) : Cg p b a := by
  obtain ⟨k, e⟩ := h
  exact ⟨-k, by rw [e, Int.mul_neg]; omega⟩
theorem Cg.trans (h : Cg p a b) (g : Cg p b c) : Cg p a c := by
  obtain ⟨k, e⟩ := h
  obtain ⟨l, f⟩ := g
  exact ⟨k + l, by rw [e, f, Int.mul_add]; omega⟩
theorem Cg.add (h : Cg p a b) (g : Cg p c d) : Cg p (a + c) (b + d) := by
  obtain ⟨k, e⟩ := h
  obtain ⟨l, f⟩ := g
  exact ⟨k + l, by rw [e, f, Int.mul_add]; omega⟩
theorem Cg.neg (h : Cg p a b) : Cg p (-a) (-b) := by
  obtain ⟨k, e⟩ := h
  exact ⟨-k, by rw [e, Int.mul_neg]; omega⟩
theorem Cg.sub (h : Cg p a b) (g : Cg p c d) : Cg p (a - c) (b - d) := by
  obtain ⟨k, e⟩ := h
  obtain ⟨l, f⟩ := g
  exact ⟨k - l, by rw [e, f, Int.mul_sub]; omega⟩
theorem Cg.mul (h : Cg p a b) (g : Cg p c d) : Cg p (a * c) (b * d) := by
  obtain ⟨k, e⟩ := h
  obtain ⟨l, f⟩ := g
  exact ⟨k * d + b * l + p * k * l, by subst e; subst f; grind⟩
theorem Cg.pow (h : Cg p a b) (n : Nat) : Cg p (a ^ n) (b ^ n) := by
  induction n with
  | zero => rw [Int.pow_zero, Int.pow_zero]; exact Cg.refl _
  | succ n ih => rw [Int.pow_succ, Int.pow_succ]; exact ih.mul h
theorem Cg.p0 : Cg p p 0 := ⟨1, by omega⟩
theorem Cg.fmod (hp : 0 < p) : Cg p (a.fmod p) a := ⟨-(a / p), by
  rw [Int.fmod_eq_emod_of_nonneg _ (by omega), Int.emod_def, Int.mul_neg]; omega⟩
theorem Cg.eq (h : Cg p a b) (h0 : 0 ≤ a ∧ a < p) (h1 : 0 ≤ b ∧ b < p) : a = b := by
  obtain ⟨k, e⟩ := h
  have h2 : a % p = b % p := by rw [e, Int.add_mul_emod_self_left]
  rw [Int.emod_eq_of_lt h0.1 h0.2, Int.emod_eq_of_lt h1.1 h1.2] at h2
  exact h2
end
/-- of the left side a number, of the right its rest: c is the number modulo p -/
theorem Cg.nmod {p a : Nat} : Cg (p : Int) ((a % p : Nat) : Int) (a : Int) := ⟨-((a / p : Nat) : Int), by
  have h := Nat.div_add_mod a p
  have h2 : (a : Int) = (p : Int) * ((a / p : Nat) : Int) + ((a % p : Nat) : Int) := by exact_mod_cast h.symm
  rw [Int.mul_neg]; omega⟩
/-- p - s stands for -s -/
theorem Cg.nsub {p s : Nat} {t : Int} (hs : s ≤ p) (h : Cg (p : Int) (s : Int) t) : Cg (p : Int) ((p - s : Nat) : Int) (-t) := by
  rw [Int.ofNat_sub hs]
  exact (Cg.p0.sub h).trans (Cg.of_eq (by omega))

/-! ### a triple and its small copy -/
/-- invertible -/
def Un (p c : Int) : Prop := ∃ d, Cg p (c * d) 1
theorem Un.mul {p c d : Int} (h : Un p c) (g : Un p d) : Un p (c * d) := by
  obtain ⟨x, hx⟩ := h
  obtain ⟨y, hy⟩ := g
  exact ⟨x * y, (Cg.of_eq (by grind)).trans ((hx.mul hy).trans (Cg.of_eq (by omega)))⟩
theorem Un.one {p : Int} : Un p 1 := ⟨1, Cg.of_eq rfl⟩
theorem Un.pow {p c : Int} (h : Un p c) : ∀ n : Nat, Un p (c ^ n)
  | 0 => by rw [Int.pow_zero]; exact Un.one
  | n + 1 => by rw [Int.pow_succ]; exact (h.pow n).mul h
theorem Un.cancel {p c a b : Int} (h : Un p c) (g : Cg p (c * a) (c * b)) : Cg p a b := by
  obtain ⟨d, hd⟩ := h
  have h1 : Cg p (d * (c * a)) (d * (c * b)) := (Cg.refl d).mul g
  have e1 : ∀ z, Cg p (d * (c * z)) z := fun z => (Cg.of_eq (by grind)).trans ((hd.mul (Cg.refl z)).trans (Cg.of_eq (by omega)))
  exact (e1 a).symm.trans (h1.trans (e1 b))

structure In (p : Int) (a : Int) : Prop where
  nn : 0 ≤ a
  lt : a < p
theorem In.fmod {p a : Int} (hp : 0 < p) : In p (a.fmod p) := ⟨Int.fmod_nonneg_of_pos _ hp, Int.fmod_lt_of_pos _ hp⟩
theorem In.eq0 {p a : Int} (h : In p a) (g : Cg p a 0) : a = 0 := g.eq ⟨h.nn, h.lt⟩ ⟨by omega, Int.lt_of_le_of_lt h.nn h.lt⟩

structure JR (p : Nat) (u c : Int) (X Y Z : Int) (x y z : Nat) : Prop where
  cx : Cg p X (u ^ 2 * c ^ 2 * x)
  cy : Cg p Y (u ^ 3 * c ^ 3 * y)
  cz : Cg p Z (c * z)
  ix : In p X
  iy : In p Y
  iz : In p Z
  nx : x < p
  ny : y < p
  nz : z < p
  un : Un p c

theorem JR.y0 {p : Nat} {u c X Y Z : Int} {x y z : Nat} (hu : Un p u) (h : JR p u c X Y Z x y z) : Y = 0 ↔ y = 0 := by
  constructor
  · intro e
    have h1 : Cg p ((u ^ 3 * c ^ 3) * (y : Int)) ((u ^ 3 * c ^ 3) * 0) := by
      have := h.cy.symm; rw [e] at this; exact this.trans (Cg.of_eq (by omega))
    have h2 := ((hu.pow 3).mul (h.un.pow 3)).cancel h1
    have h3 := In.eq0 (p := p) ⟨Int.natCast_nonneg y, by have := h.ny; omega⟩ h2
    omega
  · intro e
    have h1 := h.cy
    rw [e] at h1
    exact h.iy.eq0 (h1.trans (Cg.of_eq (by simp)))

theorem pk_x {x y z : Nat} (hx : x < 64) (hy : y < 64) : jX (pk x y z) = x ∧ jY (pk x y z) = y ∧ jZ (pk x y z) = z := by
  show (x + 64 * y + 4096 * z) % 64 = x ∧ (x + 64 * y + 4096 * z) / 64 % 64 = y ∧ (x + 64 * y + 4096 * z) / 4096 = z
  omega
theorem JR.intro {p : Nat} {u c X Y Z : Int} {x y z : Nat} (hp : p < 64) (h : JR p u c X Y Z x y z) : JR p u c X Y Z (jX (pk x y z)) (jY (pk x y z)) (jZ (pk x y z)) := by
  obtain ⟨e1, e2, e3⟩ := pk_x (z := z) (Nat.lt_trans h.nx hp) (Nat.lt_trans h.ny hp)
  rw [e1, e2, e3]; exact h
theorem dblN_zero {p a J : Nat} (h : jY J = 0) : dblN p a J = 0 := by unfold dblN; rw [h]; rfl
theorem dblN_pos {p a J : Nat} (h : jY J ≠ 0) : dblN p a J = dblA p a (jX J) (jY J) (jZ J) (jY J * jY J % p) (jZ J * jZ J % p) := by
  unfold dblN
  have e : Nat.beq (jY J) 0 = false := by
    cases hb : Nat.beq (jY J) 0 with
    | false => rfl
    | true => exact absurd (Nat.eq_of_beq_eq_true hb) h
  rw [e]; rfl
theorem mod_lt' {p n : Nat} (hp : 0 < p) : n % p < p := Nat.mod_lt _ hp

/-! ### the doubling as polynomials -/
def pM (a x z : Int) : Int := 3 * x ^ 2 + a * z ^ 4
def pS (x y : Int) : Int := 4 * x * y ^ 2
def pX (a x y z : Int) : Int := pM a x z ^ 2 - 2 * pS x y
def pY (a x y z : Int) : Int := pM a x z * (pS x y - pX a x y z) - 8 * (y ^ 2) ^ 2
def pZ (y z : Int) : Int := 2 * y * z
section
variable {p a x y z a' x' y' z' u c : Int}
theorem pM_cg (ha : Cg p a a') (hx : Cg p x x') (hz : Cg p z z') : Cg p (pM a x z) (pM a' x' z') := ((Cg.refl 3).mul (hx.pow 2)).add (ha.mul (hz.pow 4))
theorem pS_cg (hx : Cg p x x') (hy : Cg p y y') : Cg p (pS x y) (pS x' y') := ((Cg.refl 4).mul hx).mul (hy.pow 2)
theorem pX_cg (ha : Cg p a a') (hx : Cg p x x') (hy : Cg p y y') (hz : Cg p z z') : Cg p (pX a x y z) (pX a' x' y' z') := ((pM_cg ha hx hz).pow 2).sub ((Cg.refl 2).mul (pS_cg hx hy))
theorem pY_cg (ha : Cg p a a') (hx : Cg p x x') (hy : Cg p y y') (hz : Cg p z z') : Cg p (pY a x y z) (pY a' x' y' z') :=
  ((pM_cg ha hx hz).mul ((pS_cg hx hy).sub (pX_cg ha hx hy hz))).sub ((Cg.refl 8).mul ((hy.pow 2).pow 2))
theorem pZ_cg (hy : Cg p y y') (hz : Cg p z z') : Cg p (pZ y z) (pZ y' z') := ((Cg.refl 2).mul hy).mul hz
theorem pX_hom : pX (u ^ 4 * a) (u ^ 2 * c ^ 2 * x) (u ^ 3 * c ^ 3 * y) (c * z) = u ^ 2 * (u ^ 3 * c ^ 4) ^ 2 * pX a x y z := by unfold pX pM pS; grind
theorem pY_hom : pY (u ^ 4 * a) (u ^ 2 * c ^ 2 * x) (u ^ 3 * c ^ 3 * y) (c * z) = u ^ 3 * (u ^ 3 * c ^ 4) ^ 3 * pY a x y z := by unfold pY pX pM pS; grind
theorem pZ_hom : pZ (u ^ 3 * c ^ 3 * y) (c * z) = u ^ 3 * c ^ 4 * pZ y z := by unfold pZ; grind
end
section
variable {p : Nat}
/-- a number of the small copy stands for an int -/
abbrev Nr (p : Nat) (n : Nat) (t : Int) : Prop := Cg (p : Int) (n : Int) t
theorem Nr.mod {n : Nat} {t : Int} (h : Nr p n t) : Nr p (n % p) t := Cg.nmod.trans h
theorem Nr.add {m n : Nat} {s t : Int} (h : Nr p m s) (g : Nr p n t) : Nr p (m + n) (s + t) := by unfold Nr; rw [Int.natCast_add]; exact Cg.add h g
theorem Nr.mul {m n : Nat} {s t : Int} (h : Nr p m s) (g : Nr p n t) : Nr p (m * n) (s * t) := by unfold Nr; rw [Int.natCast_mul]; exact Cg.mul h g
theorem Nr.sub {n : Nat} {t : Int} (h : Nr p n t) (hn : n ≤ p) : Nr p (p - n) (-t) := Cg.nsub hn h
theorem Nr.refl (n : Nat) : Nr p n (n : Int) := Cg.refl _
theorem Nr.to {n : Nat} {t t' : Int} (h : Nr p n t) (e : t = t') : Nr p n t' := e ▸ h
end
theorem dbl_rel {p a : Nat} {u c A X Y Z : Int} {J : Nat} (hp : 0 < p) (hp64 : p < 64) (hu : Un p u) (hA : Cg p A (u ^ 4 * a)) (h : JR p u c X Y Z (jX J) (jY J) (jZ J)) :
    ∃ c', JR p u c' (dblF p A X Y Z).1 (dblF p A X Y Z).2.1 (dblF p A X Y Z).2.2 (jX (dblN p a J)) (jY (dblN p a J)) (jZ (dblN p a J)) := by
  have hpI : 0 < (p : Int) := by omega
  by_cases hy : Y = 0
  · have e : dblF p A X Y Z = (0, 0, 0) := if_pos hy
    rw [e, dblN_zero ((h.y0 hu).mp hy)]
    have i0 : In p 0 := ⟨by omega, hpI⟩
    exact ⟨1, Cg.of_eq (by show (0 : Int) = _ * ((0 : Nat) : Int); simp), Cg.of_eq (by show (0 : Int) = _ * ((0 : Nat) : Int); simp), Cg.of_eq (by show (0 : Int) = _ * ((0 : Nat) : Int); simp), i0, i0, i0, hp, hp, hp, Un.one⟩
  · have hy' : jY J ≠ 0 := fun e => hy ((h.y0 hu).mpr e)
    have e : dblF p A X Y Z = ((((3 * X ^ 2 + A * Z ^ 4).fmod p) ^ 2 - 2 * (4 * X * (Y ^ 2).fmod p).fmod p).fmod p,
      ((3 * X ^ 2 + A * Z ^ 4).fmod p * ((4 * X * (Y ^ 2).fmod p).fmod p - (((3 * X ^ 2 + A * Z ^ 4).fmod p) ^ 2 - 2 * (4 * X * (Y ^ 2).fmod p).fmod p).fmod p) - 8 * ((Y ^ 2).fmod p) ^ 2).fmod p,
      (2 * Y * Z).fmod p) := if_neg hy
    rw [e, dblN_pos hy']
    generalize jX J = x at h ⊢
    generalize jY J = y at h ⊢
    generalize jZ J = z at h ⊢
    -- the great one
    have bM : Cg p ((3 * X ^ 2 + A * Z ^ 4).fmod p) (pM A X Z) := Cg.fmod hpI
    have bS : Cg p ((4 * X * (Y ^ 2).fmod p).fmod p) (pS X Y) := (Cg.fmod hpI).trans (((Cg.refl (4 * X)).mul (Cg.fmod hpI)))
    have bX : Cg p ((((3 * X ^ 2 + A * Z ^ 4).fmod p) ^ 2 - 2 * (4 * X * (Y ^ 2).fmod p).fmod p).fmod p) (pX A X Y Z) := (Cg.fmod hpI).trans ((bM.pow 2).sub ((Cg.refl 2).mul bS))
    have bY : Cg p (((3 * X ^ 2 + A * Z ^ 4).fmod p * ((4 * X * (Y ^ 2).fmod p).fmod p - (((3 * X ^ 2 + A * Z ^ 4).fmod p) ^ 2 - 2 * (4 * X * (Y ^ 2).fmod p).fmod p).fmod p) - 8 * ((Y ^ 2).fmod p) ^ 2).fmod p) (pY A X Y Z) :=
      (Cg.fmod hpI).trans ((bM.mul (bS.sub bX)).sub ((Cg.refl 8).mul ((Cg.fmod hpI).pow 2)))
    have bZ : Cg p ((2 * Y * Z).fmod p) (pZ Y Z) := Cg.fmod hpI
    -- the small one
    have sq : Nr p (y * y % p) ((y : Int) ^ 2) := ((Nr.refl y).mul (Nr.refl y)).mod.to (by grind)
    have zz : Nr p (z * z % p) ((z : Int) ^ 2) := ((Nr.refl z).mul (Nr.refl z)).mod.to (by grind)
    have sS : Nr p (4 * x * (y * y % p) % p) (pS x y) := ((((Nr.refl 4).mul (Nr.refl x)).mul sq).mod).to (by unfold pS; rfl)
    have sM : Nr p ((3 * x * x + a * ((z * z % p) * (z * z % p))) % p) (pM a x z) := (((((Nr.refl 3).mul (Nr.refl x)).mul (Nr.refl x)).add ((Nr.refl a).mul (zz.mul zz))).mod).to (by unfold pM; grind)
    generalize hs : 4 * x * (y * y % p) % p = s at sS
    generalize hm : (3 * x * x + a * ((z * z % p) * (z * z % p))) % p = m at sM
    have ls : s < p := by rw [← hs]; exact Nat.mod_lt _ hp
    have sX : Nr p ((m * m + 2 * (p - s)) % p) (pX a x y z) := (((sM.mul sM).add ((Nr.refl 2).mul (sS.sub (Nat.le_of_lt ls)))).mod).to (by unfold pX; grind)
    generalize hn : (m * m + 2 * (p - s)) % p = n at sX
    have ln : n < p := by rw [← hn]; exact Nat.mod_lt _ hp
    have l4 : (y * y % p) * (y * y % p) % p < p := Nat.mod_lt _ hp
    have sY : Nr p ((m * (s + (p - n)) + 8 * (p - (y * y % p) * (y * y % p) % p)) % p) (pY a x y z) :=
      (((sM.mul (sS.add (sX.sub (Nat.le_of_lt ln)))).add ((Nr.refl 8).mul (((sq.mul sq).mod).sub (Nat.le_of_lt l4)))).mod).to (by unfold pY; grind)
    have sZ : Nr p (2 * y * z % p) (pZ y z) := ((((Nr.refl 2).mul (Nr.refl y)).mul (Nr.refl z)).mod).to (by unfold pZ; rfl)
    have eD : dblA p a x y z (y * y % p) (z * z % p) = pk n ((m * (s + (p - n)) + 8 * (p - (y * y % p) * (y * y % p) % p)) % p) (2 * y * z % p) := by
      rw [← hn, ← hm, ← hs]; rfl
    rw [eD]
    refine ⟨u ^ 3 * c ^ 4, JR.intro hp64 ⟨?_, ?_, ?_, In.fmod hpI, In.fmod hpI, In.fmod hpI, ln, Nat.mod_lt _ hp, Nat.mod_lt _ hp, (hu.pow 3).mul (h.un.pow 4)⟩⟩
    · exact (bX.trans (pX_cg hA h.cx h.cy h.cz)).trans ((Cg.of_eq pX_hom).trans ((Cg.refl _).mul sX.symm))
    · exact (bY.trans (pY_cg hA h.cx h.cy h.cz)).trans ((Cg.of_eq pY_hom).trans ((Cg.refl _).mul sY.symm))
    · exact (bZ.trans (pZ_cg h.cy h.cz)).trans ((Cg.of_eq pZ_hom).trans ((Cg.refl _).mul sZ.symm))
end Mine

end
-- part M4
section
set_option maxRecDepth 10000
namespace Mine
open Mine.K

/-! ### the addition as polynomials -/
def qH (x z x' : Int) : Int := x' * z ^ 2 - x
def qR (y z y' : Int) : Int := y' * z ^ 3 - y
def qX (x y z x' y' : Int) : Int := qR y z y' ^ 2 - qH x z x' * (qH x z x' * qH x z x') - 2 * (x * (qH x z x' * qH x z x'))
def qY (x y z x' y' : Int) : Int := qR y z y' * (x * (qH x z x' * qH x z x') - qX x y z x' y') - y * (qH x z x' * (qH x z x' * qH x z x'))
def qZ (x z x' : Int) : Int := qH x z x' * z
section
variable {p x y z x' y' X Y Z X' Y' u c : Int}
theorem qH_cg (hx : Cg p X x) (hz : Cg p Z z) (hx' : Cg p X' x') : Cg p (qH X Z X') (qH x z x') := (hx'.mul (hz.pow 2)).sub hx
theorem qR_cg (hy : Cg p Y y) (hz : Cg p Z z) (hy' : Cg p Y' y') : Cg p (qR Y Z Y') (qR y z y') := (hy'.mul (hz.pow 3)).sub hy
theorem qX_cg (hx : Cg p X x) (hy : Cg p Y y) (hz : Cg p Z z) (hx' : Cg p X' x') (hy' : Cg p Y' y') : Cg p (qX X Y Z X' Y') (qX x y z x' y') :=
  let H := qH_cg hx hz hx'
  (((qR_cg hy hz hy').pow 2).sub (H.mul (H.mul H))).sub ((Cg.refl 2).mul (hx.mul (H.mul H)))
theorem qY_cg (hx : Cg p X x) (hy : Cg p Y y) (hz : Cg p Z z) (hx' : Cg p X' x') (hy' : Cg p Y' y') : Cg p (qY X Y Z X' Y') (qY x y z x' y') :=
  let H := qH_cg hx hz hx'
  ((qR_cg hy hz hy').mul ((hx.mul (H.mul H)).sub (qX_cg hx hy hz hx' hy'))).sub (hy.mul (H.mul (H.mul H)))
theorem qZ_cg (hx : Cg p X x) (hz : Cg p Z z) (hx' : Cg p X' x') : Cg p (qZ X Z X') (qZ x z x') := (qH_cg hx hz hx').mul hz
theorem qX_hom : qX (u ^ 2 * c ^ 2 * x) (u ^ 3 * c ^ 3 * y) (c * z) (u ^ 2 * x') (u ^ 3 * y') = u ^ 2 * (u ^ 2 * c ^ 3) ^ 2 * qX x y z x' y' := by unfold qX qR qH; grind
theorem qY_hom : qY (u ^ 2 * c ^ 2 * x) (u ^ 3 * c ^ 3 * y) (c * z) (u ^ 2 * x') (u ^ 3 * y') = u ^ 3 * (u ^ 2 * c ^ 3) ^ 3 * qY x y z x' y' := by unfold qY qX qR qH; grind
theorem qZ_hom : qZ (u ^ 2 * c ^ 2 * x) (c * z) (u ^ 2 * x') = u ^ 2 * c ^ 3 * qZ x z x' := by unfold qZ qH; grind
end
theorem beq_f {m n : Nat} (h : m ≠ n) : Nat.beq m n = false := by
  cases hb : Nat.beq m n with
  | false => rfl
  | true => exact absurd (Nat.eq_of_beq_eq_true hb) h
theorem beq_t {m n : Nat} (h : m = n) : Nat.beq m n = true := by subst h; exact Nat.beq_refl m
theorem addN_zero {p a x' y' J : Nat} (h : jY J = 0) : addN p a x' y' J = pk x' y' 1 := by unfold addN; rw [h]; rfl
theorem addN_pos {p a x' y' J : Nat} (h : jY J ≠ 0) : addN p a x' y' J = addA p a (jX J) (jY J) (jZ J) (x' * (jZ J * jZ J % p) % p) (y' * ((jZ J * jZ J % p) * jZ J) % p) J := by
  unfold addN; rw [beq_f h]; rfl
theorem addA_ne {p a x y z u2 s2 J : Nat} (h : x ≠ u2) : addA p a x y z u2 s2 J = addB p x y z (u2 + (p - x)) (s2 + (p - y)) ((u2 + (p - x)) * (u2 + (p - x)) % p) := by
  unfold addA; rw [beq_f h]; rfl
theorem addA_dbl {p a x y z u2 s2 J : Nat} (h : x = u2) (g : y = s2) : addA p a x y z u2 s2 J = dblN p a J := by
  unfold addA; rw [beq_t h, beq_t g]; rfl
theorem addA_inf {p a x y z u2 s2 J : Nat} (h : x = u2) (g : y ≠ s2) : addA p a x y z u2 s2 J = 4096 := by
  unfold addA; rw [beq_t h, beq_f g]; rfl

theorem Cg.iff {p d a b : Int} {A B : Int} (hd : Un p d) (hA : Cg p A (d * a)) (hB : Cg p B (d * b)) (iA : In p A) (iB : In p B) (ia : In p a) (ib : In p b) : A = B ↔ a = b := by
  constructor
  · intro e
    subst e
    exact (hd.cancel (hA.symm.trans hB)).eq ⟨ia.nn, ia.lt⟩ ⟨ib.nn, ib.lt⟩
  · intro e
    subst e
    exact (hA.trans hB.symm).eq ⟨iA.nn, iA.lt⟩ ⟨iB.nn, iB.lt⟩
theorem In.nat {p n : Nat} (h : n < p) : In (p : Int) (n : Int) := ⟨Int.natCast_nonneg n, by omega⟩

theorem add_rel {p a x' y' : Nat} {u c A X Y Z X' Y' : Int} {J : Nat} (hp : 1 < p) (hp64 : p < 64) (hu : Un p u) (hA : Cg p A (u ^ 4 * a)) (h : JR p u c X Y Z (jX J) (jY J) (jZ J))
    (hX' : Cg p X' (u ^ 2 * x')) (hY' : Cg p Y' (u ^ 3 * y')) (iX : In p X') (iY : In p Y') (ix : x' < p) (iy : y' < p) (hne : Y' ≠ 0) :
    ∃ c', JR p u c' (addF p A X Y Z X' Y' 1).1 (addF p A X Y Z X' Y' 1).2.1 (addF p A X Y Z X' Y' 1).2.2 (jX (addN p a x' y' J)) (jY (addN p a x' y' J)) (jZ (addN p a x' y' J)) := by
  have hpI : 0 < (p : Int) := by omega
  have hp0 : 0 < p := by omega
  have i1 : In (p : Int) 1 := ⟨by omega, by omega⟩
  by_cases hy : Y = 0
  · have e : addF p A X Y Z X' Y' 1 = (X', Y', 1) := if_pos hy
    rw [e, addN_zero ((h.y0 hu).mp hy)]
    exact ⟨1, JR.intro hp64 ⟨hX'.trans (Cg.of_eq (by grind)), hY'.trans (Cg.of_eq (by grind)), Cg.of_eq (by show (1 : Int) = 1 * ((1 : Nat) : Int); omega), iX, iY, i1, ix, iy, hp, Un.one⟩⟩
  · have hy' : jY J ≠ 0 := fun e => hy ((h.y0 hu).mpr e)
    have e : addF p A X Y Z X' Y' 1 = (if (X * 1 ^ 2).fmod p = (X' * Z ^ 2).fmod p then (if (Y * 1 ^ 3).fmod p = (Y' * Z ^ 3).fmod p then dblF p A X Y Z else (0, 0, 1)) else
      ((((Y' * Z ^ 3).fmod p - (Y * 1 ^ 3).fmod p) ^ 2 - (((X' * Z ^ 2).fmod p - (X * 1 ^ 2).fmod p) * (((X' * Z ^ 2).fmod p - (X * 1 ^ 2).fmod p) * ((X' * Z ^ 2).fmod p - (X * 1 ^ 2).fmod p)).fmod p).fmod p - 2 * ((X * 1 ^ 2).fmod p * (((X' * Z ^ 2).fmod p - (X * 1 ^ 2).fmod p) * ((X' * Z ^ 2).fmod p - (X * 1 ^ 2).fmod p)).fmod p).fmod p).fmod p, (((Y' * Z ^ 3).fmod p - (Y * 1 ^ 3).fmod p) * (((X * 1 ^ 2).fmod p * (((X' * Z ^ 2).fmod p - (X * 1 ^ 2).fmod p) * ((X' * Z ^ 2).fmod p - (X * 1 ^ 2).fmod p)).fmod p).fmod p - (((Y' * Z ^ 3).fmod p - (Y * 1 ^ 3).fmod p) ^ 2 - (((X' * Z ^ 2).fmod p - (X * 1 ^ 2).fmod p) * (((X' * Z ^ 2).fmod p - (X * 1 ^ 2).fmod p) * ((X' * Z ^ 2).fmod p - (X * 1 ^ 2).fmod p)).fmod p).fmod p - 2 * ((X * 1 ^ 2).fmod p * (((X' * Z ^ 2).fmod p - (X * 1 ^ 2).fmod p) * ((X' * Z ^ 2).fmod p - (X * 1 ^ 2).fmod p)).fmod p).fmod p).fmod p) - (Y * 1 ^ 3).fmod p * (((X' * Z ^ 2).fmod p - (X * 1 ^ 2).fmod p) * (((X' * Z ^ 2).fmod p - (X * 1 ^ 2).fmod p) * ((X' * Z ^ 2).fmod p - (X * 1 ^ 2).fmod p)).fmod p).fmod p).fmod p, (((X' * Z ^ 2).fmod p - (X * 1 ^ 2).fmod p) * Z * 1).fmod p)) := (if_neg hy).trans (if_neg hne)
    have zz : Nr p (jZ J * jZ J % p) ((jZ J : Int) ^ 2) := ((Nr.refl _).mul (Nr.refl _)).mod.to (by grind)
    have su2 : Nr p (x' * (jZ J * jZ J % p) % p) ((x' : Int) * (jZ J : Int) ^ 2) := ((Nr.refl x').mul zz).mod
    have ss2 : Nr p (y' * ((jZ J * jZ J % p) * jZ J) % p) ((y' : Int) * (jZ J : Int) ^ 3) := ((Nr.refl y').mul (zz.mul (Nr.refl _))).mod.to (by grind)
    have lu2 : x' * (jZ J * jZ J % p) % p < p := Nat.mod_lt _ hp0
    have ls2 : y' * ((jZ J * jZ J % p) * jZ J) % p < p := Nat.mod_lt _ hp0
    have bU1 : Cg p ((X * 1 ^ 2).fmod p) X := (Cg.fmod hpI).trans (Cg.of_eq (by grind))
    have bS1 : Cg p ((Y * 1 ^ 3).fmod p) Y := (Cg.fmod hpI).trans (Cg.of_eq (by grind))
    have bU2 : Cg p ((X' * Z ^ 2).fmod p) (X' * Z ^ 2) := Cg.fmod hpI
    have bS2 : Cg p ((Y' * Z ^ 3).fmod p) (Y' * Z ^ 3) := Cg.fmod hpI
    have iU1 : In p ((X * 1 ^ 2).fmod p) := In.fmod hpI
    have iU2 : In p ((X' * Z ^ 2).fmod p) := In.fmod hpI
    have iS1 : In p ((Y * 1 ^ 3).fmod p) := In.fmod hpI
    have iS2 : In p ((Y' * Z ^ 3).fmod p) := In.fmod hpI
    have u1 := bU1.trans h.cx
    have s1 := bS1.trans h.cy
    have u2 : Cg p ((X' * Z ^ 2).fmod p) (u ^ 2 * c ^ 2 * ((x' * (jZ J * jZ J % p) % p : Nat) : Int)) :=
      (bU2.trans (hX'.mul (h.cz.pow 2))).trans ((Cg.of_eq (by grind : u ^ 2 * (x' : Int) * (c * (jZ J : Int)) ^ 2 = u ^ 2 * c ^ 2 * ((x' : Int) * (jZ J : Int) ^ 2))).trans ((Cg.refl _).mul su2.symm))
    have s2 : Cg p ((Y' * Z ^ 3).fmod p) (u ^ 3 * c ^ 3 * ((y' * ((jZ J * jZ J % p) * jZ J) % p : Nat) : Int)) :=
      (bS2.trans (hY'.mul (h.cz.pow 3))).trans ((Cg.of_eq (by grind : u ^ 3 * (y' : Int) * (c * (jZ J : Int)) ^ 3 = u ^ 3 * c ^ 3 * ((y' : Int) * (jZ J : Int) ^ 3))).trans ((Cg.refl _).mul ss2.symm))
    have k1 := Cg.iff ((hu.pow 2).mul (h.un.pow 2)) u1 u2 iU1 iU2 (In.nat h.nx) (In.nat lu2)
    have k2 := Cg.iff ((hu.pow 3).mul (h.un.pow 3)) s1 s2 iS1 iS2 (In.nat h.ny) (In.nat ls2)
    rw [e, addN_pos hy']
    by_cases e1 : (X * 1 ^ 2).fmod p = (X' * Z ^ 2).fmod p
    · have n1 : jX J = x' * (jZ J * jZ J % p) % p := by have := k1.mp e1; omega
      rw [if_pos e1]
      by_cases e2 : (Y * 1 ^ 3).fmod p = (Y' * Z ^ 3).fmod p
      · have n2 : jY J = y' * ((jZ J * jZ J % p) * jZ J) % p := by have := k2.mp e2; omega
        rw [if_pos e2, addA_dbl n1 n2]
        exact dbl_rel hp0 hp64 hu hA h
      · have n2 : jY J ≠ y' * ((jZ J * jZ J % p) * jZ J) % p := fun g => e2 (k2.mpr (by omega))
        rw [if_neg e2, addA_inf n1 n2]
        have i0 : In p 0 := ⟨by omega, hpI⟩
        exact ⟨1, Cg.of_eq (by show (0 : Int) = _ * ((0 : Nat) : Int); simp), Cg.of_eq (by show (0 : Int) = _ * ((0 : Nat) : Int); simp), Cg.of_eq (by show (1 : Int) = 1 * ((1 : Nat) : Int); omega), i0, i0, i1, hp0, hp0, hp, Un.one⟩
    · have n1 : jX J ≠ x' * (jZ J * jZ J % p) % p := fun g => e1 (k1.mpr (by omega))
      rw [if_neg e1, addA_ne n1]
      have lx := h.nx
      have ly := h.ny
      have hcx := h.cx
      have hcy := h.cy
      have hcz := h.cz
      have hun := h.un
      generalize jX J = x at *
      generalize jY J = y at *
      generalize jZ J = z at *
      generalize hu2 : x' * (z * z % p) % p = n2 at *
      generalize hs2 : y' * ((z * z % p) * z) % p = m2 at *
      generalize hU1 : (X * 1 ^ 2).fmod p = U1 at *
      generalize hU2 : (X' * Z ^ 2).fmod p = U2 at *
      generalize hS1 : (Y * 1 ^ 3).fmod p = S1 at *
      generalize hS2 : (Y' * Z ^ 3).fmod p = S2 at *
      have bH : Cg p (U2 - U1) (qH X Z X') := bU2.sub bU1
      have bR : Cg p (S2 - S1) (qR Y Z Y') := bS2.sub bS1
      have bH2 : Cg p (((U2 - U1) * (U2 - U1)).fmod p) (qH X Z X' * qH X Z X') := (Cg.fmod hpI).trans (bH.mul bH)
      have bH3 : Cg p (((U2 - U1) * ((U2 - U1) * (U2 - U1)).fmod p).fmod p) (qH X Z X' * (qH X Z X' * qH X Z X')) := (Cg.fmod hpI).trans (bH.mul bH2)
      have bU : Cg p ((U1 * ((U2 - U1) * (U2 - U1)).fmod p).fmod p) (X * (qH X Z X' * qH X Z X')) := (Cg.fmod hpI).trans (bU1.mul bH2)
      generalize hHH : ((U2 - U1) * (U2 - U1)).fmod p = H2 at *
      generalize hHHH : ((U2 - U1) * H2).fmod p = H3 at *
      generalize hUH : (U1 * H2).fmod p = UH at *
      have bX : Cg p (((S2 - S1) ^ 2 - H3 - 2 * UH).fmod p) (qX X Y Z X' Y') := (Cg.fmod hpI).trans (((bR.pow 2).sub bH3).sub ((Cg.refl 2).mul bU))
      have bY : Cg p (((S2 - S1) * (UH - ((S2 - S1) ^ 2 - H3 - 2 * UH).fmod p) - S1 * H3).fmod p) (qY X Y Z X' Y') := (Cg.fmod hpI).trans ((bR.mul (bU.sub bX)).sub (bS1.mul bH3))
      have bZ : Cg p (((U2 - U1) * Z * 1).fmod p) (qZ X Z X') := (Cg.fmod hpI).trans ((Cg.of_eq (by omega)).trans (bH.mul (Cg.refl Z)))
      -- the small one
      have sH : Nr p (n2 + (p - x)) (qH x z x') := (su2.add ((Nr.refl x).sub (Nat.le_of_lt lx))).to (by unfold qH; grind)
      have sR : Nr p (m2 + (p - y)) (qR y z y') := (ss2.add ((Nr.refl y).sub (Nat.le_of_lt ly))).to (by unfold qR; grind)
      generalize hh : n2 + (p - x) = hv at *
      generalize hr : m2 + (p - y) = r at *
      have sH2 : Nr p (hv * hv % p) (qH x z x' * qH x z x') := (sH.mul sH).mod
      generalize hh2 : hv * hv % p = h2 at *
      have sH3 : Nr p (hv * h2 % p) (qH x z x' * (qH x z x' * qH x z x')) := (sH.mul sH2).mod
      have sU : Nr p (x * h2 % p) (x * (qH x z x' * qH x z x')) := ((Nr.refl x).mul sH2).mod
      have l3 : hv * h2 % p < p := Nat.mod_lt _ hp0
      have lU : x * h2 % p < p := Nat.mod_lt _ hp0
      generalize hh3 : hv * h2 % p = h3 at *
      generalize huu : x * h2 % p = uu at *
      have sX : Nr p ((r * r + (p - h3) + 2 * (p - uu)) % p) (qX x y z x' y') := (((sR.mul sR).add (sH3.sub (Nat.le_of_lt l3))).add ((Nr.refl 2).mul (sU.sub (Nat.le_of_lt lU)))).mod.to (by unfold qX; grind)
      generalize hn : (r * r + (p - h3) + 2 * (p - uu)) % p = n at *
      have ln : n < p := by rw [← hn]; exact Nat.mod_lt _ hp0
      have l4 : y * h3 % p < p := Nat.mod_lt _ hp0
      have sY : Nr p ((r * (uu + (p - n)) + (p - y * h3 % p)) % p) (qY x y z x' y') :=
        ((sR.mul (sU.add (sX.sub (Nat.le_of_lt ln)))).add ((((Nr.refl y).mul sH3).mod).sub (Nat.le_of_lt l4))).mod.to (by unfold qY; grind)
      have sZ : Nr p (hv * z % p) (qZ x z x') := (sH.mul (Nr.refl z)).mod
      have eD : addB p x y z hv r h2 = pk n ((r * (uu + (p - n)) + (p - y * h3 % p)) % p) (hv * z % p) := by rw [← hn, ← huu, ← hh3]; rfl
      rw [eD]
      refine ⟨u ^ 2 * c ^ 3, JR.intro hp64 ⟨?_, ?_, ?_, In.fmod hpI, In.fmod hpI, In.fmod hpI, ln, Nat.mod_lt _ hp0, Nat.mod_lt _ hp0, (hu.pow 2).mul (hun.pow 3)⟩⟩
      · exact (bX.trans (qX_cg hcx hcy hcz hX' hY')).trans ((Cg.of_eq qX_hom).trans ((Cg.refl _).mul sX.symm))
      · exact (bY.trans (qY_cg hcx hcy hcz hX' hY')).trans ((Cg.of_eq qY_hom).trans ((Cg.refl _).mul sY.symm))
      · exact (bZ.trans (qZ_cg hcx hcz hX')).trans ((Cg.of_eq qZ_hom).trans ((Cg.refl _).mul sZ.symm))
end Mine

end
-- part M5
section
set_option maxRecDepth 10000
namespace Mine
open Mine.K

/-! ### the tables -/
def tabB (p T M v : Nat) : Bool :=
  Nat.blt (get6 T v) p && decide (invF v p = get6 T v) && decide (powI v ((p : Int) - 2) p = get6 T v) && (Nat.beq v 0 || Nat.beq (v * get6 T v % p) 1)
    && (decide (powI v (((p : Int) - 1).fdiv 2) p = 1) == Nat.beq (M >>> v % 2) 1)
structure Tab (p T M : Nat) : Prop where
  p3 : 3 < p
  p64 : p < 64
  all : (List.range p).all (tabB p T M) = true
theorem Tab.b {p T M v : Nat} (h : Tab p T M) (hv : v < p) : tabB p T M v = true := List.all_eq_true.mp h.all v (List.mem_range.mpr hv)
theorem Tab.lt {p T M v : Nat} (h : Tab p T M) (hv : v < p) : get6 T v < p := by
  have := h.b hv
  unfold tabB at this
  simp only [Bool.and_eq_true] at this
  exact Nat.le_of_ble_eq_true this.1.1.1.1
theorem Tab.inv {p T M v : Nat} (h : Tab p T M) (hv : v < p) : invF v p = get6 T v := by
  have := h.b hv
  unfold tabB at this
  simp only [Bool.and_eq_true, decide_eq_true_eq] at this
  exact this.1.1.1.2
theorem Tab.pow {p T M v : Nat} (h : Tab p T M) (hv : v < p) : powI v ((p : Int) - 2) p = get6 T v := by
  have := h.b hv
  unfold tabB at this
  simp only [Bool.and_eq_true, decide_eq_true_eq] at this
  exact this.1.1.2
theorem Tab.one {p T M v : Nat} (h : Tab p T M) (hv : v < p) (h0 : v ≠ 0) : Cg p ((v : Int) * (get6 T v : Int)) 1 := by
  have := h.b hv
  unfold tabB at this
  simp only [Bool.and_eq_true, Bool.or_eq_true] at this
  have e := Nat.eq_of_beq_eq_true (this.1.2.resolve_left fun g => h0 (Nat.eq_of_beq_eq_true g))
  have k := Cg.nmod (p := p) (a := v * get6 T v)
  rw [e] at k
  exact (Cg.of_eq (by push_cast; rfl)).trans (k.symm.trans (Cg.of_eq rfl))
theorem Tab.sq {p T M v : Nat} (h : Tab p T M) (hv : v < p) : powI v (((p : Int) - 1).fdiv 2) p = 1 ↔ M >>> v % 2 = 1 := by
  have := h.b hv
  unfold tabB at this
  simp only [Bool.and_eq_true, beq_iff_eq] at this
  have e := this.2
  constructor
  · intro g
    rw [decide_eq_true g] at e
    exact Nat.eq_of_beq_eq_true e.symm
  · intro g
    rw [beq_t g] at e
    exact of_decide_eq_true e
theorem tab7 : Tab 7 415572967488 22 := ⟨by decide, by decide, by decide +kernel⟩
theorem tab11 : Tab 11 11621292694978977856 570 := ⟨by decide, by decide, by decide +kernel⟩
theorem tab19 : Tab 19 5887462378682722050334060377841728 199410 := ⟨by decide, by decide, by decide +kernel⟩
theorem tab23 : Tab 23 120735464179389329037433061417624442814528 340830 := ⟨by decide, by decide, by decide +kernel⟩
theorem tab31 : Tab 31 46337921326408817932963854088369055483321511400487321664 303908790 := ⟨by decide, by decide, by decide +kernel⟩
theorem tab43 : Tab 43 306354503366400550862539270449193841785069579564707365312394676512021160484928 3678700564050 := ⟨by decide, by decide, by decide +kernel⟩

/-! ### affine points -/
structure PR (p : Nat) (u : Int) (d : Int × Int) (k : Nat) : Prop where
  cx : Cg p d.1 (u ^ 2 * (k % 64 : Nat))
  cy : Cg p d.2 (u ^ 3 * (k / 64 : Nat))
  ix : In p d.1
  iy : In p d.2
theorem PR.uniq {p k : Nat} {u : Int} {d e : Int × Int} (h : PR p u d k) (g : PR p u e k) : d = e :=
  Prod.ext ((h.cx.trans g.cx.symm).eq ⟨h.ix.nn, h.ix.lt⟩ ⟨g.ix.nn, g.ix.lt⟩) ((h.cy.trans g.cy.symm).eq ⟨h.iy.nn, h.iy.lt⟩ ⟨g.iy.nn, g.iy.lt⟩)
theorem PR.intro {p : Nat} {u : Int} {d : Int × Int} {x y : Nat} (hp : p < 64) (lx : x < p) (cx : Cg p d.1 (u ^ 2 * x)) (cy : Cg p d.2 (u ^ 3 * y)) (ix : In p d.1) (iy : In p d.2) : PR p u d (x + 64 * y) := by
  have e1 : (x + 64 * y) % 64 = x := by omega
  have e2 : (x + 64 * y) / 64 = y := by omega
  exact ⟨by rw [e1]; exact cx, by rw [e2]; exact cy, ix, iy⟩
theorem PR.zero {p : Nat} {u : Int} (hp : 0 < p) : PR p u (0, 0) 0 :=
  ⟨Cg.of_eq (by show (0 : Int) = _ * ((0 : Nat) : Int); simp), Cg.of_eq (by show (0 : Int) = _ * ((0 : Nat) : Int); simp), ⟨by decide, by show (0 : Int) < p; omega⟩, ⟨by decide, by show (0 : Int) < p; omega⟩⟩

theorem from_rel {p T M : Nat} {u c X Y Z : Int} {J : Nat} (ht : Tab p T M) (h : JR p u c X Y Z (jX J) (jY J) (jZ J)) : PR p u (fromF p X Y Z) (affN p T J) := by
  have hp0 : 0 < p := by have := ht.p3; omega
  have hpI : 0 < (p : Int) := by omega
  have hnx := h.nx; have hny := h.ny; have hnz := h.nz; have hcx := h.cx; have hcy := h.cy; have hcz := h.cz; have hun := h.un; have iz := h.iz
  show PR p u ((X * invF Z p ^ 2).fmod p, (Y * invF Z p ^ 3).fmod p) (jX J * (get6 T (jZ J) * get6 T (jZ J)) % p + 64 * (jY J * (get6 T (jZ J) * get6 T (jZ J) * get6 T (jZ J)) % p))
  generalize jX J = x at *
  generalize jY J = y at *
  generalize jZ J = z at *
  obtain ⟨Zn, hZ⟩ := Int.eq_ofNat_of_zero_le iz.nn
  have lZ : Zn < p := by have := iz.lt; omega
  subst hZ
  rw [show invF (Zn : Int) p = _ from ht.inv lZ]
  have lz := ht.lt hnz
  have lZi := ht.lt lZ
  have key : Cg p (c * (get6 T Zn : Int)) (get6 T z : Int) := by
    by_cases z0 : z = 0
    · have e : (Zn : Int) = 0 := iz.eq0 (hcz.trans (Cg.of_eq (by rw [z0]; simp)))
      have e' : Zn = 0 := by omega
      rw [z0, e']
      have k0 := ht.inv (v := 0) hp0
      have : invF ((0 : Nat) : Int) p = 0 := if_pos rfl
      rw [this] at k0
      rw [← k0]
      exact Cg.of_eq (by simp)
    · have Z0 : Zn ≠ 0 := by
        intro e
        refine z0 ?_
        have : Cg p (c * (z : Int)) (c * 0) := hcz.symm.trans (Cg.of_eq (by rw [e]; simp))
        have := (In.nat hnz).eq0 (hun.cancel this)
        omega
      have k1 := ht.one hnz z0
      have k2 := ht.one lZ Z0
      -- zi = zi (Z Zi) = zi c z Zi = c Zi
      have e1 : Cg p (get6 T z : Int) ((get6 T z : Int) * ((c * z) * (get6 T Zn : Int))) :=
        (Cg.of_eq (by omega)).trans ((Cg.refl _).mul (k2.symm.trans (hcz.mul (Cg.refl _))))
      have e2 : Cg p ((get6 T z : Int) * ((c * z) * (get6 T Zn : Int))) (c * (get6 T Zn : Int)) :=
        (Cg.of_eq (by grind : _ = ((z : Int) * (get6 T z : Int)) * (c * (get6 T Zn : Int)))).trans ((k1.mul (Cg.refl _)).trans (Cg.of_eq (by omega)))
      exact (e1.trans e2).symm
  generalize get6 T Zn = I at *
  generalize get6 T z = i at *
  have sx : Nr p (x * (i * i) % p) ((x : Int) * (i : Int) ^ 2) := ((Nr.refl x).mul ((Nr.refl i).mul (Nr.refl i))).mod.to (by grind)
  have sy : Nr p (y * (i * i * i) % p) ((y : Int) * (i : Int) ^ 3) := ((Nr.refl y).mul (((Nr.refl i).mul (Nr.refl i)).mul (Nr.refl i))).mod.to (by grind)
  refine PR.intro ht.p64 (Nat.mod_lt _ hp0) ?_ ?_ (In.fmod hpI) (In.fmod hpI)
  · refine ((Cg.fmod hpI).trans (hcx.mul (Cg.refl _))).trans ?_
    refine (Cg.of_eq (by grind : _ = u ^ 2 * ((x : Int) * (c * (I : Int)) ^ 2))).trans ((Cg.refl _).mul ?_)
    exact ((Cg.refl _).mul (key.pow 2)).trans sx.symm
  · refine ((Cg.fmod hpI).trans (hcy.mul (Cg.refl _))).trans ?_
    refine (Cg.of_eq (by grind : _ = u ^ 3 * ((y : Int) * (c * (I : Int)) ^ 3))).trans ((Cg.refl _).mul ?_)
    exact ((Cg.refl _).mul (key.pow 3)).trans sy.symm

/-! ### the multiples -/
theorem mulJ_fuel {P A x y : Int} : ∀ (f g : Nat) (n : Int), 0 ≤ n → n < 2 ^ f → n < 2 ^ g → mulJ P A x y f n = mulJ P A x y g n
  | 0, 0, _, _, _, _ => rfl
  | 0, g + 1, n, h0, h1, _ => by
    have : n = 0 := by have : (2 : Int) ^ 0 = 1 := rfl; omega
    subst this; rfl
  | f + 1, 0, n, h0, _, h1 => by
    have : n = 0 := by have : (2 : Int) ^ 0 = 1 := rfl; omega
    subst this; rfl
  | f + 1, g + 1, n, h0, h1, h2 => by
    have e : n.fdiv 2 = n / 2 := Int.fdiv_eq_ediv_of_nonneg _ (by omega)
    have i : mulJ P A x y f (n.fdiv 2) = mulJ P A x y g (n.fdiv 2) := mulJ_fuel f g _ (by omega) (by rw [Int.pow_succ] at h1; omega) (by rw [Int.pow_succ] at h2; omega)
    unfold mulJ
    rw [i]

section
variable {p T M a x y half W N : Nat} {u A X Y : Int}
theorem mulJ_two {n : Int} (h2 : 2 ≤ n) (h : n < 64) : mulJ p A X Y 6 n =
    (let d := mulJ p A X Y 6 (n.fdiv 2)
     let e := dblF p A d.1 d.2.1 d.2.2
     if n.fmod 2 = 0 then e else addF p A e.1 e.2.1 e.2.2 X Y 1) := by
  have e : n.fdiv 2 = n / 2 := Int.fdiv_eq_ediv_of_nonneg _ (by omega)
  have i : mulJ p A X Y 6 (n.fdiv 2) = mulJ p A X Y 5 (n.fdiv 2) := mulJ_fuel 6 5 _ (by omega) (by rw [e]; show n / 2 < 64; omega) (by rw [e]; show n / 2 < 32; omega)
  rw [i]
  exact (if_neg (by omega)).trans (if_neg (by omega))

theorem tree_in {f n J : Nat} (h : treeOk p T a x y half W N f n J = true) (hn : n < N) : affN p T J = dueN p T x half W n ∧ ∃ f', treeOk p T a x y half W N f' (2 * n) (dblN p a J) = true ∧ treeOk p T a x y half W N f' (2 * n + 1) (addN p a x y (dblN p a J)) = true := by
  cases f with
  | zero => cases h
  | succ f =>
    unfold treeOk at h
    have e : Nat.ble N n = false := by
      cases hb : Nat.ble N n with
      | false => rfl
      | true => have := Nat.le_of_ble_eq_true hb; omega
    rw [e] at h
    cases hb : Nat.beq (affN p T J) (dueN p T x half W n) with
    | false => rw [hb] at h; cases h
    | true =>
      rw [hb] at h
      cases ht : treeOk p T a x y half W N f (Nat.mul 2 n) (dblN p a J) with
      | false => rw [ht] at h; cases h
      | true =>
        rw [ht] at h
        exact ⟨Nat.eq_of_beq_eq_true hb, f, ht, h⟩

theorem tree_all (hp3 : 3 < p) (hp64 : p < 64) (hN : N ≤ 64) (hu : Un p u) (hA : Cg p A (u ^ 4 * a)) (hX : Cg p X (u ^ 2 * x)) (hY : Cg p Y (u ^ 3 * y)) (iX : In p X) (iY : In p Y) (ix : x < p) (iy : y < p) (hne : Y ≠ 0)
    {F : Nat} (h : treeOk p T a x y half W N F 1 (pk x y 1) = true) : ∀ m : Nat, 1 ≤ m → m < N → ∃ f J c, treeOk p T a x y half W N f m J = true ∧ JR p u c (mulJ p A X Y 6 m).1 (mulJ p A X Y 6 m).2.1 (mulJ p A X Y 6 m).2.2 (jX J) (jY J) (jZ J) := by
  intro m
  induction m using Nat.strongRecOn with
  | ind m ih =>
    intro h1 hm
    by_cases e1 : m = 1
    · subst e1
      refine ⟨F, _, 1, h, ?_⟩
      exact JR.intro hp64 ⟨hX.trans (Cg.of_eq (by grind)), hY.trans (Cg.of_eq (by grind)), Cg.of_eq (by show (1 : Int) = 1 * ((1 : Nat) : Int); omega), iX, iY, ⟨by show (0 : Int) ≤ 1; omega, by show (1 : Int) < p; omega⟩, ix, iy, by omega, Un.one⟩
    · obtain ⟨f, J, c, ht, hJ⟩ := ih (m / 2) (by omega) (by omega) (by omega)
      obtain ⟨_, f', hd, ha⟩ := tree_in ht (by omega)
      have ed : (m : Int).fdiv 2 = ((m / 2 : Nat) : Int) := by rw [Int.fdiv_eq_ediv_of_nonneg _ (by omega)]; omega
      have em : (m : Int).fmod 2 = ((m % 2 : Nat) : Int) := by rw [Int.fmod_eq_emod_of_nonneg _ (by omega)]; omega
      have ej := mulJ_two (p := p) (A := A) (X := X) (Y := Y) (n := (m : Int)) (by omega) (by omega)
      rw [ed, em] at ej
      obtain ⟨c', hD⟩ := dbl_rel (by omega) hp64 hu hA hJ
      by_cases e2 : m % 2 = 0
      · rw [e2] at ej
        have ej' : mulJ p A X Y 6 m = dblF p A (mulJ p A X Y 6 (m / 2 : Nat)).1 (mulJ p A X Y 6 (m / 2 : Nat)).2.1 (mulJ p A X Y 6 (m / 2 : Nat)).2.2 := ej.trans (if_pos rfl)
        rw [ej']
        exact ⟨f', _, c', by rw [show 2 * (m / 2) = m by omega] at hd; exact hd, hD⟩
      · rw [show m % 2 = 1 by omega] at ej
        have ej' := ej.trans (if_neg (by decide))
        obtain ⟨c2, hS⟩ := add_rel (by omega) hp64 hu hA hD hX hY iX iY ix iy hne
        rw [ej']
        exact ⟨f', _, c2, by rw [show 2 * (m / 2) + 1 = m by omega] at ha; exact ha, hS⟩

theorem mul_all (ht : Tab p T M) (hN : N ≤ 64) (hN1 : 0 < N) (hu : Un p u) (hA : Cg p A (u ^ 4 * a)) (hX : Cg p X (u ^ 2 * x)) (hY : Cg p Y (u ^ 3 * y)) (iX : In p X) (iY : In p Y) (ix : x < p) (iy : y < p) (hne : Y ≠ 0)
    {F : Nat} (h0 : dueN p T x half W 0 = 0) (h : treeOk p T a x y half W N F 1 (pk x y 1) = true) (m : Nat) (hm : m < N) :
    PR p u (fromF p (mulJ p A X Y 6 m).1 (mulJ p A X Y 6 m).2.1 (mulJ p A X Y 6 m).2.2) (dueN p T x half W m) := by
  have hp3 := ht.p3
  by_cases e : m = 0
  · subst e
    rw [h0]
    have e : mulJ p A X Y 6 ((0 : Nat) : Int) = (0, 0, 1) := if_pos rfl
    rw [e]
    have : fromF p 0 0 1 = (0, 0) := by unfold fromF; rw [Int.zero_mul, Int.zero_mul, Int.zero_fmod]
    show PR p u (fromF p 0 0 1) 0
    rw [this]
    exact PR.zero (by omega)
  · obtain ⟨f, J, c, hj, hJ⟩ := tree_all hp3 ht.p64 hN hu hA hX hY iX iY ix iy hne h m (by omega) hm
    rw [← (tree_in hj hm).1]
    exact from_rel ht hJ
end
end Mine

end
-- part M6
section
set_option maxRecDepth 10000
namespace Mine
open Mine.K
open PySem PySem.W PySem.Spec PySem.Calls PyProof.Rows

/-! ### the packed list -/
theorem pack_get {W v L i : Nat} (hW : W < 2 ^ (6 * L)) (hv : v < 64) : get6 (W + v <<< (6 * L)) i = if i < L then get6 W i else if i = L then v else 0 := by
  show ((W + v <<< (6 * L)) >>> (6 * i)) % 64 = if i < L then (W >>> (6 * i)) % 64 else if i = L then v else 0
  rw [Nat.shiftLeft_eq, Nat.shiftRight_eq_div_pow, Nat.shiftRight_eq_div_pow]
  split
  · obtain ⟨d, hd⟩ := Nat.exists_eq_add_of_lt ‹i < L›
    have e : 2 ^ (6 * L) = 2 ^ (6 * i) * (64 * 2 ^ (6 * d)) := by
      rw [show (64 : Nat) = 2 ^ 6 from rfl, ← Nat.pow_add, ← Nat.pow_add]; congr 1; omega
    rw [e, show W + v * (2 ^ (6 * i) * (64 * 2 ^ (6 * d))) = W + 2 ^ (6 * i) * (64 * (v * 2 ^ (6 * d))) by grind, Nat.add_mul_div_left _ _ (Nat.pow_pos (by omega))]
    omega
  · split
    · rename_i h
      subst h
      rw [Nat.add_mul_div_right _ _ (Nat.pow_pos (by omega)), Nat.div_eq_of_lt hW]
      omega
    · have hd : L + 1 ≤ i := by omega
      have h2 : W + v * 2 ^ (6 * L) < 2 ^ (6 * i) := by
        have h3 : 2 ^ (6 * (L + 1)) ≤ 2 ^ (6 * i) := Nat.pow_le_pow_right (by omega) (by omega)
        have h4 : 2 ^ (6 * (L + 1)) = 64 * 2 ^ (6 * L) := by rw [show (64 : Nat) = 2 ^ 6 from rfl, ← Nat.pow_add]; congr 1; omega
        have h5 : v * 2 ^ (6 * L) ≤ 63 * 2 ^ (6 * L) := Nat.mul_le_mul_right _ (by omega)
        omega
      rw [Nat.div_eq_of_lt h2]
theorem pack_lt {W v L : Nat} (hW : W < 2 ^ (6 * L)) (hv : v < 64) : W + v <<< (6 * L) < 2 ^ (6 * (L + 1)) := by
  rw [Nat.shiftLeft_eq]
  have h4 : 2 ^ (6 * (L + 1)) = 64 * 2 ^ (6 * L) := by rw [show (64 : Nat) = 2 ^ 6 from rfl, ← Nat.pow_add]; congr 1; omega
  have h5 : v * 2 ^ (6 * L) ≤ 63 * 2 ^ (6 * L) := Nat.mul_le_mul_right _ (by omega)
  omega

/-! ### weights -/
def ew (i : Nat) : Nat := i * i + 4 - 4 * i
theorem ew2 (k : Nat) : ew (k + 2) = k * k := by
  unfold ew
  have : (k + 2) * (k + 2) = k * k + 4 * k + 4 := by grind
  omega
theorem powpow (u : Int) (a b : Nat) : (u ^ a) ^ b = u ^ (a * b) := by
  induction b with
  | zero => rw [Int.pow_zero, Nat.mul_zero, Int.pow_zero]
  | succ b ih => rw [Int.pow_succ, ih, ← Int.pow_add]; congr 1
section
variable {p u w0 w1 w2 w3 w4 W0 W1 W2 W3 W4 h H : Int} {a0 a1 a2 a3 a4 s : Nat}
theorem odd_rel (hu : Un p u) (h4 : Cg p (u * w4) (u ^ a4 * W4)) (h2 : Cg p (u * w2) (u ^ a2 * W2)) (h1 : Cg p (u * w1) (u ^ a1 * W1)) (h3 : Cg p (u * w3) (u ^ a3 * W3))
    (e : a4 + a2 * 3 = s + 3) (f : a1 + a3 * 3 = s + 3) : Cg p (u * (w4 * w2 ^ 3 - w1 * w3 ^ 3)) (u ^ s * (W4 * W2 ^ 3 - W1 * W3 ^ 3)) := by
  have e1 : u ^ a4 * (u ^ a2) ^ 3 = u ^ s * u ^ 3 := by rw [powpow, ← Int.pow_add, ← Int.pow_add, e]
  have e2 : u ^ a1 * (u ^ a3) ^ 3 = u ^ s * u ^ 3 := by rw [powpow, ← Int.pow_add, ← Int.pow_add, f]
  refine (hu.pow 3).cancel ?_
  have k := (h4.mul (h2.pow 3)).sub (h1.mul (h3.pow 3))
  refine (Cg.of_eq ?_).trans (k.trans (Cg.of_eq ?_))
  · grind
  · generalize u ^ a4 = α at *
    generalize u ^ a2 = β at *
    generalize u ^ a1 = γ at *
    generalize u ^ a3 = δ at *
    generalize u ^ s = σ at *
    grind
/-- the bracket of the even ones and of the ordinate -/
theorem br_rel (hu : Un p u) (h4 : Cg p (u * w4) (u ^ a4 * W4)) (h1 : Cg p (u * w1) (u ^ a1 * W1)) (h0 : Cg p (u * w0) (u ^ a0 * W0)) (h3 : Cg p (u * w3) (u ^ a3 * W3))
    (e : a4 + a1 * 2 = s) (f : a0 + a3 * 2 = s) : Cg p (u ^ 3 * (w4 * w1 ^ 2 - w0 * w3 ^ 2)) (u ^ s * (W4 * W1 ^ 2 - W0 * W3 ^ 2)) := by
  have e1 : u ^ a4 * (u ^ a1) ^ 2 = u ^ s := by rw [powpow, ← Int.pow_add, e]
  have e2 : u ^ a0 * (u ^ a3) ^ 2 = u ^ s := by rw [powpow, ← Int.pow_add, f]
  have k := (h4.mul (h1.pow 2)).sub (h0.mul (h3.pow 2))
  refine (Cg.of_eq ?_).trans (k.trans (Cg.of_eq ?_))
  · grind
  · generalize u ^ a4 = α at *
    generalize u ^ a1 = β at *
    generalize u ^ a0 = γ at *
    generalize u ^ a3 = δ at *
    generalize u ^ s = σ at *
    grind
theorem even_rel {t : Nat} (hu : Un p u) (h4 : Cg p (u * w4) (u ^ a4 * W4)) (h1 : Cg p (u * w1) (u ^ a1 * W1)) (h0 : Cg p (u * w0) (u ^ a0 * W0)) (h3 : Cg p (u * w3) (u ^ a3 * W3)) (h2 : Cg p (u * w2) (u ^ a2 * W2)) (hh : Cg p (u ^ 3 * h) H)
    (e : a4 + a1 * 2 = s) (f : a0 + a3 * 2 = s) (g : a2 + s = t + 6) : Cg p (u * (w2 * (w4 * w1 ^ 2 - w0 * w3 ^ 2) * h)) (u ^ t * (W2 * (W4 * W1 ^ 2 - W0 * W3 ^ 2) * H)) := by
  have b := br_rel hu h4 h1 h0 h3 e f
  have e1 : u ^ a2 * u ^ s = u ^ t * u ^ 6 := by rw [← Int.pow_add, ← Int.pow_add, g]
  refine (hu.pow 6).cancel ?_
  have k := (h2.mul b).mul hh
  refine (Cg.of_eq ?_).trans (k.trans (Cg.of_eq ?_))
  · generalize w4 * w1 ^ 2 - w0 * w3 ^ 2 = B at *
    grind
  · generalize W4 * W1 ^ 2 - W0 * W3 ^ 2 = B at *
    generalize u ^ a2 = α at *
    generalize u ^ s = β at *
    generalize u ^ t = σ at *
    grind
end

structure WR (p : Nat) (u : Int) (w : List Int) (W : Nat) : Prop where
  cg : ∀ i, i < w.length → Cg p (u * w.getD i 0) (u ^ ew i * (get6 W i : Nat))
  lt : ∀ i, 2 ≤ i → i < w.length → get6 W i < p
  up : W < 2 ^ (6 * w.length)

theorem WR.snoc {p : Nat} {u : Int} {w : List Int} {W : Nat} {r : Int} {v : Nat} (h : WR p u w W) (hp : p < 64) (hv : v < p) (hr : Cg p (u * r) (u ^ ew w.length * v)) : WR p u (w ++ [r]) (W + v <<< (6 * w.length)) := by
  have hl : (w ++ [r]).length = w.length + 1 := by simp
  have hg : ∀ i, i < w.length + 1 → ((w ++ [r]).getD i 0 = if i < w.length then w.getD i 0 else r) := by
    intro i hi
    split
    · rw [List.getD_eq_getElem?_getD, List.getElem?_append_left ‹_›, List.getD_eq_getElem?_getD]
    · have : i = w.length := by omega
      subst this
      rw [List.getD_eq_getElem?_getD, List.getElem?_append_right (Nat.le_refl _)]
      simp
  refine ⟨fun i hi => ?_, fun i h2 hi => ?_, by rw [hl]; exact pack_lt h.up (by omega)⟩
  · rw [hl] at hi
    rw [hg i hi, pack_get h.up (by omega)]
    split
    · exact h.cg i ‹_›
    · have : i = w.length := by omega
      subst this
      rw [if_pos rfl]
      exact hr
  · rw [hl] at hi
    rw [pack_get h.up (by omega)]
    split
    · exact h.lt i h2 ‹_›
    · have : i = w.length := by omega
      subst this
      rw [if_pos rfl]
      exact hv

theorem new_rel {p : Nat} {u half : Int} {w : List Int} {W n h0 : Nat} (hp : 0 < p) (hp64 : p < 64) (hu : Un p u) (hh : Cg p (u ^ 3 * half) (h0 : Int)) (h : WR p u w W) (hn : 5 ≤ n) (hl : w.length = n + 2) :
    wNewN p h0 W n (n / 2) < p ∧ Cg p (u * wNew p half w n) (u ^ ew (n + 2) * (wNewN p h0 W n (n / 2) : Nat)) := by
  have hpI : 0 < (p : Int) := by omega
  have ed : (n : Int).fdiv 2 = ((n / 2 : Nat) : Int) := by rw [Int.fdiv_eq_ediv_of_nonneg _ (by omega)]; omega
  have em : (n : Int).fmod 2 = ((n % 2 : Nat) : Int) := by rw [Int.fmod_eq_emod_of_nonneg _ (by omega)]; omega
  obtain ⟨k, hk⟩ : ∃ k, n / 2 = k + 2 := ⟨n / 2 - 2, by omega⟩
  have c0 := h.cg (k + 2) (by omega)
  have c1 := h.cg (k + 1 + 2) (by omega)
  have c2 := h.cg (k + 2 + 2) (by omega)
  have c3 := h.cg (k + 3 + 2) (by omega)
  have c4 := h.cg (k + 4 + 2) (by omega)
  rw [ew2] at c0 c1 c2 c3 c4
  rw [ew2]
  unfold wNew wNewN
  rw [ed, em, hk]
  have t0 : ((k + 2 : Nat) : Int).toNat = k + 2 := by omega
  have t1 : (((k + 2 : Nat) : Int) + 1).toNat = k + 1 + 2 := by omega
  have t2 : (((k + 2 : Nat) : Int) + 2).toNat = k + 2 + 2 := by omega
  have t3 : (((k + 2 : Nat) : Int) + 3).toNat = k + 3 + 2 := by omega
  have t4 : (((k + 2 : Nat) : Int) + 4).toNat = k + 4 + 2 := by omega
  dsimp only
  rw [t0, t1, t2, t3, t4]
  have l3 := h.lt (k + 3 + 2) (by omega) (by omega)
  by_cases eo : n % 2 = 1
  · rw [eo, if_pos (by rfl), show Nat.beq (Nat.mod n 2) 1 = true from beq_t eo]
    show wOdd p (get6 W (k + 1 + 2)) (get6 W (k + 2 + 2)) (get6 W (k + 3 + 2)) (get6 W (k + 4 + 2)) < p ∧ Cg p _ (_ * (wOdd p (get6 W (k + 1 + 2)) (get6 W (k + 2 + 2)) (get6 W (k + 3 + 2)) (get6 W (k + 4 + 2)) : Nat))
    generalize get6 W (k + 1 + 2) = W1 at *
    generalize get6 W (k + 2 + 2) = W2 at *
    generalize get6 W (k + 3 + 2) = W3 at *
    generalize get6 W (k + 4 + 2) = W4 at *
    have en : n = 2 * k + 5 := by omega
    refine ⟨Nat.mod_lt _ hp, ?_⟩
    have l4 : W3 * (W3 * W3) % p < p := Nat.mod_lt _ hp
    have sm : Nr p ((W4 * (W2 * W2 * W2) + W1 * (p - W3 * (W3 * W3) % p)) % p) ((W4 : Int) * (W2 : Int) ^ 3 - (W1 : Int) * (W3 : Int) ^ 3) :=
      (((Nr.refl W4).mul (((Nr.refl W2).mul (Nr.refl W2)).mul (Nr.refl W2))).add ((Nr.refl W1).mul ((((Nr.refl W3).mul ((Nr.refl W3).mul (Nr.refl W3))).mod).sub (Nat.le_of_lt l4)))).mod.to (by grind)
    refine ((Cg.refl u).mul (Cg.fmod hpI)).trans ((odd_rel hu c4 c2 c1 c3 ?_ ?_).trans ((Cg.refl _).mul sm.symm))
    · subst en; grind
    · subst en; grind
  · have e0 : n % 2 = 0 := by omega
    rw [e0, if_neg (by decide), show Nat.beq (Nat.mod n 2) 1 = false from beq_f (by show n % 2 ≠ 1; omega)]
    show wEven p h0 (get6 W (k + 2)) (get6 W (k + 1 + 2)) (get6 W (k + 2 + 2)) (get6 W (k + 3 + 2)) (get6 W (k + 4 + 2)) < p ∧ Cg p _ (_ * (wEven p h0 (get6 W (k + 2)) (get6 W (k + 1 + 2)) (get6 W (k + 2 + 2)) (get6 W (k + 3 + 2)) (get6 W (k + 4 + 2)) : Nat))
    generalize get6 W (k + 2) = W0 at *
    generalize get6 W (k + 1 + 2) = W1 at *
    generalize get6 W (k + 2 + 2) = W2 at *
    generalize get6 W (k + 3 + 2) = W3 at *
    generalize get6 W (k + 4 + 2) = W4 at *
    have en : n = 2 * k + 4 := by omega
    refine ⟨Nat.mod_lt _ hp, ?_⟩
    have l4 : W3 * W3 % p < p := Nat.mod_lt _ hp
    have sm : Nr p (W2 * (W4 * (W1 * W1) + W0 * (p - W3 * W3 % p)) * h0 % p) ((W2 : Int) * ((W4 : Int) * (W1 : Int) ^ 2 - (W0 : Int) * (W3 : Int) ^ 2) * (h0 : Int)) :=
      (((Nr.refl W2).mul (((Nr.refl W4).mul ((Nr.refl W1).mul (Nr.refl W1))).add ((Nr.refl W0).mul ((((Nr.refl W3).mul (Nr.refl W3)).mod).sub (Nat.le_of_lt l4))))).mul (Nr.refl h0)).mod.to (by grind)
    refine ((Cg.refl u).mul (Cg.fmod hpI)).trans ((even_rel (s := 3 * k * k + 12 * k + 18) hu c4 c1 c0 c3 c2 hh ?_ ?_ ?_).trans ((Cg.refl _).mul sm.symm))
    · grind
    · grind
    · subst en; grind

theorem ranges_cons (a : Int) (k : Nat) : rangeKs a (k + 1) = a :: rangeKs (a + 1) k := by
  unfold rangeKs
  rw [List.range_succ_eq_map, List.map_cons, List.map_map]
  congr 1
  · omega
  · apply List.map_congr_left
    intro i _
    show a + ((i + 1 : Nat) : Int) = a + 1 + i
    omega
theorem go_rel {p : Nat} {u half : Int} {h0 : Nat} (hp : 0 < p) (hp64 : p < 64) (hu : Un p u) (hh : Cg p (u ^ 3 * half) (h0 : Int)) : ∀ (k n : Nat) (w : List Int) (W : Nat), WR p u w W → 5 ≤ n → w.length = n + 2 →
    WR p u ((rangeKs (n : Int) k).foldl (wStep p half) w) (wGo p h0 k n W) ∧ ((rangeKs (n : Int) k).foldl (wStep p half) w).length = n + 2 + k
  | 0, n, w, W, h, _, hl => ⟨h, hl⟩
  | k + 1, n, w, W, h, hn, hl => by
    rw [ranges_cons, List.foldl_cons]
    obtain ⟨g1, g2⟩ := new_rel hp hp64 hu hh h hn hl
    have hs := h.snoc hp64 g1 (by rw [hl]; exact g2)
    rw [hl] at hs
    have := go_rel hp hp64 hu hh k (n + 1) (w ++ [wNew p half w n]) _ hs (by omega) (by simp; omega)
    refine ⟨this.1, this.2.trans (by omega)⟩
end Mine

end
-- part M7
section
set_option maxRecDepth 10000
namespace Mine
open Mine.K
open PySem PySem.W PySem.Spec PySem.Calls PyProof.Rows

section
variable {p u A B X Y a b x y : Int}
def t5 (a b x : Int) : Int := 3 * x ^ 4 + 6 * a * x ^ 2 + 12 * b * x - a ^ 2
def t6 (a b x y : Int) : Int := 4 * y * (x ^ 6 + 5 * a * x ^ 4 + 20 * b * x ^ 3 - 5 * a ^ 2 * x ^ 2 - 4 * a * b * x - 8 * b ^ 2 - a ^ 3)
theorem t5_cg (hA : Cg p A a) (hB : Cg p B b) (hX : Cg p X x) : Cg p (t5 A B X) (t5 a b x) :=
  ((((Cg.refl 3).mul (hX.pow 4)).add (((Cg.refl 6).mul hA).mul (hX.pow 2))).add (((Cg.refl 12).mul hB).mul hX)).sub (hA.pow 2)
theorem t6_cg (hA : Cg p A a) (hB : Cg p B b) (hX : Cg p X x) (hY : Cg p Y y) : Cg p (t6 A B X Y) (t6 a b x y) :=
  ((Cg.refl 4).mul hY).mul (((((((hX.pow 6).add (((Cg.refl 5).mul hA).mul (hX.pow 4))).add (((Cg.refl 20).mul hB).mul (hX.pow 3))).sub (((Cg.refl 5).mul (hA.pow 2)).mul (hX.pow 2))).sub ((((Cg.refl 4).mul hA).mul hB).mul hX)).sub ((Cg.refl 8).mul (hB.pow 2))).sub (hA.pow 3))
theorem t5_hom : u * t5 (u ^ 4 * a) (u ^ 6 * b) (u ^ 2 * x) = u ^ 9 * t5 a b x := by unfold t5; grind
theorem t6_hom : u * t6 (u ^ 4 * a) (u ^ 6 * b) (u ^ 2 * x) (u ^ 3 * y) = u ^ 16 * t6 a b x y := by unfold t6; grind
end

theorem cells {c0 c1 c4 c5 c6 : Nat} (h0 : c0 < 64) (h1 : c1 < 64) (h4 : c4 < 64) (h5 : c5 < 64) (h6 : c6 < 64) {W : Nat} (e : W = c0 + (64 * c1 + (262144 + (16777216 * c4 + (1073741824 * c5 + 68719476736 * c6))))) :
    get6 W 0 = c0 ∧ get6 W 1 = c1 ∧ get6 W 2 = 0 ∧ get6 W 3 = 1 ∧ get6 W 4 = c4 ∧ get6 W 5 = c5 ∧ get6 W 6 = c6 ∧ W < 2 ^ 42 := by
  have g : ∀ i, get6 W i = W / 2 ^ (6 * i) % 64 := fun i => by
    show (W >>> (6 * i)) % 64 = _
    rw [Nat.shiftRight_eq_div_pow]
  rw [g, g, g, g, g, g, g]
  simp only [Nat.reduceMul, Nat.reducePow]
  omega

section
variable {p a b x y : Nat} {u A B X Y : Int}
theorem w0_rel (hp : 3 < p) (hp64 : p < 64) (hA : Cg p A (u ^ 4 * a)) (hB : Cg p B (u ^ 6 * b)) (hX : Cg p X (u ^ 2 * x)) (hY : Cg p Y (u ^ 3 * y)) (h2y : 2 * y % p ≠ 0) :
    WR p u (w0F p A B X Y) (w0N p a b x y) := by
  have hp0 : 0 < p := by omega
  have hpI : 0 < (p : Int) := by omega
  have l4 : 2 * y % p < p := Nat.mod_lt _ hp0
  have s4 : Nr p (2 * y % p) (2 * (y : Int)) := ((Nr.refl 2).mul (Nr.refl y)).mod
  have k1 : a * a % p < p := Nat.mod_lt _ hp0
  have k2 : a * a * (x * x) % p < p := Nat.mod_lt _ hp0
  have k3 : a * b * x % p < p := Nat.mod_lt _ hp0
  have k4 : b * b % p < p := Nat.mod_lt _ hp0
  have k5 : a * a * a % p < p := Nat.mod_lt _ hp0
  have ra := Nr.refl (p := p) a
  have rb := Nr.refl (p := p) b
  have rx := Nr.refl (p := p) x
  have ry := Nr.refl (p := p) y
  have s5 : Nr p ((3 * (x * x * (x * x)) + 6 * a * (x * x) + 12 * b * x + (p - a * a % p)) % p) (t5 a b x) :=
    (((((Nr.refl 3).mul ((rx.mul rx).mul (rx.mul rx))).add (((Nr.refl 6).mul ra).mul (rx.mul rx))).add (((Nr.refl 12).mul rb).mul rx)).add ((ra.mul ra).mod.sub (Nat.le_of_lt k1))).mod.to (by unfold t5; grind)
  have x3 := (rx.mul rx).mul rx
  have s6 : Nr p (4 * y * (x * x * x * (x * x * x) + 5 * a * (x * x * x * x) + 20 * b * (x * x * x) + 5 * (p - a * a * (x * x) % p) + 4 * (p - a * b * x % p) + 8 * (p - b * b % p) + (p - a * a * a % p)) % p) (t6 a b x y) :=
    (((Nr.refl 4).mul ry).mul (((((((x3.mul x3).add (((Nr.refl 5).mul ra).mul (x3.mul rx))).add (((Nr.refl 20).mul rb).mul x3)).add ((Nr.refl 5).mul (((ra.mul ra).mul (rx.mul rx)).mod.sub (Nat.le_of_lt k2)))).add ((Nr.refl 4).mul (((ra.mul rb).mul rx).mod.sub (Nat.le_of_lt k3)))).add ((Nr.refl 8).mul ((rb.mul rb).mod.sub (Nat.le_of_lt k4)))).add (((ra.mul ra).mul ra).mod.sub (Nat.le_of_lt k5)))).mod.to (by unfold t6; grind)
  have l5 : (3 * (x * x * (x * x)) + 6 * a * (x * x) + 12 * b * x + (p - a * a % p)) % p < p := Nat.mod_lt _ hp0
  have l6 : 4 * y * (x * x * x * (x * x * x) + 5 * a * (x * x * x * x) + 20 * b * (x * x * x) + 5 * (p - a * a * (x * x) % p) + 4 * (p - a * b * x % p) + 8 * (p - b * b % p) + (p - a * a * a % p)) % p < p := Nat.mod_lt _ hp0
  have hW : w0N p a b x y = (p - 2 * y % p) + (64 * (p - 1) + (262144 + (16777216 * (2 * y % p) + (1073741824 * ((3 * (x * x * (x * x)) + 6 * a * (x * x) + 12 * b * x + (p - a * a % p)) % p) + 68719476736 * (4 * y * (x * x * x * (x * x * x) + 5 * a * (x * x * x * x) + 20 * b * (x * x * x) + 5 * (p - a * a * (x * x) % p) + 4 * (p - a * b * x % p) + 8 * (p - b * b % p) + (p - a * a * a % p)) % p))))) := rfl
  have s0 : Nr p (p - 2 * y % p) (-(2 * (y : Int))) := s4.sub (Nat.le_of_lt l4)
  have s1 : Nr p (p - 1) (-1) := (Nr.refl 1).sub (by omega)
  obtain ⟨g0, g1, g2, g3, g4, g5, g6, gu⟩ := cells (by omega) (by omega) (by omega) (by omega) (by omega) hW
  refine ⟨fun i hi => ?_, fun i h2 hi => ?_, gu⟩
  · have hi : i < 7 := hi
    match i, hi with
    | 0, _ =>
      rw [g0]; show Cg p (u * (-2 * Y)) (u ^ 4 * _)
      refine ((Cg.refl u).mul ((Cg.refl (-2)).mul hY)).trans ((Cg.of_eq ?_).trans ((Cg.refl _).mul s0.symm)); grind
    | 1, _ =>
      rw [g1]; show Cg p (u * (-1)) (u ^ 1 * _)
      refine (Cg.of_eq ?_).trans ((Cg.refl _).mul s1.symm); grind
    | 2, _ => rw [g2]; exact Cg.of_eq (by show u * 0 = u ^ 0 * ((0 : Nat) : Int); simp)
    | 3, _ => rw [g3]; exact Cg.of_eq (by show u * 1 = u ^ 1 * ((1 : Nat) : Int); grind)
    | 4, _ =>
      rw [g4]; show Cg p (u * (2 * Y)) (u ^ 4 * _)
      refine ((Cg.refl u).mul ((Cg.refl 2).mul hY)).trans ((Cg.of_eq ?_).trans ((Cg.refl _).mul s4.symm)); grind
    | 5, _ =>
      rw [g5]; show Cg p (u * (t5 A B X).fmod p) (u ^ 9 * _)
      exact ((Cg.refl u).mul ((Cg.fmod hpI).trans (t5_cg hA hB hX))).trans ((Cg.of_eq t5_hom).trans ((Cg.refl _).mul s5.symm))
    | 6, _ =>
      rw [g6]; show Cg p (u * (t6 A B X Y).fmod p) (u ^ 16 * _)
      exact ((Cg.refl u).mul ((Cg.fmod hpI).trans (t6_cg hA hB hX hY))).trans ((Cg.of_eq t6_hom).trans ((Cg.refl _).mul s6.symm))
  · have hi : i < 7 := hi
    match i, h2, hi with
    | 2, _, _ => rw [g2]; omega
    | 3, _, _ => rw [g3]; omega
    | 4, _, _ => rw [g4]; exact l4
    | 5, _, _ => rw [g5]; exact l5
    | 6, _, _ => rw [g6]; exact l6
end

theorem ewA (n : Nat) : ew (n + 4) + ew (n + 1) * 2 = 3 * ew (n + 2) + 6 ∧ ew n + ew (n + 3) * 2 = 3 * ew (n + 2) + 6 ∧ ew (n + 1) + ew (n + 3) = 2 * ew (n + 2) + 2 := by
  match n with
  | 0 => decide
  | 1 => decide
  | k + 2 =>
    rw [show ew (k + 2 + 4) = _ from ew2 (k + 4), show ew (k + 2 + 1) = _ from ew2 (k + 1), show ew (k + 2 + 2) = _ from ew2 (k + 2), show ew (k + 2 + 3) = _ from ew2 (k + 3), ew2]
    exact ⟨by grind, by grind, by grind⟩

theorem due_rel {p T M x h0 W n : Nat} {u X half : Int} {w : List Int} (ht : Tab p T M) (hodd : p % 2 = 1) (hu : Un p u) (hX : Cg p X (u ^ 2 * x)) (hh : Cg p (u ^ 3 * half) (h0 : Int)) (h : WR p u w W) (hn : n + 4 < w.length) :
    PR p u (dueAt p X half w n) (dueN p T x h0 W n) := by
  have hp0 : 0 < p := by have := ht.p3; omega
  have hpI : 0 < (p : Int) := by omega
  have c0 := h.cg n (by omega)
  have c1 := h.cg (n + 1) (by omega)
  have c2 := h.cg (n + 2) (by omega)
  have c3 := h.cg (n + 3) (by omega)
  have c4 := h.cg (n + 4) (by omega)
  have l2 := h.lt (n + 2) (by omega) (by omega)
  obtain ⟨e1, e2, e3⟩ := ewA n
  unfold dueAt dueN
  rw [show (n : Int).toNat = n by omega, show ((n : Int) + 1).toNat = n + 1 by omega, show ((n : Int) + 2).toNat = n + 2 by omega, show ((n : Int) + 3).toNat = n + 3 by omega, show ((n : Int) + 4).toNat = n + 4 by omega]
  show PR p u _ (bif Nat.beq (get6 W (n + 2)) 0 then 0 else dueB p x h0 (get6 W n) (get6 W (n + 1)) (get6 W (n + 3)) (get6 W (n + 4)) (get6 T (get6 W (n + 2))))
  generalize get6 W n = W0 at *
  generalize get6 W (n + 1) = W1 at *
  generalize get6 W (n + 2) = W2 at *
  generalize get6 W (n + 3) = W3 at *
  generalize get6 W (n + 4) = W4 at *
  generalize w.getD n 0 = w0 at *
  generalize w.getD (n + 1) 0 = w1 at *
  generalize w.getD (n + 2) 0 = w2 at *
  generalize w.getD (n + 3) 0 = w3 at *
  generalize w.getD (n + 4) 0 = w4 at *
  generalize ew n = x0 at *
  generalize ew (n + 1) = x1 at *
  generalize ew (n + 2) = x2 at *
  generalize ew (n + 3) = x3 at *
  generalize ew (n + 4) = x4 at *
  dsimp only
  have iH : In p (w2.fmod p) := In.fmod hpI
  have ch : Cg p (u * w2.fmod p) (u ^ x2 * W2) := ((Cg.refl u).mul (Cg.fmod hpI)).trans c2
  obtain ⟨H, hH⟩ := Int.eq_ofNat_of_zero_le iH.nn
  rw [hH] at iH ch ⊢
  have lH : H < p := by have := iH.lt; omega
  by_cases hz : W2 = 0
  · have : (H : Int) = 0 := by
      refine iH.eq0 (hu.cancel (ch.trans (Cg.of_eq ?_)))
      rw [hz]; simp
    rw [if_pos this, beq_t hz]
    exact PR.zero hp0
  · have hz' : ¬ (H : Int) = 0 := by
      intro e
      rw [e] at ch
      have := (In.nat l2).eq0 ((hu.pow x2).cancel (ch.symm.trans (Cg.of_eq (by simp))))
      omega
    rw [if_neg hz', beq_f hz, ht.pow lH]
    have q1 := ht.one lH (by omega)
    have q2 := ht.one l2 hz
    show PR p u _ ((x + W1 * W3 * (p - get6 T W2 * get6 T W2 % p)) % p + 64 * ((W4 * (W1 * W1) + W0 * (p - W3 * W3 % p)) * (get6 T W2 * get6 T W2 * get6 T W2) * h0 * ((p + 1) / 2) % p))
    generalize get6 T W2 = bk at *
    generalize get6 T H = I at *
    have key : Cg p (u ^ x2 * I) (u * bk) := by
      have k1 := (ch.mul (Cg.refl ((I : Int) * bk))).symm
      refine (Cg.of_eq (by omega : u ^ x2 * (I : Int) = u ^ x2 * (I : Int) * 1)).trans (((Cg.refl _).mul q2.symm).trans ((Cg.of_eq (by grind)).trans (k1.trans ((Cg.of_eq (by grind : _ = u * bk * ((H : Int) * I))).trans (((Cg.refl _).mul q1).trans (Cg.of_eq (by omega)))))))
    have kb : bk * bk % p < p := Nat.mod_lt _ hp0
    have kw : W3 * W3 % p < p := Nat.mod_lt _ hp0
    have rb := Nr.refl (p := p) bk
    have sx : Nr p ((x + W1 * W3 * (p - bk * bk % p)) % p) ((x : Int) - W1 * W3 * (bk : Int) ^ 2) := ((Nr.refl x).add (((Nr.refl W1).mul (Nr.refl W3)).mul ((rb.mul rb).mod.sub (Nat.le_of_lt kb)))).mod.to (by grind)
    have sy : Nr p ((W4 * (W1 * W1) + W0 * (p - W3 * W3 % p)) * (bk * bk * bk) * h0 * ((p + 1) / 2) % p) (((W4 : Int) * (W1 : Int) ^ 2 - W0 * (W3 : Int) ^ 2) * (bk : Int) ^ 3 * h0 * ((p + 1) / 2 : Nat)) :=
      ((((((Nr.refl W4).mul ((Nr.refl W1).mul (Nr.refl W1))).add ((Nr.refl W0).mul (((Nr.refl W3).mul (Nr.refl W3)).mod.sub (Nat.le_of_lt kw)))).mul ((rb.mul rb).mul rb)).mul (Nr.refl h0)).mul (Nr.refl ((p + 1) / 2))).mod.to (by grind)
    refine PR.intro ht.p64 (Nat.mod_lt _ hp0) ?_ ?_ (In.fmod hpI) (In.fmod hpI)
    · refine (Cg.fmod hpI).trans (Cg.trans ?_ ((Cg.refl _).mul sx.symm))
      have d : Cg p (w1 * w3 * (I : Int) ^ 2) (u ^ 2 * (W1 * W3 * (bk : Int) ^ 2)) := by
        refine (hu.pow 2).cancel ?_
        have e4 : u ^ x1 * u ^ x3 = (u ^ x2) ^ 2 * u ^ 2 := by rw [powpow, ← Int.pow_add, ← Int.pow_add]; congr 1; omega
        have k := (c1.mul c3).mul (Cg.refl ((I : Int) ^ 2))
        refine (Cg.of_eq (by grind)).trans (k.trans ((Cg.of_eq (?_ : _ = u ^ 2 * (W1 * W3 * (u ^ x2 * I) ^ 2))).trans ?_))
        · generalize u ^ x1 = α at *
          generalize u ^ x3 = β at *
          generalize u ^ x2 = γ at *
          grind
        · refine ((Cg.refl _).mul ((Cg.refl _).mul (key.pow 2))).trans (Cg.of_eq (by grind))
      exact (hX.sub d).trans (Cg.of_eq (by grind))
    · have hd : (((w4 * w1 ^ 2 - w0 * w3 ^ 2) * (I : Int) ^ 3 * half * ((p : Int) + 1)).fdiv 2) = (w4 * w1 ^ 2 - w0 * w3 ^ 2) * (I : Int) ^ 3 * half * ((p + 1) / 2 : Nat) := by
        have e5 : (p : Int) + 1 = 2 * (((p + 1) / 2 : Nat) : Int) := by omega
        rw [Int.fdiv_eq_ediv_of_nonneg _ (by omega), e5]
        generalize (((p + 1) / 2 : Nat) : Int) = q
        rw [show (w4 * w1 ^ 2 - w0 * w3 ^ 2) * (I : Int) ^ 3 * half * (2 * q) = 2 * ((w4 * w1 ^ 2 - w0 * w3 ^ 2) * (I : Int) ^ 3 * half * q) by grind]
        exact Int.mul_ediv_cancel_left _ (by omega)
      rw [hd]
      refine (Cg.fmod hpI).trans (Cg.trans ?_ ((Cg.refl _).mul sy.symm))
      have br := br_rel (s := 3 * x2 + 6) hu c4 c1 c0 c3 e1 e2
      generalize w4 * w1 ^ 2 - w0 * w3 ^ 2 = D at *
      generalize (W4 : Int) * (W1 : Int) ^ 2 - W0 * (W3 : Int) ^ 2 = D0 at *
      generalize (((p + 1) / 2 : Nat) : Int) = q at *
      have e6 : u ^ (3 * x2 + 6) = (u ^ x2) ^ 3 * u ^ 6 := by rw [powpow, ← Int.pow_add]; congr 1; omega
      rw [e6] at br
      have d : Cg p (D * (I : Int) ^ 3 * half) (u ^ 3 * (D0 * (bk : Int) ^ 3 * h0)) := by
        refine (hu.pow 6).cancel ?_
        have k := (br.mul (Cg.refl ((I : Int) ^ 3))).mul hh
        refine (Cg.of_eq (by grind)).trans (k.trans ((Cg.of_eq (?_ : _ = u ^ 6 * D0 * (u ^ x2 * I) ^ 3 * h0)).trans ?_))
        · generalize u ^ x2 = γ at *
          grind
        · refine (((Cg.refl _).mul (key.pow 3)).mul (Cg.refl _)).trans (Cg.of_eq (by grind))
      exact (d.mul (Cg.refl q)).trans (Cg.of_eq (by grind))
end Mine

end
-- part M8
section
set_option maxRecDepth 10000
namespace Mine
open Mine.K
open PySem PySem.W PySem.Spec PySem.Calls PyProof.Rows

theorem per_all {p T x half W N : Nat} : ∀ (k n : Nat), perOk p T x half W N k n = true → ∀ j, n ≤ j → j < n + k → dueN p T x half W j = dueN p T x half W (j % N)
  | 0, n, _, j, h1, h2 => by omega
  | k + 1, n, h, j, h1, h2 => by
    unfold perOk at h
    cases hb : Nat.beq (dueN p T x half W n) (dueN p T x half W (Nat.mod n N)) with
    | false => rw [hb] at h; cases h
    | true =>
      rw [hb] at h
      by_cases e : j = n
      · subst e; exact Nat.eq_of_beq_eq_true hb
      · exact per_all k (n + 1) h j (by omega) (by omega)
theorem pointB_out {p T a x y N half top W : Nat} (h : pointB p T a x y N half top W = true) :
    dueN p T x half W 0 = 0 ∧ perOk p T x half W N (top + 1 - N) N = true ∧ treeOk p T a x y half W N 7 1 (pk x y 1) = true := by
  unfold pointB at h
  cases hb : Nat.beq (dueN p T x half W 0) 0 with
  | false => rw [hb] at h; cases h
  | true =>
    rw [hb] at h
    cases hq : perOk p T x half W N (Nat.sub (Nat.add top 1) N) N with
    | false => rw [hq] at h; cases h
    | true =>
      rw [hq] at h
      exact ⟨Nat.eq_of_beq_eq_true hb, rfl, h⟩
theorem topN_eq (N : Nat) : topN N = if N ≤ 22 then 22 else N := by
  unfold topN
  split
  · rw [Nat.ble_eq_true_of_le ‹_›]; rfl
  · have : Nat.ble N 22 = false := by
      cases hb : Nat.ble N 22 with
      | false => rfl
      | true => have := Nat.le_of_ble_eq_true hb; omega
    rw [this]; rfl
theorem powI_mod {b e m : Int} : powI (b % m) e m = powI b e m := by unfold powI; rw [Int.emod_emod]
theorem getD_rangeKs {f : Int → Int × Int} {k i : Nat} (h : i < k) : ((rangeKs 0 k).map f).getD i (0, 0) = f i := by
  unfold rangeKs
  rw [List.getD_eq_getElem?_getD, List.getElem?_map, List.getElem?_map, List.getElem?_range h]
  show f (0 + (i : Int)) = f i
  rw [Int.zero_add]

theorem point {p T M a b x y N : Nat} {u A B X Y : Int} (ht : Tab p T M) (hodd : p % 2 = 1) (hu : Un p u) (hA : Cg p A (u ^ 4 * a)) (hB : Cg p B (u ^ 6 * b)) (hX : Cg p X (u ^ 2 * x)) (hY : Cg p Y (u ^ 3 * y))
    (iX : In p X) (iY : In p Y) (ix : x < p) (iy : y < p) (hY0 : Y ≠ 0) (hN : 3 ≤ N ∧ N < 64) (h : pointOk p T a b x y N = true) :
    DueG p N A B X Y (dueF p A B X Y (topN N)) := by
  have hp3 := ht.p3
  have hp64 := ht.p64
  have hp0 : 0 < p := by omega
  have hpI : 0 < (p : Int) := by omega
  -- 2 Y ≠ 0
  have n2 : (2 * Y) % (p : Int) ≠ 0 := by
    have h1 := iY.nn
    have h2 := iY.lt
    intro e
    have h3 : (2 * Y) % (p : Int) = if 2 * Y < p then 2 * Y else 2 * Y - p := by
      split
      · exact Int.emod_eq_of_lt (by omega) ‹_›
      · have := Int.sub_emod_right (2 * Y) (p : Int)
        rw [← this]
        exact Int.emod_eq_of_lt (by omega) (by omega)
    rw [h3] at e
    split at e <;> omega
  have hv := Int.emod_nonneg (2 * Y) (show (p : Int) ≠ 0 by omega)
  have hv2 := Int.emod_lt_of_pos (2 * Y) hpI
  obtain ⟨v, ev⟩ := Int.eq_ofNat_of_zero_le hv
  have lv : v < p := by omega
  have v0 : v ≠ 0 := by omega
  have cv : Cg p (v : Int) (2 * Y) := by
    rw [← ev, ← Int.fmod_eq_emod_of_nonneg _ (by omega)]; exact Cg.fmod hpI
  have s2 : Nr p (2 * y % p) (2 * (y : Int)) := ((Nr.refl 2).mul (Nr.refl y)).mod
  have l2 : 2 * y % p < p := Nat.mod_lt _ hp0
  have cvy : Cg p (v : Int) (u ^ 3 * (2 * y % p : Nat)) := cv.trans (((Cg.refl 2).mul hY).trans ((Cg.of_eq (by grind)).trans ((Cg.refl _).mul s2.symm)))
  have y20 : 2 * y % p ≠ 0 := by
    intro e
    rw [e] at cvy
    have := (In.nat lv).eq0 (cvy.trans (Cg.of_eq (by simp)))
    omega
  have hhalf : halfF p Y = get6 T v := by
    unfold halfF
    rw [← powI_mod, ev]
    exact ht.pow lv
  have q1 := ht.one lv v0
  have q2 := ht.one l2 y20
  have hh : Cg p (u ^ 3 * halfF p Y) ((get6 T (2 * y % p) : Nat) : Int) := by
    rw [hhalf]
    generalize get6 T v = I at *
    generalize get6 T (2 * y % p) = J at *
    generalize 2 * y % p = z at *
    -- u^3 I (z J) = (u^3 z) I J = v I J = J
    refine (Cg.of_eq (by omega : u ^ 3 * (I : Int) = u ^ 3 * (I : Int) * 1)).trans (((Cg.refl _).mul q2.symm).trans ((Cg.of_eq (by grind : _ = (u ^ 3 * (z : Int)) * ((I : Int) * J))).trans ((cvy.symm.mul (Cg.refl _)).trans ((Cg.of_eq (by grind : _ = ((v : Int) * I) * J)).trans ((q1.mul (Cg.refl _)).trans (Cg.of_eq (by omega)))))))
  have hw0 := w0_rel hp3 hp64 hA hB hX hY y20
  obtain ⟨hW, hWl⟩ := go_rel hp0 hp64 hu hh (topN N - 2) 5 _ _ hw0 (by omega) rfl
  obtain ⟨o1, o2, o3⟩ := pointB_out (show pointB p T a x y N (get6 T (2 * y % p)) (topN N) (wGo p (get6 T (2 * y % p)) (topN N - 2) 5 (w0N p a b x y)) = true from h)
  have ht1 : 22 ≤ topN N ∧ N ≤ topN N := by rw [topN_eq]; split <;> omega
  have ek : ((topN N : Int) + 3 - 5).toNat = topN N - 2 := by omega
  have ew : wAll p A B X Y (topN N) = (rangeKs ((5 : Nat) : Int) (topN N - 2)).foldl (wStep p (halfF p Y)) (w0F p A B X Y) := by unfold wAll; rw [ek]; rfl
  rw [← ew] at hW hWl
  generalize wGo p (get6 T (2 * y % p)) (topN N - 2) 5 (w0N p a b x y) = W at *
  have hdue : ∀ n : Nat, n ≤ topN N → PR p u (dueAt p X (halfF p Y) (wAll p A B X Y (topN N)) n) (dueN p T x (get6 T (2 * y % p)) W n) := fun n hn => due_rel ht hodd hu hX hh hW (by omega)
  have hds : ∀ n : Nat, n ≤ topN N → (dueF p A B X Y (topN N)).getD n (0, 0) = dueAt p X (halfF p Y) (wAll p A B X Y (topN N)) n := fun n hn => by
    unfold dueF
    exact getD_rangeKs (by omega)
  have hper : ∀ n : Nat, n ≤ topN N → dueAt p X (halfF p Y) (wAll p A B X Y (topN N)) n = dueAt p X (halfF p Y) (wAll p A B X Y (topN N)) (n % N : Nat) := fun n hn => by
    by_cases e : n < N
    · rw [Nat.mod_eq_of_lt e]
    · have h1 := hdue n hn
      rw [per_all _ _ o2 n (by omega) (by omega)] at h1
      exact h1.uniq (hdue (n % N) (Nat.le_of_lt (Nat.lt_of_lt_of_le (Nat.mod_lt _ (by omega)) ht1.2)))
  have hfm : ∀ n : Nat, (n : Int).fmod N = ((n % N : Nat) : Int) := fun n => by rw [Int.fmod_eq_emod_of_nonneg _ (by omega)]; omega
  have hmN : ∀ n : Nat, n % N ≤ topN N := fun n => Nat.le_of_lt (Nat.lt_of_lt_of_le (Nat.mod_lt _ (by omega)) ht1.2)
  have hl : (dueF p A B X Y (topN N)).length = topN N + 1 := by unfold dueF; rw [List.length_map, rangeKs_length]; omega
  refine ⟨⟨by omega, by omega, by omega, by omega⟩, fun n => ?_, fun n g0 g1 => ?_, ?_⟩
  · have r0 := Int.fmod_nonneg_of_pos n (show 0 < (N : Int) by omega)
    have r1 := Int.fmod_lt_of_pos n (show 0 < (N : Int) by omega)
    obtain ⟨r, er⟩ := Int.eq_ofNat_of_zero_le r0
    unfold mulF
    rw [er, show (r : Int).toNat = r by omega, hds r (by omega)]
    exact (mul_all ht (by omega) (by omega) hu hA hX hY iX iY ix iy hY0 o1 o3 r (by omega)).uniq (hdue r (by omega))
  · obtain ⟨m, em⟩ := Int.eq_ofNat_of_zero_le g0
    subst em
    rw [hfm, show ((m % N : Nat) : Int).toNat = m % N by omega, show (m : Int).toNat = m by omega, hds _ (hmN m), hds m (by omega)]
    exact (hper m (by omega)).symm
  · rw [hfm, show ((N % N : Nat) : Int).toNat = N % N by omega, show (N : Int).toNat = N by omega, hds _ (hmN N), hds N ht1.2]
    exact (hper N ht1.2).symm
end Mine

end
-- part M9
section
set_option maxRecDepth 100000
namespace Mine.K
/-! ### the normal form: (v^4 a, v^6 b, v^2 x, v^3 y) -/
def norA (p a v : Nat) : Nat := Nat.mod (Nat.mul (Nat.mul (Nat.mul v v) (Nat.mul v v)) a) p
def norB (p b v : Nat) : Nat := Nat.mod (Nat.mul (Nat.mul (Nat.mul v (Nat.mul v v)) (Nat.mul v (Nat.mul v v))) b) p
def norX (p x v : Nat) : Nat := Nat.mod (Nat.mul (Nat.mul v v) x) p
def norY (p y v : Nat) : Nat := Nat.mod (Nat.mul (Nat.mul v (Nat.mul v v)) y) p
def isN (p k : Nat) : Bool := bif Nat.beq k 1 then true else Nat.beq k (Nat.sub p 1)
def findV (p a y h : Nat) : Nat → Bool
  | 0 => false
  | v + 1 => bif isN p (norA p a (Nat.succ v)) then (bif Nat.ble (norY p y (Nat.succ v)) h then true else findV p a y h v) else findV p a y h v
def yAll (p a h : Nat) : Nat → Bool
  | 0 => true
  | y + 1 => bif findV p a (Nat.succ y) h (Nat.sub p 1) then yAll p a h y else false
def aAll (p h : Nat) : Nat → Bool
  | 0 => true
  | a + 1 => bif yAll p (Nat.succ a) h (Nat.sub p 1) then aAll p h a else false
def bAll (p M a v : Nat) : Nat → Bool
  | 0 => true
  | b + 1 => bif Nat.beq (cntN p M a b p 1) (cntN p M (norA p a v) (norB p b v) p 1) then bAll p M a v b else false
def vAll (p M a : Nat) : Nat → Bool
  | 0 => true
  | v + 1 => bif isN p (norA p a (Nat.succ v)) then (bif bAll p M a (Nat.succ v) p then vAll p M a v else false) else vAll p M a v
def cAll (p M : Nat) : Nat → Bool
  | 0 => true
  | a + 1 => bif vAll p M (Nat.succ a) (Nat.sub p 1) then cAll p M a else false
def numOk (c : Nat) : Bool := bif Nat.beq c 0 then true else bif Nat.ble 3 c then Nat.ble c 63 else false
def nAll (p M a : Nat) : Nat → Bool
  | 0 => true
  | b + 1 => bif numOk (cntN p M a b p 1) then nAll p M a b else false
def findB (p M a : Nat) : Nat → Bool
  | 0 => false
  | b + 1 => bif Nat.beq (cntN p M a b p 1) 0 then findB p M a b else true
def eAll (p M : Nat) : Nat → Bool
  | 0 => true
  | a + 1 => bif findB p M (Nat.succ a) p then eAll p M a else false
/-- b from lo on -/
def bGoF (p T M a h : Nat) : Nat → Nat → Bool
  | 0, _ => true
  | n + 1, lo => bif bOk p T a h lo (cntN p M a lo p 1) then bGoF p T M a h n (Nat.succ lo) else false
theorem bGoF_out {p T M a h : Nat} : ∀ n lo, bGoF p T M a h n lo = true → ∀ b, lo ≤ b → b < lo + n → bOk p T a h b (cntN p M a b p 1) = true
  | 0, lo, _, b, h1, h2 => by omega
  | n + 1, lo, g, b, h1, h2 => by
    unfold bGoF at g
    cases hb : bOk p T a h lo (cntN p M a lo p 1) with
    | false => rw [hb] at g; cases g
    | true =>
      rw [hb] at g
      by_cases e : b = lo
      · subst e; exact hb
      · exact bGoF_out n (lo + 1) g b (by omega) (by omega)
abbrev BAll (p T M a h : Nat) : Prop := ∀ b, b < p → bOk p T a h b (cntN p M a b p 1) = true
/-- a from lo on -/
def cGoF (p M : Nat) : Nat → Nat → Bool
  | 0, _ => true
  | n + 1, lo => bif vAll p M (Nat.succ lo) (Nat.sub p 1) then cGoF p M n (Nat.succ lo) else false
theorem cGoF_out {p M : Nat} : ∀ n lo, cGoF p M n lo = true → ∀ a, lo ≤ a → a < lo + n → vAll p M (Nat.succ a) (Nat.sub p 1) = true
  | 0, lo, _, a, h1, h2 => by omega
  | n + 1, lo, g, a, h1, h2 => by
    unfold cGoF at g
    cases hb : vAll p M (Nat.succ lo) (Nat.sub p 1) with
    | false => rw [hb] at g; cases g
    | true =>
      rw [hb] at g
      by_cases e : a = lo
      · subst e; exact hb
      · exact cGoF_out n (lo + 1) g a (by omega) (by omega)
theorem cAll_of {p M : Nat} : ∀ n, (∀ a, a < n → vAll p M (Nat.succ a) (Nat.sub p 1) = true) → cAll p M n = true
  | 0, _ => rfl
  | n + 1, g => by
    unfold cAll
    rw [g n (by omega)]
    exact cAll_of n fun a h => g a (by omega)
structure Chk (p T M : Nat) : Prop where
  one : BAll p T M 1 ((p - 1) / 2)
  two : BAll p T M (p - 1) ((p - 1) / 2)
  nor : aAll p ((p - 1) / 2) (p - 1) = true
  cnt : cAll p M (p - 1) = true
  n1 : nAll p M 1 p = true
  n2 : nAll p M (p - 1) p = true
  ex : eAll p M (p - 1) = true
theorem g7a0 : bGoF 7 415572967488 22 1 3 7 0 = true := by decide +kernel
theorem g7a : BAll 7 415572967488 22 1 3 := fun b hb => by
  exact bGoF_out _ _ g7a0 b (by omega) (by omega)
theorem g7b0 : bGoF 7 415572967488 22 6 3 7 0 = true := by decide +kernel
theorem g7b : BAll 7 415572967488 22 6 3 := fun b hb => by
  exact bGoF_out _ _ g7b0 b (by omega) (by omega)
theorem c7a0 : cGoF 7 22 6 0 = true := by decide +kernel
theorem c7 : cAll 7 22 6 = true := cAll_of _ fun a ha => by
  exact cGoF_out _ _ c7a0 a (by omega) (by omega)
theorem r7 : aAll 7 3 6 = true := by decide +kernel
theorem chk7 : Chk 7 415572967488 22 := ⟨g7a, g7b, r7, c7, by decide +kernel, by decide +kernel, by decide +kernel⟩
theorem g11a0 : bGoF 11 11621292694978977856 570 1 5 11 0 = true := by decide +kernel
theorem g11a : BAll 11 11621292694978977856 570 1 5 := fun b hb => by
  exact bGoF_out _ _ g11a0 b (by omega) (by omega)
theorem g11b0 : bGoF 11 11621292694978977856 570 10 5 11 0 = true := by decide +kernel
theorem g11b : BAll 11 11621292694978977856 570 10 5 := fun b hb => by
  exact bGoF_out _ _ g11b0 b (by omega) (by omega)
theorem c11a0 : cGoF 11 570 10 0 = true := by decide +kernel
theorem c11 : cAll 11 570 10 = true := cAll_of _ fun a ha => by
  exact cGoF_out _ _ c11a0 a (by omega) (by omega)
theorem r11 : aAll 11 5 10 = true := by decide +kernel
theorem chk11 : Chk 11 11621292694978977856 570 := ⟨g11a, g11b, r11, c11, by decide +kernel, by decide +kernel, by decide +kernel⟩
theorem g19a0 : bGoF 19 5887462378682722050334060377841728 199410 1 9 10 0 = true := by decide +kernel
theorem g19a10 : bGoF 19 5887462378682722050334060377841728 199410 1 9 9 10 = true := by decide +kernel
theorem g19a : BAll 19 5887462378682722050334060377841728 199410 1 9 := fun b hb => by
  by_cases k0 : b < 10
  · exact bGoF_out _ _ g19a0 b (by omega) (by omega)
  exact bGoF_out _ _ g19a10 b (by omega) (by omega)
theorem g19b0 : bGoF 19 5887462378682722050334060377841728 199410 18 9 10 0 = true := by decide +kernel
theorem g19b10 : bGoF 19 5887462378682722050334060377841728 199410 18 9 9 10 = true := by decide +kernel
theorem g19b : BAll 19 5887462378682722050334060377841728 199410 18 9 := fun b hb => by
  by_cases k0 : b < 10
  · exact bGoF_out _ _ g19b0 b (by omega) (by omega)
  exact bGoF_out _ _ g19b10 b (by omega) (by omega)
theorem c19a0 : cGoF 19 199410 9 0 = true := by decide +kernel
theorem c19a9 : cGoF 19 199410 9 9 = true := by decide +kernel
theorem c19 : cAll 19 199410 18 = true := cAll_of _ fun a ha => by
  by_cases k0 : a < 9
  · exact cGoF_out _ _ c19a0 a (by omega) (by omega)
  exact cGoF_out _ _ c19a9 a (by omega) (by omega)
theorem r19 : aAll 19 9 18 = true := by decide +kernel
theorem chk19 : Chk 19 5887462378682722050334060377841728 199410 := ⟨g19a, g19b, r19, c19, by decide +kernel, by decide +kernel, by decide +kernel⟩
theorem g23a0 : bGoF 23 120735464179389329037433061417624442814528 340830 1 11 8 0 = true := by decide +kernel
theorem g23a8 : bGoF 23 120735464179389329037433061417624442814528 340830 1 11 8 8 = true := by decide +kernel
theorem g23a16 : bGoF 23 120735464179389329037433061417624442814528 340830 1 11 7 16 = true := by decide +kernel
theorem g23a : BAll 23 120735464179389329037433061417624442814528 340830 1 11 := fun b hb => by
  by_cases k0 : b < 8
  · exact bGoF_out _ _ g23a0 b (by omega) (by omega)
  by_cases k8 : b < 16
  · exact bGoF_out _ _ g23a8 b (by omega) (by omega)
  exact bGoF_out _ _ g23a16 b (by omega) (by omega)
theorem g23b0 : bGoF 23 120735464179389329037433061417624442814528 340830 22 11 8 0 = true := by decide +kernel
theorem g23b8 : bGoF 23 120735464179389329037433061417624442814528 340830 22 11 8 8 = true := by decide +kernel
theorem g23b16 : bGoF 23 120735464179389329037433061417624442814528 340830 22 11 7 16 = true := by decide +kernel
theorem g23b : BAll 23 120735464179389329037433061417624442814528 340830 22 11 := fun b hb => by
  by_cases k0 : b < 8
  · exact bGoF_out _ _ g23b0 b (by omega) (by omega)
  by_cases k8 : b < 16
  · exact bGoF_out _ _ g23b8 b (by omega) (by omega)
  exact bGoF_out _ _ g23b16 b (by omega) (by omega)
theorem c23a0 : cGoF 23 340830 6 0 = true := by decide +kernel
theorem c23a6 : cGoF 23 340830 6 6 = true := by decide +kernel
theorem c23a12 : cGoF 23 340830 6 12 = true := by decide +kernel
theorem c23a18 : cGoF 23 340830 4 18 = true := by decide +kernel
theorem c23 : cAll 23 340830 22 = true := cAll_of _ fun a ha => by
  by_cases k0 : a < 6
  · exact cGoF_out _ _ c23a0 a (by omega) (by omega)
  by_cases k6 : a < 12
  · exact cGoF_out _ _ c23a6 a (by omega) (by omega)
  by_cases k12 : a < 18
  · exact cGoF_out _ _ c23a12 a (by omega) (by omega)
  exact cGoF_out _ _ c23a18 a (by omega) (by omega)
theorem r23 : aAll 23 11 22 = true := by decide +kernel
theorem chk23 : Chk 23 120735464179389329037433061417624442814528 340830 := ⟨g23a, g23b, r23, c23, by decide +kernel, by decide +kernel, by decide +kernel⟩
theorem g31a0 : bGoF 31 46337921326408817932963854088369055483321511400487321664 303908790 1 15 7 0 = true := by decide +kernel
theorem g31a7 : bGoF 31 46337921326408817932963854088369055483321511400487321664 303908790 1 15 7 7 = true := by decide +kernel
theorem g31a14 : bGoF 31 46337921326408817932963854088369055483321511400487321664 303908790 1 15 7 14 = true := by decide +kernel
theorem g31a21 : bGoF 31 46337921326408817932963854088369055483321511400487321664 303908790 1 15 7 21 = true := by decide +kernel
theorem g31a28 : bGoF 31 46337921326408817932963854088369055483321511400487321664 303908790 1 15 3 28 = true := by decide +kernel
theorem g31a : BAll 31 46337921326408817932963854088369055483321511400487321664 303908790 1 15 := fun b hb => by
  by_cases k0 : b < 7
  · exact bGoF_out _ _ g31a0 b (by omega) (by omega)
  by_cases k7 : b < 14
  · exact bGoF_out _ _ g31a7 b (by omega) (by omega)
  by_cases k14 : b < 21
  · exact bGoF_out _ _ g31a14 b (by omega) (by omega)
  by_cases k21 : b < 28
  · exact bGoF_out _ _ g31a21 b (by omega) (by omega)
  exact bGoF_out _ _ g31a28 b (by omega) (by omega)
theorem g31b0 : bGoF 31 46337921326408817932963854088369055483321511400487321664 303908790 30 15 7 0 = true := by decide +kernel
theorem g31b7 : bGoF 31 46337921326408817932963854088369055483321511400487321664 303908790 30 15 7 7 = true := by decide +kernel
theorem g31b14 : bGoF 31 46337921326408817932963854088369055483321511400487321664 303908790 30 15 7 14 = true := by decide +kernel
theorem g31b21 : bGoF 31 46337921326408817932963854088369055483321511400487321664 303908790 30 15 7 21 = true := by decide +kernel
theorem g31b28 : bGoF 31 46337921326408817932963854088369055483321511400487321664 303908790 30 15 3 28 = true := by decide +kernel
theorem g31b : BAll 31 46337921326408817932963854088369055483321511400487321664 303908790 30 15 := fun b hb => by
  by_cases k0 : b < 7
  · exact bGoF_out _ _ g31b0 b (by omega) (by omega)
  by_cases k7 : b < 14
  · exact bGoF_out _ _ g31b7 b (by omega) (by omega)
  by_cases k14 : b < 21
  · exact bGoF_out _ _ g31b14 b (by omega) (by omega)
  by_cases k21 : b < 28
  · exact bGoF_out _ _ g31b21 b (by omega) (by omega)
  exact bGoF_out _ _ g31b28 b (by omega) (by omega)
theorem c31a0 : cGoF 31 303908790 5 0 = true := by decide +kernel
theorem c31a5 : cGoF 31 303908790 5 5 = true := by decide +kernel
theorem c31a10 : cGoF 31 303908790 5 10 = true := by decide +kernel
theorem c31a15 : cGoF 31 303908790 5 15 = true := by decide +kernel
theorem c31a20 : cGoF 31 303908790 5 20 = true := by decide +kernel
theorem c31a25 : cGoF 31 303908790 5 25 = true := by decide +kernel
theorem c31 : cAll 31 303908790 30 = true := cAll_of _ fun a ha => by
  by_cases k0 : a < 5
  · exact cGoF_out _ _ c31a0 a (by omega) (by omega)
  by_cases k5 : a < 10
  · exact cGoF_out _ _ c31a5 a (by omega) (by omega)
  by_cases k10 : a < 15
  · exact cGoF_out _ _ c31a10 a (by omega) (by omega)
  by_cases k15 : a < 20
  · exact cGoF_out _ _ c31a15 a (by omega) (by omega)
  by_cases k20 : a < 25
  · exact cGoF_out _ _ c31a20 a (by omega) (by omega)
  exact cGoF_out _ _ c31a25 a (by omega) (by omega)
theorem r31 : aAll 31 15 30 = true := by decide +kernel
theorem chk31 : Chk 31 46337921326408817932963854088369055483321511400487321664 303908790 := ⟨g31a, g31b, r31, c31, by decide +kernel, by decide +kernel, by decide +kernel⟩
theorem g43a0 : bGoF 43 306354503366400550862539270449193841785069579564707365312394676512021160484928 3678700564050 1 21 5 0 = true := by decide +kernel
theorem g43a5 : bGoF 43 306354503366400550862539270449193841785069579564707365312394676512021160484928 3678700564050 1 21 5 5 = true := by decide +kernel
theorem g43a10 : bGoF 43 306354503366400550862539270449193841785069579564707365312394676512021160484928 3678700564050 1 21 5 10 = true := by decide +kernel
theorem g43a15 : bGoF 43 306354503366400550862539270449193841785069579564707365312394676512021160484928 3678700564050 1 21 5 15 = true := by decide +kernel
theorem g43a20 : bGoF 43 306354503366400550862539270449193841785069579564707365312394676512021160484928 3678700564050 1 21 5 20 = true := by decide +kernel
theorem g43a25 : bGoF 43 306354503366400550862539270449193841785069579564707365312394676512021160484928 3678700564050 1 21 5 25 = true := by decide +kernel
theorem g43a30 : bGoF 43 306354503366400550862539270449193841785069579564707365312394676512021160484928 3678700564050 1 21 5 30 = true := by decide +kernel
theorem g43a35 : bGoF 43 306354503366400550862539270449193841785069579564707365312394676512021160484928 3678700564050 1 21 5 35 = true := by decide +kernel
theorem g43a40 : bGoF 43 306354503366400550862539270449193841785069579564707365312394676512021160484928 3678700564050 1 21 3 40 = true := by decide +kernel
theorem g43a : BAll 43 306354503366400550862539270449193841785069579564707365312394676512021160484928 3678700564050 1 21 := fun b hb => by
  by_cases k0 : b < 5
  · exact bGoF_out _ _ g43a0 b (by omega) (by omega)
  by_cases k5 : b < 10
  · exact bGoF_out _ _ g43a5 b (by omega) (by omega)
  by_cases k10 : b < 15
  · exact bGoF_out _ _ g43a10 b (by omega) (by omega)
  by_cases k15 : b < 20
  · exact bGoF_out _ _ g43a15 b (by omega) (by omega)
  by_cases k20 : b < 25
  · exact bGoF_out _ _ g43a20 b (by omega) (by omega)
  by_cases k25 : b < 30
  · exact bGoF_out _ _ g43a25 b (by omega) (by omega)
  by_cases k30 : b < 35
  · exact bGoF_out _ _ g43a30 b (by omega) (by omega)
  by_cases k35 : b < 40
  · exact bGoF_out _ _ g43a35 b (by omega) (by omega)
  exact bGoF_out _ _ g43a40 b (by omega) (by omega)
theorem g43b0 : bGoF 43 306354503366400550862539270449193841785069579564707365312394676512021160484928 3678700564050 42 21 5 0 = true := by decide +kernel
theorem g43b5 : bGoF 43 306354503366400550862539270449193841785069579564707365312394676512021160484928 3678700564050 42 21 5 5 = true := by decide +kernel
theorem g43b10 : bGoF 43 306354503366400550862539270449193841785069579564707365312394676512021160484928 3678700564050 42 21 5 10 = true := by decide +kernel
theorem g43b15 : bGoF 43 306354503366400550862539270449193841785069579564707365312394676512021160484928 3678700564050 42 21 5 15 = true := by decide +kernel
theorem g43b20 : bGoF 43 306354503366400550862539270449193841785069579564707365312394676512021160484928 3678700564050 42 21 5 20 = true := by decide +kernel
theorem g43b25 : bGoF 43 306354503366400550862539270449193841785069579564707365312394676512021160484928 3678700564050 42 21 5 25 = true := by decide +kernel
theorem g43b30 : bGoF 43 306354503366400550862539270449193841785069579564707365312394676512021160484928 3678700564050 42 21 5 30 = true := by decide +kernel
theorem g43b35 : bGoF 43 306354503366400550862539270449193841785069579564707365312394676512021160484928 3678700564050 42 21 5 35 = true := by decide +kernel
theorem g43b40 : bGoF 43 306354503366400550862539270449193841785069579564707365312394676512021160484928 3678700564050 42 21 3 40 = true := by decide +kernel
theorem g43b : BAll 43 306354503366400550862539270449193841785069579564707365312394676512021160484928 3678700564050 42 21 := fun b hb => by
  by_cases k0 : b < 5
  · exact bGoF_out _ _ g43b0 b (by omega) (by omega)
  by_cases k5 : b < 10
  · exact bGoF_out _ _ g43b5 b (by omega) (by omega)
  by_cases k10 : b < 15
  · exact bGoF_out _ _ g43b10 b (by omega) (by omega)
  by_cases k15 : b < 20
  · exact bGoF_out _ _ g43b15 b (by omega) (by omega)
  by_cases k20 : b < 25
  · exact bGoF_out _ _ g43b20 b (by omega) (by omega)
  by_cases k25 : b < 30
  · exact bGoF_out _ _ g43b25 b (by omega) (by omega)
  by_cases k30 : b < 35
  · exact bGoF_out _ _ g43b30 b (by omega) (by omega)
  by_cases k35 : b < 40
  · exact bGoF_out _ _ g43b35 b (by omega) (by omega)
  exact bGoF_out _ _ g43b40 b (by omega) (by omega)
theorem c43a0 : cGoF 43 3678700564050 3 0 = true := by decide +kernel
theorem c43a3 : cGoF 43 3678700564050 3 3 = true := by decide +kernel
theorem c43a6 : cGoF 43 3678700564050 3 6 = true := by decide +kernel
theorem c43a9 : cGoF 43 3678700564050 3 9 = true := by decide +kernel
theorem c43a12 : cGoF 43 3678700564050 3 12 = true := by decide +kernel
theorem c43a15 : cGoF 43 3678700564050 3 15 = true := by decide +kernel
theorem c43a18 : cGoF 43 3678700564050 3 18 = true := by decide +kernel
theorem c43a21 : cGoF 43 3678700564050 3 21 = true := by decide +kernel
theorem c43a24 : cGoF 43 3678700564050 3 24 = true := by decide +kernel
theorem c43a27 : cGoF 43 3678700564050 3 27 = true := by decide +kernel
theorem c43a30 : cGoF 43 3678700564050 3 30 = true := by decide +kernel
theorem c43a33 : cGoF 43 3678700564050 3 33 = true := by decide +kernel
theorem c43a36 : cGoF 43 3678700564050 3 36 = true := by decide +kernel
theorem c43a39 : cGoF 43 3678700564050 3 39 = true := by decide +kernel
theorem c43 : cAll 43 3678700564050 42 = true := cAll_of _ fun a ha => by
  by_cases k0 : a < 3
  · exact cGoF_out _ _ c43a0 a (by omega) (by omega)
  by_cases k3 : a < 6
  · exact cGoF_out _ _ c43a3 a (by omega) (by omega)
  by_cases k6 : a < 9
  · exact cGoF_out _ _ c43a6 a (by omega) (by omega)
  by_cases k9 : a < 12
  · exact cGoF_out _ _ c43a9 a (by omega) (by omega)
  by_cases k12 : a < 15
  · exact cGoF_out _ _ c43a12 a (by omega) (by omega)
  by_cases k15 : a < 18
  · exact cGoF_out _ _ c43a15 a (by omega) (by omega)
  by_cases k18 : a < 21
  · exact cGoF_out _ _ c43a18 a (by omega) (by omega)
  by_cases k21 : a < 24
  · exact cGoF_out _ _ c43a21 a (by omega) (by omega)
  by_cases k24 : a < 27
  · exact cGoF_out _ _ c43a24 a (by omega) (by omega)
  by_cases k27 : a < 30
  · exact cGoF_out _ _ c43a27 a (by omega) (by omega)
  by_cases k30 : a < 33
  · exact cGoF_out _ _ c43a30 a (by omega) (by omega)
  by_cases k33 : a < 36
  · exact cGoF_out _ _ c43a33 a (by omega) (by omega)
  by_cases k36 : a < 39
  · exact cGoF_out _ _ c43a36 a (by omega) (by omega)
  exact cGoF_out _ _ c43a39 a (by omega) (by omega)
theorem r43 : aAll 43 21 42 = true := by decide +kernel
theorem chk43 : Chk 43 306354503366400550862539270449193841785069579564707365312394676512021160484928 3678700564050 := ⟨g43a, g43b, r43, c43, by decide +kernel, by decide +kernel, by decide +kernel⟩
end Mine.K

end
-- part M10
section
set_option maxRecDepth 10000
namespace Mine
open Mine.K
open PySem PySem.W PySem.Spec PySem.Calls PyProof.Rows

theorem cond_and {c d : Bool} (h : (bif c then d else false) = true) : c = true ∧ d = true := by cases c <;> simp_all
section
variable {p T M a b x y h N v : Nat}
theorem xGo_out : ∀ k, xGo p T a b N h k = true → ∀ x, x < k → yGo p T a b x ((x * (x * x) + a * x + b) % p) N h = true
  | 0, _, x, hx => by omega
  | k + 1, g, x, hx => by
    obtain ⟨g1, g2⟩ := cond_and g
    by_cases e : x = k
    · subst e; exact g1
    · exact xGo_out k g2 x (by omega)
theorem yGo_out : ∀ k, yGo p T a b x v N k = true → ∀ y, 1 ≤ y → y ≤ k → y * y % p = v → pointOk p T a b x y N = true
  | 0, _, y, h1, h2, _ => by omega
  | k + 1, g, y, h1, h2, e => by
    unfold yGo at g
    cases hb : Nat.beq (Nat.mod (Nat.mul (Nat.add k 1) (Nat.add k 1)) p) v with
    | true =>
      rw [hb] at g
      obtain ⟨g1, g2⟩ := cond_and g
      by_cases e' : y = k + 1
      · subst e'; exact g1
      · exact yGo_out k g2 y h1 (by omega) e
    | false =>
      rw [hb] at g
      by_cases e' : y = k + 1
      · subst e'
        have : Nat.beq (Nat.mod (Nat.mul (Nat.add k 1) (Nat.add k 1)) p) v = true := beq_t e
        rw [this] at hb; cases hb
      · exact yGo_out k g y h1 (by omega) e
theorem bGo_point (g : BAll p T M a h) (hb : b < p) (hN : cntN p M a b p 1 ≠ 0) (hx : x < p) (h1 : 1 ≤ y) (h2 : y ≤ h) (e : y * y % p = (x * (x * x) + a * x + b) % p) : pointOk p T a b x y (cntN p M a b p 1) = true := by
  have g1 := g b hb
  unfold bOk at g1
  rw [beq_f hN] at g1
  exact yGo_out h (xGo_out p g1 x hx) y h1 h2 e
theorem findV_out : ∀ k, findV p a y h k = true → ∃ v, 1 ≤ v ∧ v ≤ k ∧ isN p (norA p a v) = true ∧ norY p y v ≤ h
  | 0, g => by cases g
  | k + 1, g => by
    unfold findV at g
    cases hb : isN p (norA p a (Nat.succ k)) with
    | true =>
      rw [hb] at g
      cases hc : Nat.ble (norY p y (Nat.succ k)) h with
      | true => exact ⟨k + 1, by omega, by omega, hb, Nat.le_of_ble_eq_true hc⟩
      | false =>
        rw [hc] at g
        obtain ⟨v, h1, h2, h3⟩ := findV_out k g
        exact ⟨v, h1, by omega, h3⟩
    | false =>
      rw [hb] at g
      obtain ⟨v, h1, h2, h3⟩ := findV_out k g
      exact ⟨v, h1, by omega, h3⟩
theorem yAll_out : ∀ k, yAll p a h k = true → ∀ y, 1 ≤ y → y ≤ k → findV p a y h (p - 1) = true
  | 0, _, y, h1, h2 => by omega
  | k + 1, g, y, h1, h2 => by
    obtain ⟨g1, g2⟩ := cond_and g
    by_cases e : y = k + 1
    · subst e; exact g1
    · exact yAll_out k g2 y h1 (by omega)
theorem aAll_out : ∀ k, aAll p h k = true → ∀ a, 1 ≤ a → a ≤ k → yAll p a h (p - 1) = true
  | 0, _, y, h1, h2 => by omega
  | k + 1, g, y, h1, h2 => by
    obtain ⟨g1, g2⟩ := cond_and g
    by_cases e : y = k + 1
    · subst e; exact g1
    · exact aAll_out k g2 y h1 (by omega)
theorem bAll_out : ∀ k, bAll p M a v k = true → ∀ b, b < k → cntN p M a b p 1 = cntN p M (norA p a v) (norB p b v) p 1
  | 0, _, y, h1 => by omega
  | k + 1, g, y, h1 => by
    obtain ⟨g1, g2⟩ := cond_and g
    by_cases e : y = k
    · subst e; exact Nat.eq_of_beq_eq_true g1
    · exact bAll_out k g2 y (by omega)
theorem vAll_out : ∀ k, vAll p M a k = true → ∀ v, 1 ≤ v → v ≤ k → isN p (norA p a v) = true → bAll p M a v p = true
  | 0, _, y, h1, h2, _ => by omega
  | k + 1, g, y, h1, h2, hi => by
    unfold vAll at g
    by_cases e : y = k + 1
    · subst e
      rw [show isN p (norA p a (Nat.succ k)) = true from hi] at g
      exact (cond_and g).1
    · cases hb : isN p (norA p a (Nat.succ k)) with
      | true => rw [hb] at g; exact vAll_out k (cond_and g).2 y h1 (by omega) hi
      | false => rw [hb] at g; exact vAll_out k g y h1 (by omega) hi
theorem cAll_out : ∀ k, cAll p M k = true → ∀ a, 1 ≤ a → a ≤ k → vAll p M a (p - 1) = true
  | 0, _, y, h1, h2 => by omega
  | k + 1, g, y, h1, h2 => by
    obtain ⟨g1, g2⟩ := cond_and g
    by_cases e : y = k + 1
    · subst e; exact g1
    · exact cAll_out k g2 y h1 (by omega)
theorem nAll_out : ∀ k, nAll p M a k = true → ∀ b, b < k → numOk (cntN p M a b p 1) = true
  | 0, _, y, h1 => by omega
  | k + 1, g, y, h1 => by
    obtain ⟨g1, g2⟩ := cond_and g
    by_cases e : y = k
    · subst e; exact g1
    · exact nAll_out k g2 y (by omega)
theorem numOk_out {c : Nat} (g : numOk c = true) (h0 : c ≠ 0) : 3 ≤ c ∧ c < 64 := by
  unfold numOk at g
  rw [beq_f h0] at g
  obtain ⟨g1, g2⟩ := cond_and g
  have := Nat.le_of_ble_eq_true g1
  have := Nat.le_of_ble_eq_true g2
  omega
theorem findB_out : ∀ k, findB p M a k = true → ∃ b, b < k ∧ cntN p M a b p 1 ≠ 0
  | 0, g => by cases g
  | k + 1, g => by
    unfold findB at g
    cases hb : Nat.beq (cntN p M a k p 1) 0 with
    | true =>
      rw [hb] at g
      obtain ⟨v, h1, h2⟩ := findB_out k g
      exact ⟨v, by omega, h2⟩
    | false =>
      exact ⟨k, by omega, fun e => by rw [beq_t e] at hb; cases hb⟩
theorem eAll_out : ∀ k, eAll p M k = true → ∀ a, 1 ≤ a → a ≤ k → findB p M a p = true
  | 0, _, y, h1, h2 => by omega
  | k + 1, g, y, h1, h2 => by
    obtain ⟨g1, g2⟩ := cond_and g
    by_cases e : y = k + 1
    · subst e; exact g1
    · exact eAll_out k g2 y h1 (by omega)
theorem isN_out {k : Nat} (g : isN p k = true) : k = 1 ∨ k = p - 1 := by
  unfold isN at g
  cases hb : Nat.beq k 1 with
  | true => exact .inl (Nat.eq_of_beq_eq_true hb)
  | false => rw [hb] at g; exact .inr (Nat.eq_of_beq_eq_true g)
end

theorem Cg.fmod0 {p t : Int} (hp : 0 < p) : Cg p t 0 ↔ t.fmod p = 0 := by
  constructor
  · intro h; exact (In.fmod hp).eq0 ((Cg.fmod hp).trans h)
  · intro h; rw [← h]; exact (Cg.fmod hp).symm

/-! ### the count -/
section
variable {p T M a b x : Nat}
theorem valF_nat : valF p a b x = (((x * (x * x) + a * x + b) % p : Nat) : Int) := by
  unfold valF
  rw [Int.fmod_eq_emod_of_nonneg _ (by omega), Int.natCast_emod]
  congr 1
  push_cast
  grind
theorem cnt_go (ht : Tab p T M) : ∀ k acc : Nat, (cntN p M a b k acc : Int) = if (rangeKs 0 k).any (fun x => valF p a b x == 0) then 0 else (acc : Int) + ((rangeKs 0 k).map (stepC p a b)).sum
  | 0, acc => by
    show (acc : Int) = if ([] : List Int).any _ then 0 else (acc : Int) + ([] : List Int).sum
    simp
  | k + 1, acc => by
    have hp0 : 0 < p := by have := ht.p3; omega
    have e : rangeKs 0 (k + 1) = rangeKs 0 k ++ [(k : Int)] := by unfold rangeKs; rw [List.range_succ, List.map_append]; simp
    rw [e, List.any_append, List.map_append, List.sum_append]
    simp only [List.any_cons, List.any_nil, Bool.or_false, List.map_cons, List.map_nil, List.sum_cons, List.sum_nil, Int.add_zero]
    rw [show valF p a b (k : Int) = _ from valF_nat]
    have hs : stepC p a b (k : Int) = 2 * ((M >>> ((k * (k * k) + a * k + b) % p) % 2 : Nat) : Int) := by
      unfold stepC
      rw [show valF p a b (k : Int) = _ from valF_nat]
      have := ht.sq (v := (k * (k * k) + a * k + b) % p) (Nat.mod_lt _ hp0)
      split
      · rw [this.mp ‹_›]; rfl
      · have h2 : ¬ (M >>> ((k * (k * k) + a * k + b) % p) % 2 = 1) := fun g => ‹¬ _› (this.mpr g)
        have h3 : M >>> ((k * (k * k) + a * k + b) % p) % 2 = 0 := by omega
        rw [h3]; rfl
    rw [hs]
    show (((bif Nat.beq ((k * (k * k) + a * k + b) % p) 0 then 0 else cntN p M a b k (acc + 2 * (M >>> ((k * (k * k) + a * k + b) % p) % 2)) : Nat)) : Int) = _
    generalize (k * (k * k) + a * k + b) % p = v at *
    by_cases hv : v = 0
    · subst hv
      simp
    · rw [beq_f hv]
      have e3 : ((v : Int) == 0) = false := by
        cases hc : ((v : Int) == 0) with
        | false => rfl
        | true => have := beq_iff_eq.mp hc; omega
      rw [e3, Bool.or_false]
      show (cntN p M a b k (acc + 2 * (M >>> v % 2)) : Int) = _
      rw [cnt_go ht k]
      split
      · rfl
      · push_cast; omega
theorem count_eq (ht : Tab p T M) : countF p a b = (cntN p M a b p 1 : Int) := by
  rw [cnt_go ht p 1]
  unfold countF
  rw [show (p : Int).toNat = p by omega]
  rfl
end

def sqB (p v : Nat) : Bool := !decide (powI v (((p : Int) - 1).fdiv 2) p = 1) || decide ((powI v (((p : Int) + 1).fdiv 4) p * powI v (((p : Int) + 1).fdiv 4) p - v).fmod p = 0)
structure Good (p T M : Nat) : Prop where
  tab : Tab p T M
  odd : p % 2 = 1
  chk : Chk p T M
  sqr : (List.range p).all (sqB p) = true

theorem powI_In {b e : Int} {p : Nat} (hp : 0 < p) : In p (powI b e p) := by
  have h3 : Builtin.powMod (b % (p : Int)).toNat e.natAbs (p : Int).natAbs < (p : Int).natAbs := powMod_lt (by omega)
  exact ⟨Int.natCast_nonneg _, by unfold powI; omega⟩

section
variable {p T M : Nat} {a b : Nat}
theorem Good.cnt1 (g : Good p T M) (h1 : 1 ≤ a) (ha : a < p) (hb : b < p) {v : Nat} (v1 : 1 ≤ v) (v2 : v < p) (hi : isN p (norA p a v) = true) : cntN p M a b p 1 = cntN p M (norA p a v) (norB p b v) p 1 :=
  bAll_out p (vAll_out _ (cAll_out _ g.chk.cnt a h1 (by omega)) v v1 (by omega) hi) b hb
theorem Good.pos (g : Good p T M) : 3 < p := g.tab.p3
theorem Good.num1 (g : Good p T M) (h1 : 1 ≤ a) (ha : a < p) (hb : b < p) (h0 : cntN p M a b p 1 ≠ 0) : 3 ≤ cntN p M a b p 1 ∧ cntN p M a b p 1 < 64 := by
  have hp := g.pos
  obtain ⟨v, v1, v2, hi, _⟩ := findV_out _ (yAll_out _ (aAll_out _ g.chk.nor a h1 (by omega)) 1 (by omega) (by omega))
  have e := g.cnt1 h1 ha hb v1 (by omega) hi
  rw [e] at h0 ⊢
  have hbl : norB p b v < p := Nat.mod_lt _ (by omega)
  rcases isN_out hi with q | q
  · rw [q] at h0 ⊢; exact numOk_out (nAll_out p g.chk.n1 _ hbl) h0
  · rw [q] at h0 ⊢; exact numOk_out (nAll_out p g.chk.n2 _ hbl) h0

theorem Good.main1 (g : Good p T M) (h1 : 1 ≤ a) (ha : a < p) (hb : b < p) {x y : Nat} (hx : x < p) (y1 : 1 ≤ y) (hy : y < p) (hc : Cg p ((y : Int) * y) ((x : Int) ^ 3 + a * x + b)) (h0 : cntN p M a b p 1 ≠ 0) :
    DueG p (cntN p M a b p 1) a b x y (dueF p a b x y (topN (cntN p M a b p 1))) := by
  have hp := g.pos
  have hp0 : 0 < p := by omega
  have hpI : 0 < (p : Int) := by omega
  obtain ⟨v, v1, v2, hi, hyv⟩ := findV_out _ (yAll_out _ (aAll_out _ g.chk.nor a h1 (by omega)) y y1 (by omega))
  have e := g.cnt1 h1 ha hb v1 (by omega) hi
  have hN := g.num1 h1 ha hb h0
  have q := g.tab.one (v := v) (by omega) (by omega)
  have rv := Nr.refl (p := p) v
  have sa : Nr p (norA p a v) ((v : Int) ^ 4 * a) := (((rv.mul rv).mul (rv.mul rv)).mul (Nr.refl a)).mod.to (by grind)
  have sb : Nr p (norB p b v) ((v : Int) ^ 6 * b) := (((rv.mul (rv.mul rv)).mul (rv.mul (rv.mul rv))).mul (Nr.refl b)).mod.to (by grind)
  have sx : Nr p (norX p x v) ((v : Int) ^ 2 * x) := ((rv.mul rv).mul (Nr.refl x)).mod.to (by grind)
  have sy : Nr p (norY p y v) ((v : Int) ^ 3 * y) := ((rv.mul (rv.mul rv)).mul (Nr.refl y)).mod.to (by grind)
  have la : norA p a v < p := Nat.mod_lt _ hp0
  have lb : norB p b v < p := Nat.mod_lt _ hp0
  have lx : norX p x v < p := Nat.mod_lt _ hp0
  have ly : norY p y v < p := Nat.mod_lt _ hp0
  have back : ∀ (k : Nat) (t : Int) (n : Nat), Nr p n ((v : Int) ^ k * t) → Cg p t ((get6 T v : Int) ^ k * n) := by
    intro k t n hn
    have q2 := q.pow k
    rw [Int.one_pow] at q2
    have e1 : ((v : Int) * (get6 T v : Int)) ^ k = (v : Int) ^ k * (get6 T v : Int) ^ k := Int.mul_pow ..
    rw [e1] at q2
    refine (Cg.of_eq (by omega : t = 1 * t)).trans ((q2.symm.mul (Cg.refl t)).trans ((Cg.of_eq (?_ : _ = (get6 T v : Int) ^ k * ((v : Int) ^ k * t))).trans ((Cg.refl _).mul hn.symm)))
    generalize (v : Int) ^ k = α
    generalize (get6 T v : Int) ^ k = β
    grind
  have hu : Un p (get6 T v : Int) := ⟨v, (Cg.of_eq (by grind)).trans q⟩
  have hY := back 3 y _ sy
  have y0 : norY p y v ≠ 0 := by
    intro e
    rw [e] at hY
    have := (In.nat hy).eq0 (hY.trans (Cg.of_eq (by simp)))
    omega
  have heq : norY p y v * norY p y v % p = (norX p x v * (norX p x v * norX p x v) + norA p a v * norX p x v + norB p b v) % p := by
    have l : Nr p (norY p y v * norY p y v % p) ((v : Int) ^ 6 * ((y : Int) * y)) := (sy.mul sy).mod.to (by grind)
    have r : Nr p ((norX p x v * (norX p x v * norX p x v) + norA p a v * norX p x v + norB p b v) % p) ((v : Int) ^ 6 * ((x : Int) ^ 3 + a * x + b)) :=
      (((sx.mul (sx.mul sx)).add (sa.mul sx)).add sb).mod.to (by grind)
    have := (l.trans (((Cg.refl _).mul hc).trans r.symm)).eq ⟨Int.natCast_nonneg _, by have := Nat.mod_lt (norY p y v * norY p y v) hp0; omega⟩ ⟨Int.natCast_nonneg _, by have := Nat.mod_lt (norX p x v * (norX p x v * norX p x v) + norA p a v * norX p x v + norB p b v) hp0; omega⟩
    omega
  rw [e] at h0
  have hpt : pointOk p T (norA p a v) (norB p b v) (norX p x v) (norY p y v) (cntN p M (norA p a v) (norB p b v) p 1) = true := by
    rcases isN_out hi with q | q
    · rw [q] at h0 heq ⊢; exact bGo_point g.chk.one lb h0 lx (by omega) hyv heq
    · rw [q] at h0 heq ⊢; exact bGo_point g.chk.two lb h0 lx (by omega) hyv heq
  rw [← e] at hpt
  exact point g.tab g.odd hu (back 4 a _ sa) (back 6 b _ sb) (back 2 x _ sx) hY (In.nat hx) (In.nat hy) lx ly (by omega) hN hpt

theorem Good.onC1 (g : Good p T M) {x : Nat} (h : onC p a b x) : Cg p (yOf p a b x * yOf p a b x) ((x : Int) ^ 3 + a * x + b) := by
  have hpI : 0 < (p : Int) := by have := g.pos; omega
  have k := (Cg.fmod0 hpI).mpr h
  have k2 := k.add (Cg.refl ((x : Int) ^ 3 + a * x + b))
  refine (Cg.of_eq ?_).trans (k2.trans (Cg.of_eq (by omega)))
  show _ = yOf p a b x * yOf p a b x - (x : Int) ^ 3 - a * x - b + _
  omega
theorem root_zero (ht : Tab p T M) {x : Nat} (hx : x < p) (h : Cg p 0 ((x : Int) ^ 3 + a * x + b)) : countF p a b = 0 := by
  have hpI : 0 < (p : Int) := by omega
  unfold countF
  refine if_pos (List.any_eq_true.mpr ⟨(x : Int), ?_, ?_⟩)
  · unfold rangeKs
    exact List.mem_map.mpr ⟨x, List.mem_range.mpr (by omega), by omega⟩
  · exact beq_iff_eq.mpr ((Cg.fmod0 hpI).mp h.symm)
theorem sum_zero {f : Int → Int} : ∀ l : List Int, (∀ x ∈ l, f x = 0) → (l.map f).sum = 0
  | [], _ => rfl
  | x :: l, h => by
    rw [List.map_cons, List.sum_cons, h x (List.mem_cons_self ..), sum_zero l fun y hy => h y (List.mem_cons_of_mem _ hy)]; rfl
theorem Good.exX1 (g : Good p T M) (h1 : 1 ≤ a) (ha : a < p) (hb : b < p) (h0 : countF p a b ≠ 0) : ∃ x : Nat, x < p ∧ onC p a b x := by
  have hp0 : 0 < p := by have := g.pos; omega
  have hpI : 0 < (p : Int) := by omega
  have hc := count_eq (a := a) (b := b) g.tab
  have hn := g.num1 h1 ha hb (by omega)
  have hs : ((rangeKs 0 p).map (stepC p a b)).sum ≠ 0 := by
    intro e
    have : countF p a b = 0 ∨ countF p a b = 1 := by
      unfold countF
      rw [show (p : Int).toNat = p by omega, e]
      split
      · exact .inl rfl
      · exact .inr rfl
    omega
  have : ∃ x ∈ rangeKs 0 p, stepC p a b x ≠ 0 := by
    refine Classical.byContradiction fun hno => hs (sum_zero _ fun x hx => Classical.byContradiction fun e => hno ⟨x, hx, e⟩)
  obtain ⟨z, hz, hst⟩ := this
  have hm := mem_rangeKs hz
  obtain ⟨x, ex⟩ := Int.eq_ofNat_of_zero_le hm.1
  subst ex
  refine ⟨x, by omega, ?_⟩
  have hpw : powI (valF p a b x) (((p : Int) - 1).fdiv 2) p = 1 := by
    refine Classical.byContradiction fun e => hst ?_
    exact if_neg e
  rw [valF_nat] at hpw
  have lv : (x * (x * x) + a * x + b) % p < p := Nat.mod_lt _ hp0
  have hq := List.all_eq_true.mp g.sqr _ (List.mem_range.mpr lv)
  unfold sqB at hq
  rw [decide_eq_true hpw] at hq
  have hq2 : (powI ((x * (x * x) + a * x + b) % p : Nat) (((p : Int) + 1).fdiv 4) p * powI ((x * (x * x) + a * x + b) % p : Nat) (((p : Int) + 1).fdiv 4) p - ((x * (x * x) + a * x + b) % p : Nat)).fmod p = 0 := by
    simpa using hq
  have ey : yOf p a b x = powI ((x * (x * x) + a * x + b) % p : Nat) (((p : Int) + 1).fdiv 4) p := by
    unfold yOf
    rw [← powI_mod]
    congr 1
    rw [Int.natCast_emod]
    congr 1
    push_cast
    show (x : Int) ^ 3 + _ + _ = _
    grind
  rw [← ey] at hq2
  refine (Cg.fmod0 hpI).mp ?_
  have k := ((Cg.fmod0 hpI).mpr hq2).add (Cg.sub (Nr.mod (Nr.refl (p := p) (x * (x * x) + a * x + b))) (Cg.refl ((x : Int) ^ 3 + a * x + b)))
  refine (Cg.of_eq ?_).trans (k.trans (Cg.of_eq ?_))
  · show yOf p a b x * yOf p a b x - (x : Int) ^ 3 - a * x - b = _
    omega
  · push_cast
    grind
end

theorem good (p : Int) (h : p ∈ primes) : ∃ n T M : Nat, p = n ∧ Good n T M := by
  have h : p = 7 ∨ p = 11 ∨ p = 19 ∨ p = 23 ∨ p = 31 ∨ p = 43 := by simpa [primes] using h
  rcases h with e | e | e | e | e | e
  · exact ⟨7, _, _, e, tab7, by decide, chk7, by decide +kernel⟩
  · exact ⟨11, _, _, e, tab11, by decide, chk11, by decide +kernel⟩
  · exact ⟨19, _, _, e, tab19, by decide, chk19, by decide +kernel⟩
  · exact ⟨23, _, _, e, tab23, by decide, chk23, by decide +kernel⟩
  · exact ⟨31, _, _, e, tab31, by decide, chk31, by decide +kernel⟩
  · exact ⟨43, _, _, e, tab43, by decide, chk43, by decide +kernel⟩

theorem facts : Facts where
  exB := by
    intro p hp a h1 ha
    obtain ⟨n, T, M, rfl, g⟩ := good p hp
    obtain ⟨a, rfl⟩ := Int.eq_ofNat_of_zero_le (show 0 ≤ a by omega)
    obtain ⟨b, hb, h0⟩ := findB_out _ (eAll_out _ g.chk.ex a (by omega) (by omega))
    exact ⟨b, by omega, by omega, by rw [count_eq g.tab]; omega⟩
  num := by
    intro p hp a h1 ha b hb0 hb h0
    obtain ⟨n, T, M, rfl, g⟩ := good p hp
    obtain ⟨a, rfl⟩ := Int.eq_ofNat_of_zero_le (show 0 ≤ a by omega)
    obtain ⟨b, rfl⟩ := Int.eq_ofNat_of_zero_le hb0
    rw [count_eq g.tab] at h0 ⊢
    have := g.num1 (a := a) (b := b) (by omega) (by omega) (by omega) (by omega)
    omega
  main := by
    intro p hp a h1 ha b hb0 hb h0 x hx0 hx hon y hy
    obtain ⟨n, T, M, rfl, g⟩ := good p hp
    obtain ⟨a, rfl⟩ := Int.eq_ofNat_of_zero_le (show 0 ≤ a by omega)
    obtain ⟨b, rfl⟩ := Int.eq_ofNat_of_zero_le hb0
    obtain ⟨x, rfl⟩ := Int.eq_ofNat_of_zero_le hx0
    have hp3 := g.pos
    have hr := g.onC1 hon
    have ir : In n (yOf n a b x) := powI_In (by omega)
    have r0 : yOf n a b x ≠ 0 := by
      intro e
      rw [e] at hr
      exact h0 (root_zero g.tab (by omega) hr)
    have i1 := ir.nn
    have i2 := ir.lt
    have hyy : Cg n (y * y) ((x : Int) ^ 3 + a * x + b) := by
      rcases hy with e | e
      · rw [e]; exact hr
      · rw [e]
        refine Cg.trans ⟨(n : Int) - 2 * yOf n a b x, ?_⟩ hr
        generalize yOf n a b x = r
        grind
    have y1 : 0 < y ∧ y < n := by rcases hy with e | e <;> omega
    refine ⟨y1.1, y1.2, ?_⟩
    obtain ⟨y, rfl⟩ := Int.eq_ofNat_of_zero_le (show 0 ≤ y by omega)
    have hc := count_eq (a := a) (b := b) g.tab
    have e2 : (if countF n a b > 22 then countF n a b else 22) = (topN (cntN n M a b n 1) : Int) := by
      rw [hc, topN_eq]; split <;> split <;> omega
    rw [e2, hc]
    exact g.main1 (by omega) (by omega) (by omega) (by omega) (by omega) (by omega) hyy (by omega)
  exX := by
    intro p hp a h1 ha b hb0 hb h0
    obtain ⟨n, T, M, rfl, g⟩ := good p hp
    obtain ⟨a, rfl⟩ := Int.eq_ofNat_of_zero_le (show 0 ≤ a by omega)
    obtain ⟨b, rfl⟩ := Int.eq_ofNat_of_zero_le hb0
    obtain ⟨x, hx, hon⟩ := g.exX1 (a := a) (b := b) (by omega) (by omega) (by omega) h0
    exact ⟨x, by omega, by omega, hon⟩
end Mine

end
theorem PySem.Challenge.cw_bb0055_01_holds : PySem.Challenge.rw_bb0055_01.Holds :=
  Mine.t Mine.facts

