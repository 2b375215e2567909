import PyProof.Rows.All
import Wide.All
import OpenK.AllK
import Wide.FinOn
import PySem.Challenge.RW_bw0037_01
open PySem PySem.W PyProof.Rows
set_option Elab.async false
set_option maxRecDepth 100000
set_option maxHeartbeats 8000000
namespace Mine
open_top hd for PySem.Challenge.rw_bw0037_01
end Mine
namespace Mine
structure Cv where
  (P N A B G H : Int)
structure Good (c : Cv) : Prop where
  p0 : 0 < c.P
  p1 : c.P < 32
  n0 : 0 < c.N
  n1 : c.N < 32
  a0 : 0 ≤ c.A
  a1 : c.A < 32
inductive PtIn (news : List (Addr × Obj)) : Value → Int → Int → Int → Prop
  | mk {a : Addr} {x y z : Int} {tx ty tz : Tok} {n : Nat} : (a, ({ cls := .type "tuple", data := .seq #[.int x tx, .int y ty, .int z tz] n } : Obj)) ∈ news → PtIn news (.ref a) x y z
inductive CvIn (news : List (Addr × Obj)) : Value → Cv → Prop
  | mk {a : Addr} {P N A B G H : Int} {t1 t2 t3 t4 t5 t6 : Tok} {n : Nat} : (a, ({ cls := .type "tuple", data := .seq #[.int P t1, .int N t2, .int A t3, .int B t4, .int G t5, .int H t6] n } : Obj)) ∈ news → CvIn news (.ref a) ⟨P, N, A, B, G, H⟩
inductive XyIn (news : List (Addr × Obj)) : Value → Int → Int → Prop
  | mk {a : Addr} {x y : Int} {tx ty : Tok} {n : Nat} : (a, ({ cls := .type "tuple", data := .seq #[.int x tx, .int y ty] n } : Obj)) ∈ news → XyIn news (.ref a) x y
structure B3 (x y z : Int) : Prop where
  x0 : 0 ≤ x
  x1 : x < 32
  y0 : 0 ≤ y
  y1 : y < 32
  z0 : 0 ≤ z
  z1 : z < 32
abbrev I3 := Int × Int × Int
def PtOut (news : List (Addr × Obj)) (r : Value) (t : I3) : Prop := ∃ x y z, t = (x, y, z) ∧ B3 x y z ∧ PtIn news r x y z
def XyOut (news : List (Addr × Obj)) (r : Value) (t : Int × Int) : Prop := ∃ x y, t = (x, y) ∧ 0 ≤ x ∧ x < 32 ∧ 0 ≤ y ∧ y < 32 ∧ XyIn news r x y
/-- what is made last: a fresh pair -/
abbrev One (tl : List (Addr × Obj)) : Prop := ∃ p, tl = [p]
def FrOut (nl : List (Addr × Obj)) (r : Value) (t : Int × Int) : Prop := ∃ (D : Addr) (x y : Int) (tx ty : Tok) (n : Nat), r = .ref D ∧ nl.getLast? = some (D, ({ cls := .type "tuple", data := .seq #[.int x tx, .int y ty] n } : Obj)) ∧ t = (x, y) ∧ 0 ≤ x ∧ x < 32 ∧ 0 ≤ y ∧ y < 32
theorem FrOut.open {news tl : List (Addr × Obj)} {r : Value} {t : Int × Int} (ht : One tl) (ho : FrOut (news ++ tl) r t) :
    ∃ (D : Addr) (x y : Int) (tx ty : Tok) (n : Nat), tl = [(D, ({ cls := .type "tuple", data := .seq #[.int x tx, .int y ty] n } : Obj))] ∧ r = .ref D ∧ t = (x, y) ∧ 0 ≤ x ∧ x < 32 ∧ 0 ≤ y ∧ y < 32 := by
  obtain ⟨p, rfl⟩ := ht
  obtain ⟨D, x, y, tx, ty, n, hr, hl, h⟩ := ho
  rw [List.getLast?_concat] at hl
  cases hl
  exact ⟨D, x, y, tx, ty, n, rfl, hr, h⟩
theorem FrOut.mk {news : List (Addr × Obj)} {D : Addr} {x y : Int} {tx ty : Tok} {n : Nat} {t : Int × Int} (e : t = (x, y)) (h0 : 0 ≤ x) (h1 : x < 32) (h2 : 0 ≤ y) (h3 : y < 32) :
    FrOut (news ++ [(D, ({ cls := .type "tuple", data := .seq #[.int x tx, .int y ty] n } : Obj))]) (.ref D) t :=
  ⟨D, x, y, tx, ty, n, rfl, List.getLast?_concat .., e, h0, h1, h2, h3⟩
theorem news_front {h₀ h : Heap} {L : Addr} {q : Addr × Obj} {news : List (Addr × Obj)} (N : News h₀ L h (news ++ [q])) : News h₀ L h (q :: news) :=
  fun p hp => N p ((List.mem_cons.mp hp).elim (fun e => List.mem_append.mpr (.inr (by rw [e]; exact .head _))) fun e => List.mem_append.mpr (.inl e))
theorem news_top {h₀ h : Heap} {L : Addr} {q : Addr × Obj} {news X : List (Addr × Obj)} (N : News h₀ L h (news ++ X ++ [q])) : News h₀ L h (news ++ [q]) :=
  fun p hp => N p ((List.mem_append.mp hp).elim (fun e => List.mem_append.mpr (.inl (List.mem_append.mpr (.inl e)))) fun e => List.mem_append.mpr (.inr e))
theorem news_tip {h₀ h : Heap} {L : Addr} {q : Addr × Obj} {news X : List (Addr × Obj)} (N : News h₀ L h (q :: (news ++ X))) : News h₀ L h (news ++ [q]) :=
  fun p hp => N p ((List.mem_append.mp hp).elim (fun e => .tail _ (List.mem_append.mpr (.inl e))) fun e => by rw [List.mem_singleton.mp e]; exact .head _)
theorem ord_front {q : Addr × Obj} {news : List (Addr × Obj)} (h : ∀ p ∈ news, ∀ r ∈ [q], p.1 < r.1) : ∀ p ∈ news, p.1 < q.1 := fun p hp => h p hp q (.head _)
/-- a letter's meaning, hidden from the closers -/
def Eqn (r e : Int) : Prop := r = e
/-- three letters' meaning -/
def Eqn3 (t u : I3) : Prop := t = u
section
variable {prog : Program} {w : World} {A : Around} {E : Value → Shared → Prop} {s : Shared} {a b n : Int} {t u : Tok} {Q : Value → Shared → Prop}
theorem m_mod (hb : 0 < b) (h : ∀ r, Eqn r (a.fmod b) → 0 ≤ r → r < b → Q (.int r s.toks) { s with toks := s.toks + 1 }) : wpAny (model prog w) A (binaryOp .Mod (.int a t) (.int b u)) Q E s :=
  mod_int' (by omega) (h _ rfl (Int.fmod_nonneg_of_pos _ hb) (Int.fmod_lt_of_pos _ hb))
theorem m_mulL (h1 : -(2 ^ 64) < a) (h2 : a < 2 ^ 64) (h : ∀ r, Eqn r (a * b) → Q (.int r s.toks) { s with toks := s.toks + 1 }) : wpAny (model prog w) A (binaryOp .Mult (.int a t) (.int b u)) Q E s :=
  mul_int (h _ rfl) (.of_left (intBits_le_64 h1 h2))
theorem m_mulR (h1 : -(2 ^ 64) < b) (h2 : b < 2 ^ 64) (h : ∀ r, Eqn r (a * b) → Q (.int r s.toks) { s with toks := s.toks + 1 }) : wpAny (model prog w) A (binaryOp .Mult (.int a t) (.int b u)) Q E s :=
  mul_int (h _ rfl) (.of_right (intBits_le_64 h1 h2))
theorem m_pow (hn : 0 ≤ n) (hn2 : n ≤ 1000000) (h1 : -(2 ^ 64) < a) (h2 : a < 2 ^ 64) (h : ∀ r, Eqn r (a ^ n.toNat) → Q (.int r s.toks) { s with toks := s.toks + 1 }) : wpAny (model prog w) A (binaryOp .Pow (.int a t) (.int n u)) Q E s :=
  pow_int_small hn hn2 (by omega) (h _ rfl)
end
theorem ord_app {news tl tl' : List (Addr × Obj)} (h : ∀ q ∈ news, ∀ p ∈ tl, q.1 < p.1) (h' : ∀ q ∈ news, ∀ p ∈ tl', q.1 < p.1) : ∀ q ∈ news, ∀ p ∈ tl ++ tl', q.1 < p.1 :=
  fun q hq p hp => (List.mem_append.mp hp).elim (h q hq p) (h' q hq p)
theorem ord_weak {news X tl : List (Addr × Obj)} (h : ∀ q ∈ news ++ X, ∀ p ∈ tl, q.1 < p.1) : ∀ q ∈ news, ∀ p ∈ tl, q.1 < p.1 :=
  fun q hq => h q (List.mem_append.mpr (.inl hq))
-- the plain functions
def dblF (P A : Int) : I3 → I3
  | (x, y, z) => if y = 0 then (0, 0, 0) else
    let ysq := (y ^ Int.toNat 2).fmod P
    let S := (4 * x * ysq).fmod P
    let M := (3 * x ^ Int.toNat 2 + A * z ^ Int.toNat 4).fmod P
    let nx := (M ^ Int.toNat 2 - 2 * S).fmod P
    let ny := (M * (S - nx) - 8 * ysq ^ Int.toNat 2).fmod P
    let nz := (2 * y * z).fmod P
    (nx, ny, nz)
def addF (P A : Int) : I3 → I3 → I3
  | (x, y, z), (x', y', z') => if y = 0 then (x', y', z') else if y' = 0 then (x, y, z) else
    let U1 := (x * z' ^ Int.toNat 2).fmod P
    let U2 := (x' * z ^ Int.toNat 2).fmod P
    let S1 := (y * z' ^ Int.toNat 3).fmod P
    let S2 := (y' * z ^ Int.toNat 3).fmod P
    if U1 = U2 then (if S1 ≠ S2 then (0, 0, 1) else dblF P A (x, y, z)) else
    let H := U2 - U1
    let R := S2 - S1
    let H2 := (H * H).fmod P
    let H3 := (H * H2).fmod P
    let U1H2 := (U1 * H2).fmod P
    let nx := (R ^ Int.toNat 2 - H3 - 2 * U1H2).fmod P
    let ny := (R * (U1H2 - nx) - S1 * H3).fmod P
    let nz := (H * z * z').fmod P
    (nx, ny, nz)
def invL : Nat → Int → Int → Int → Int → Int
  | 0, lm, _, _, _ => lm
  | k + 1, lm, low, hm, high => if 1 < low then invL k (hm - lm * high.fdiv low) (high - low * high.fdiv low) lm low else lm
def invF (a n : Int) : Int := if a = 0 then 0 else (invL 32 1 (a.fmod n) 0 n).fmod n
def fromF (P : Int) : I3 → Int × Int
  | (x, y, z) => let k := invF z P; ((x * k ^ Int.toNat 2).fmod P, (y * k ^ Int.toNat 3).fmod P)
def jmulF (P A : Int) (a : I3) : Nat → Int → I3
  | 0, _ => (0, 0, 1)
  | k + 1, n => if a.2.1 = 0 ∨ n = 0 then (0, 0, 1) else if n = 1 then a else
    if n.fmod 2 = 0 then dblF P A (jmulF P A a k (n.fdiv 2)) else addF P A (dblF P A (jmulF P A a k (n.fdiv 2))) a
theorem jm_fuel (P A : Int) (a : I3) : ∀ (k k' : Nat) (n : Int), 0 ≤ n → n.toNat < k → n.toNat < k' → jmulF P A a k n = jmulF P A a k' n := by
  intro k
  induction k with
  | zero => intro k' n _ h; omega
  | succ k ih =>
    intro k' n hn h h'
    cases k' with
    | zero => omega
    | succ k' =>
      by_cases h0 : a.2.1 = 0 ∨ n = 0
      · rw [jmulF, jmulF, if_pos h0, if_pos h0]
      · by_cases h1 : n = 1
        · rw [jmulF, jmulF, if_neg h0, if_neg h0, if_pos h1, if_pos h1]
        · rw [jmulF, jmulF, if_neg h0, if_neg h0, if_neg h1, if_neg h1]
          have e := Int.fdiv_eq_ediv_of_nonneg n (b := 2) (by omega)
          rw [ih k' (n.fdiv 2) (by omega) (by omega) (by omega)]
theorem jm0 {P A x y z n : Int} {k : Nat} (h : y = 0 ∨ n = 0) : jmulF P A (x, y, z) (k + 1) n = (0, 0, 1) := by rw [jmulF, if_pos h]
theorem jm1 {P A x y z n : Int} {k : Nat} (h : y ≠ 0) (h1 : n = 1) : jmulF P A (x, y, z) (k + 1) n = (x, y, z) := by
  rw [jmulF, if_neg (by dsimp only; omega), if_pos h1]
theorem jmE {P A x y z n r q : Int} {t u : I3} (h : y ≠ 0) (h0 : n ≠ 0) (h1 : n ≠ 1) (hn : 0 ≤ n) (e : Eqn r (n.fmod 2)) (er : r = 0) (eq : Eqn q (n.fdiv 2)) (ht : jmulF P A (x, y, z) (q.toNat + 1) q = t) (hu : dblF P A t = u) :
    jmulF P A (x, y, z) (n.toNat + 1) n = u := by
  unfold Eqn at *
  have e2 := Int.fdiv_eq_ediv_of_nonneg n (b := 2) (by omega)
  rw [jmulF, if_neg (by dsimp only; omega), if_neg h1, if_pos (by omega), ← eq, jm_fuel P A _ _ (q.toNat + 1) q (by omega) (by omega) (by omega), ht, hu]
theorem jmO {P A x y z n r q : Int} {t u v : I3} (h : y ≠ 0) (h0 : n ≠ 0) (h1 : n ≠ 1) (hn : 0 ≤ n) (e : Eqn r (n.fmod 2)) (er : r ≠ 0) (eq : Eqn q (n.fdiv 2)) (ht : jmulF P A (x, y, z) (q.toNat + 1) q = t) (hu : dblF P A t = u) (hv : addF P A u (x, y, z) = v) :
    jmulF P A (x, y, z) (n.toNat + 1) n = v := by
  unfold Eqn at *
  have e2 := Int.fdiv_eq_ediv_of_nonneg n (b := 2) (by omega)
  rw [jmulF, if_neg (by dsimp only; omega), if_neg h1, if_neg (by omega), ← eq, jm_fuel P A _ _ (q.toNat + 1) q (by omega) (by omega) (by omega), ht, hu, hv]
def mulF (P A x y n : Int) : Int × Int := fromF P (jmulF P A (x, y, 1) (n.toNat + 1) n)
def plusF (P A x y x' y' : Int) : Int × Int := fromF P (addF P A (x, y, 1) (x', y', 1))
-- the contracts' data
structure D3 where
  cv : Cv
  (x y z : Int)
inductive DblRel (news : List (Addr × Obj)) : List Value → D3 → Prop
  | mk {p c : Value} {cv : Cv} {x y z : Int} : PtIn news p x y z → CvIn news c cv → DblRel news [p, c] ⟨cv, x, y, z⟩
abbrev dblT : ToldN D3 where
  Rel := DblRel
  Ok := fun d => Good d.cv ∧ B3 d.x d.y d.z
  size := fun _ => 1
  Tl := fun _ => True
  Out := fun news r d => PtOut news r (dblF d.cv.P d.cv.A (d.x, d.y, d.z))
end Mine
namespace Mine
local macro_rules | `(tactic| walk_at "binaryOp Mod int int") => `(tactic| (k_here; (refine m_mod (by first | decide | omega) ?_); intro r' e' lo' hi'))
local macro_rules | `(tactic| walk_at "binaryOp Mult int int") => `(tactic| (k_here; (first | refine m_mulL (by omega) (by omega) ?_ | refine m_mulR (by omega) (by omega) ?_); intro r' e'))
local macro_rules | `(tactic| walk_at "binaryOp Pow int int") => `(tactic| (k_here; (refine m_pow (by decide) (by decide) (by omega) (by omega) ?_); intro r' e'))
theorem dbl (w : World) (mean : ExcName → Option Value) (mg mb : Str → Option Value) (d : D3) : TellsN PySem.Challenge.rw_bw0037_01.row.prog w (Mine.hd.heap_39 w.params) Mine.hd.view_39 (looseW Mine.hd.view_39 []) mean mg mb 49 dblT d := by
  have : (Mine.hd.heap_39 = Mine.hd.heap_39 ∧ PySem.Challenge.rw_bw0037_01.prog = PySem.Challenge.rw_bw0037_01.prog) → True := by k_fill; intro _; trivial
  clear this
  unfold TellsN
  intro dp un gd cn cs a ccd cl outer A₀ base h₀ L m news s vs Q E B F X N T hk hR hok hd hu hret
  obtain ⟨hp, hc⟩ := hR
  obtain ⟨hpm⟩ := hp
  obtain ⟨hcm⟩ := hc
  obtain ⟨⟨p0, p1, n0, n1, a0, a1⟩, ⟨x0, x1, y0, y1, z0, z1⟩⟩ := hok
  dsimp only at p0 p1 n0 n1 a0 a1 x0 x1 y0 y1 z0 z1
  refine wpAny_call ?_
  k_dflt ktr_enter
  k_steps
  all_goals (
    refine' hret _ _ _ _ ?e1 ?e2 ?e3 True.intro ?e5
    (case e1 => k_asm)
    (case e2 => exact ktn_tl1 (by k_asm))
    (case e3 => ktn_ord)
    (case e5 =>
      refine' ⟨_, _, _, ?g1, ?g2, .mk ktn_new⟩
      (case g2 => constructor <;> omega)
      (case g1 => unfold Eqn at *; subst_vars; first | (simp only [dblF, if_true]; done) | (rename _ ≠ (0 : Int) => ny'; simp only [dblF, if_neg ny']; done) | (rename _ ≠ (0 : Int) => ny'; simp only [dblF, if_neg ny']; rfl))))
end Mine
namespace Mine
local macro_rules | `(tactic| walk_at "binaryOp Mod int int") => `(tactic| (k_here; (refine m_mod (by first | decide | omega) ?_); intro r' e' lo' hi'))
local macro_rules | `(tactic| walk_at "binaryOp Mult int int") => `(tactic| (k_here; (first | refine m_mulL (by omega) (by omega) ?_ | refine m_mulR (by omega) (by omega) ?_); intro r' e'))
local macro_rules | `(tactic| walk_at "binaryOp Pow int int") => `(tactic| (k_here; (refine m_pow (by decide) (by decide) (by omega) (by omega) ?_); intro r' e'))
local macro_rules | `(tactic| walk_at "call ref") => `(tactic| (k_here; k_dflt (
   (refine' tellsN_use (c := dblT) ?k1 ?k2 ?k3 ?k4 ?k5 ?kK ?kR (dbl _ _ _ _ _) ?ko ?kd ?ku ?_)
   (case k1 => k_asm)
   (case k2 => k_asm)
   (case k3 => k_asm)
   (case k4 => k_asm)
   (case k5 => k_asm)
   (case kK => first | exact rfl | assumption)
   (case kR => exact .mk (.mk (by k_mem)) (.mk (by k_mem)))
   (case ko => exact ⟨by assumption, by constructor <;> assumption⟩)
   (case kd => ktr_room)
   (case ku => ktr_units)
   intro r9 tl9 h9 tk9 F9 N9 hl9 ht9 ho9
   obtain ⟨x9, y9, z9, e9, b9, ⟨p9⟩⟩ := ho9
   obtain ⟨bx0, bx1, by0, by1, bz0, bz1⟩ := b9
   (try dsimp only at e9)
   (try dsimp only)
   (try k_fold))))
structure D6 where
  cv : Cv
  (x y z x' y' z' : Int)
inductive AddRel (news : List (Addr × Obj)) : List Value → D6 → Prop
  | mk {p q c : Value} {cv : Cv} {x y z x' y' z' : Int} : PtIn news p x y z → PtIn news q x' y' z' → CvIn news c cv → AddRel news [p, q, c] ⟨cv, x, y, z, x', y', z'⟩
abbrev addT : ToldN D6 where
  Rel := AddRel
  Ok := fun d => Good d.cv ∧ B3 d.x d.y d.z ∧ B3 d.x' d.y' d.z'
  size := fun _ => 2
  Tl := fun _ => True
  Out := fun news r d => PtOut news r (addF d.cv.P d.cv.A (d.x, d.y, d.z) (d.x', d.y', d.z'))
theorem addJ (w : World) (mean : ExcName → Option Value) (mg mb : Str → Option Value) (d : D6) : TellsN PySem.Challenge.rw_bw0037_01.row.prog w (Mine.hd.heap_39 w.params) Mine.hd.view_39 (looseW Mine.hd.view_39 []) mean mg mb 56 addT d := by
  have : (Mine.hd.heap_39 = Mine.hd.heap_39 ∧ PySem.Challenge.rw_bw0037_01.prog = PySem.Challenge.rw_bw0037_01.prog) → True := by k_fill; intro _; trivial
  clear this
  unfold TellsN
  intro dp un gd cn cs a ccd cl outer A₀ base h₀ L m news s vs Q E B F X N T hk hR hok hd hu hret
  obtain ⟨hp, hq, hc⟩ := hR
  obtain ⟨hpm⟩ := hp
  obtain ⟨hqm⟩ := hq
  obtain ⟨hcm⟩ := hc
  obtain ⟨hG, ⟨x0, x1, y0, y1, z0, z1⟩, ⟨x0', x1', y0', y1', z0', z1'⟩⟩ := hok
  obtain ⟨p0, p1, n0, n1, a0, a1⟩ := id hG
  dsimp only at hG p0 p1 n0 n1 a0 a1 x0 x1 y0 y1 z0 z1 x0' x1' y0' y1' z0' z1'
  refine wpAny_call ?_
  k_dflt ktr_enter
  k_steps
  all_goals (
    refine' hret _ _ _ _ ?e1 ?e2 ?e3 True.intro ?e5
    (case e1 => k_asm)
    (case e2 => first | exact ktn_tl1 (by k_asm) | k_asm | exact ktn_tl0 (by k_asm))
    (case e3 => first | exact ktn_ord0 | ktn_ord)
    (case e5 =>
      refine' ⟨_, _, _, ?g1, ?g2, .mk (by first | exact ktn_new | k_mem)⟩
      (case g2 => constructor <;> omega)
      (case g1 => unfold Eqn at *; subst_vars; simp only [addF]; (repeat' split) <;> first | rfl | assumption | contradiction | omega)))
end Mine
namespace Mine
theorem m_fdiv {prog : Program} {w : World} {A : Around} {E : Value → Shared → Prop} {s : Shared} {a b : Int} {t u : Tok} {Q : Value → Shared → Prop} (ha : 0 ≤ a) (hb : 0 < b) (hb' : b < 10000)
    (h : ∀ r, Eqn r (a.fdiv b) → 0 ≤ r → r ≤ a → Q (.int r s.toks) { s with toks := s.toks + 1 }) : wpAny (model prog w) A (binaryOp .FloorDiv (.int a t) (.int b u)) Q E s := by
  refine floordiv_int (by omega) (h _ rfl ?_ ?_) (Or.inl (PyProof.noPylong_small (by omega)))
  · exact Int.fdiv_nonneg ha (by omega)
  · rw [Int.fdiv_eq_ediv_of_nonneg _ (by omega)]
    exact Int.ediv_le_self _ ha
def InvK (a n lm low hm high : Int) : Prop := ∃ k : Nat, low.toNat ≤ k ∧ invL k lm low hm high = invL 32 1 (a.fmod n) 0 n
theorem inv_start {a n r : Int} (e : Eqn r (a.fmod n)) (h0 : 0 ≤ r) (h1 : r < n) (h2 : n < 32) : 0 ≤ r ∧ r < 64 ∧ 0 ≤ n ∧ n < 64 ∧ InvK a n 1 r 0 n := by
  unfold Eqn at e
  exact ⟨h0, by omega, by omega, by omega, 32, by omega, by rw [e]⟩
theorem inv_low {low high r m : Int} (hl : 1 < low) (e1 : Eqn r (high.fdiv low)) (e2 : Eqn m (low * r)) : 0 ≤ high - m ∧ high - m < low := by
  unfold Eqn at *
  subst e1; subst e2
  have h := Int.mul_fdiv_add_fmod high low
  have h1 := Int.fmod_nonneg_of_pos high (b := low) (by omega)
  have h2 := Int.fmod_lt_of_pos high (b := low) (by omega)
  omega
theorem inv_meas {low high r m : Int} (hl : 1 < low) (e1 : Eqn r (high.fdiv low)) (e2 : Eqn m (low * r)) : (high - m).toNat < low.toNat := by
  have h := inv_low hl e1 e2
  omega
theorem inv_turn {a n lm low hm high r m m' : Int} (h : 0 ≤ low ∧ low < 64 ∧ 0 ≤ high ∧ high < 64 ∧ InvK a n lm low hm high) (hl : 1 < low) (e1 : Eqn r (high.fdiv low)) (e2 : Eqn m (lm * r)) (e3 : Eqn m' (low * r)) :
    0 ≤ high - m' ∧ high - m' < 64 ∧ 0 ≤ low ∧ low < 64 ∧ InvK a n (hm - m) (high - m') lm low := by
  obtain ⟨h1, h2, h3, h4, k, hk, he⟩ := h
  have hlow := inv_low hl e1 e3
  refine ⟨hlow.1, by omega, h1, h2, ?_⟩
  cases k with
  | zero => omega
  | succ k =>
    refine ⟨k, by omega, ?_⟩
    rw [← he]
    unfold Eqn at *
    subst e1; subst e2; subst e3
    rw [invL, if_pos hl]
theorem inv_end {a n lm low hm high : Int} (h : InvK a n lm low hm high) (hl : ¬ 1 < low) : lm = invL 32 1 (a.fmod n) 0 n := by
  obtain ⟨k, hk, he⟩ := h
  rw [← he]
  cases k with
  | zero => rfl
  | succ k => rw [invL, if_neg hl]
theorem inv_res {a n lm low hm high r : Int} (h : InvK a n lm low hm high) (hl : ¬ 1 < low) (e : Eqn r (lm.fmod n)) (ha : a ≠ 0) : Eqn r (invF a n) := by
  have := inv_end h hl
  unfold Eqn at *
  rw [e, invF, if_neg ha, this]
theorem inv_zero {a n : Int} (ha : a = 0) : Eqn 0 (invF a n) := by
  unfold Eqn
  rw [invF, if_pos ha]
local macro_rules | `(tactic| walk_at "binaryOp Mod int int") => `(tactic| (k_here; (refine m_mod (by first | decide | omega) ?_); intro r' e' lo' hi'))
local macro_rules | `(tactic| walk_at "binaryOp FloorDiv int int") => `(tactic| (k_here; (refine m_fdiv (by omega) (by omega) (by omega) ?_); intro r' e' lo' hi'))
local macro_rules | `(tactic| walk_at "binaryOp Mult int int") => `(tactic| (k_here; (first | refine m_mulL (by omega) (by omega) ?_ | refine m_mulR (by omega) (by omega) ?_); intro r' e'))
local macro_rules | `(tactic| walk_at "binaryOp Pow int int") => `(tactic| (k_here; (refine m_pow (by decide) (by decide) (by omega) (by omega) ?_); intro r' e'))
inductive InvRel : List Value → Int × Int → Prop
  | mk {a n : Int} {t u : Tok} : InvRel [.int a t, .int n u] (a, n)
def IntOut (r : Value) (n v : Int) : Prop := ∃ x t, r = .int x t ∧ Eqn x v ∧ 0 ≤ x ∧ x < n
abbrev invT : ToldN (Int × Int) where
  Rel := fun _ => InvRel
  Ok := fun d => 0 < d.2 ∧ d.2 < 32
  size := fun _ => 1
  Tl := fun _ => True
  Out := fun _ r d => IntOut r d.2 (invF d.1 d.2)
theorem inv (w : World) (mean : ExcName → Option Value) (mg mb : Str → Option Value) (d : Int × Int) : TellsN PySem.Challenge.rw_bw0037_01.row.prog w (Mine.hd.heap_39 w.params) Mine.hd.view_39 (looseW Mine.hd.view_39 []) mean mg mb 35 invT d := by
  have : (Mine.hd.heap_39 = Mine.hd.heap_39 ∧ PySem.Challenge.rw_bw0037_01.prog = PySem.Challenge.rw_bw0037_01.prog) → True := by k_fill; intro _; trivial
  clear this
  unfold TellsN
  intro dp un gd cn cs a ccd cl outer A₀ base h₀ L m news s vs Q E B F X N T hk hR hok hd hu hret
  obtain ⟨⟩ := hR
  obtain ⟨n0, n1⟩ := hok
  dsimp only at n0 n1
  refine wpAny_call ?_
  k_dflt ktr_enter
  k_with "exec While Compare cons nil" => k_while_given ["a", "n"] (fun a n script lm low hm high => 0 ≤ low ∧ low < 64 ∧ 0 ≤ high ∧ high < 64 ∧ InvK a n lm low hm high) (fun a n script lm low hm high => low.toNat) "lm" "low" "hm" "high"
  k_with "state" => first | exact inv_turn ⟨by assumption, by assumption, by assumption, by assumption, by assumption⟩ (by assumption) (by assumption) (by assumption) (by assumption) | exact inv_start (by assumption) (by assumption) (by assumption) (by assumption)
  k_with "measure" => exact inv_meas (by assumption) (by assumption) (by assumption)
  k_steps
  all_goals (
    refine' hret _ [] _ _ ?e1 ?e2 ?e3 True.intro ?e5
    (case e1 => k_asm)
    (case e2 => (refine' ktn_tl0 (cb_drop ?n9 ?m9); (case n9 => assumption); (case m9 => kcj_all)))
    (case e3 => exact ktn_ord0)
    (case e5 => first
      | exact ⟨_, _, rfl, inv_res (by assumption) (by assumption) (by assumption) (by assumption), by (try dsimp only); omega, by (try dsimp only); omega⟩
      | exact ⟨_, _, rfl, inv_zero (by assumption), by (try dsimp only); omega, by (try dsimp only); omega⟩))
end Mine
namespace Mine
local macro_rules | `(tactic| walk_at "binaryOp Mod int int") => `(tactic| (k_here; (refine m_mod (by first | decide | omega) ?_); intro r' e' lo' hi'))
local macro_rules | `(tactic| walk_at "binaryOp FloorDiv int int") => `(tactic| (k_here; (refine m_fdiv (by omega) (by omega) (by omega) ?_); intro r' e' lo' hi'))
local macro_rules | `(tactic| walk_at "binaryOp Mult int int") => `(tactic| (k_here; (first | refine m_mulL (by omega) (by omega) ?_ | refine m_mulR (by omega) (by omega) ?_); intro r' e'))
local macro_rules | `(tactic| walk_at "binaryOp Pow int int") => `(tactic| (k_here; (refine m_pow (by decide) (by decide) (by omega) (by omega) ?_); intro r' e'))
local macro_rules | `(tactic| walk_at "call ref") => `(tactic| (k_here; k_dflt (
   (refine' tellsN_use (c := invT) ?k1 ?k2 ?k3 ?k4 ?k5 ?kK ?kR (inv _ _ _ _ _) ?ko ?kd ?ku ?_)
   (case k1 => k_asm)
   (case k2 => k_asm)
   (case k3 => k_asm)
   (case k4 => k_asm)
   (case k5 => k_asm)
   (case kK => first | exact rfl | assumption)
   (case kR => exact .mk)
   (case ko => exact ⟨by assumption, by assumption⟩)
   (case kd => ktr_room)
   (case ku => ktr_units)
   intro r9 tl9 h9 tk9 F9 N9 hl9 ht9 ho9
   obtain ⟨x9, t9, v9, e9, lo9, hi9⟩ := ho9
   subst v9
   (try dsimp only at e9 hi9)
   (try dsimp only)
   (try k_fold))))
abbrev fromT : ToldN D3 where
  Rel := DblRel
  Ok := fun d => Good d.cv ∧ B3 d.x d.y d.z
  size := fun _ => 2
  Tl := One
  Out := fun news r d => FrOut news r (fromF d.cv.P (d.x, d.y, d.z))
theorem fromJ (w : World) (mean : ExcName → Option Value) (mg mb : Str → Option Value) (d : D3) : TellsN PySem.Challenge.rw_bw0037_01.row.prog w (Mine.hd.heap_39 w.params) Mine.hd.view_39 (looseW Mine.hd.view_39 []) mean mg mb 63 fromT d := by
  have : (Mine.hd.heap_39 = Mine.hd.heap_39 ∧ PySem.Challenge.rw_bw0037_01.prog = PySem.Challenge.rw_bw0037_01.prog) → True := by k_fill; intro _; trivial
  clear this
  unfold TellsN
  intro dp un gd cn cs a ccd cl outer A₀ base h₀ L m news s vs Q E B F X N T hk hR hok hd hu hret
  obtain ⟨hp, hc⟩ := hR
  obtain ⟨hpm⟩ := hp
  obtain ⟨hcm⟩ := hc
  obtain ⟨hG, ⟨x0, x1, y0, y1, z0, z1⟩⟩ := hok
  obtain ⟨p0, p1, n0, n1, a0, a1⟩ := id hG
  dsimp only at hG p0 p1 n0 n1 a0 a1 x0 x1 y0 y1 z0 z1
  refine wpAny_call ?_
  k_dflt ktr_enter
  k_steps
  all_goals (
    refine' hret _ _ _ _ ?e1 ?e2 ?e3 ?e4 ?e5
    (case e1 => k_asm)
    (case e2 => (rename News _ _ _ _ => n9; first | exact news_tip n9 | exact news_top n9 | exact news_top (news_top n9) | exact news_top (news_top (news_top n9))))
    (case e4 => exact ⟨_, rfl⟩)
    (case e3 => first | exact ktn_ord1 (by ktn_lt) | exact ord_weak (ktn_ord1 (by ktn_lt)) | exact ord_weak (by assumption) | exact ord_weak (ord_weak (by assumption)) | exact ord_weak (ord_weak (ord_weak (by assumption))))
    (case e5 => (refine' FrOut.mk ?g1 ?g2 ?g3 ?g4 ?g5; (case g2 => assumption); (case g3 => first | assumption | omega); (case g4 => assumption); (case g5 => first | assumption | omega); (case g1 => unfold Eqn at *; subst_vars; simp only [fromF]))))
end Mine
namespace Mine
local macro_rules | `(tactic| walk_at "binaryOp Mod int int") => `(tactic| (k_here; (refine m_mod (by first | decide | omega) ?_); intro r' e' lo' hi'))
local macro_rules | `(tactic| walk_at "binaryOp FloorDiv int int") => `(tactic| (k_here; (refine m_fdiv (by omega) (by omega) (by omega) ?_); intro r' e' lo' hi'))
local macro_rules | `(tactic| walk_at "binaryOp Mult int int") => `(tactic| (k_here; (first | refine m_mulL (by omega) (by omega) ?_ | refine m_mulR (by omega) (by omega) ?_); intro r' e'))
local macro_rules | `(tactic| walk_at "binaryOp Pow int int") => `(tactic| (k_here; (refine m_pow (by decide) (by decide) (by omega) (by omega) ?_); intro r' e'))
local macro_rules | `(tactic| walk_at "call ref") => `(tactic| (k_here; k_dflt (
   (refine' tellsN_use (c := dblT) ?k1 ?k2 ?k3 ?k4 ?k5 ?kK ?kR (dbl _ _ _ _ _) ?ko ?kd ?ku ?_)
   (case k1 => k_asm)
   (case k2 => k_asm)
   (case k3 => k_asm)
   (case k4 => k_asm)
   (case k5 => k_asm)
   (case kK => first | exact rfl | assumption)
   (case kR => (refine' DblRel.mk (PtIn.mk ?m0) (CvIn.mk ?m1); (case m0 => k_mem); (case m1 => k_mem)))
   (case ko => exact ⟨by assumption, by constructor <;> first | assumption | decide⟩)
   (case kd => ktr_room)
   (case ku => ktr_units)
   intro r9 tl9 h9 tk9 F9 N9 hl9 ht9 ho9
   obtain ⟨x9, y9, z9, e9, b9, ⟨p9⟩⟩ := ho9
   obtain ⟨bx0, bx1, by0, by1, bz0, bz1⟩ := b9
   (try dsimp only at e9)
   (try dsimp only)
   (try k_fold))))
local macro_rules | `(tactic| walk_at "call ref") => `(tactic| (k_here; k_dflt (
   (refine' tellsN_use (c := addT) ?k1 ?k2 ?k3 ?k4 ?k5 ?kK ?kR (addJ _ _ _ _ _) ?ko ?kd ?ku ?_)
   (case k1 => k_asm)
   (case k2 => k_asm)
   (case k3 => k_asm)
   (case k4 => k_asm)
   (case k5 => k_asm)
   (case kK => first | exact rfl | assumption)
   (case kR => (refine' AddRel.mk (PtIn.mk ?m0) (PtIn.mk ?m1) (CvIn.mk ?m2); (case m0 => k_mem); (case m1 => k_mem); (case m2 => k_mem)))
   (case ko => exact ⟨by assumption, by constructor <;> first | assumption | decide, by constructor <;> first | assumption | decide⟩)
   (case kd => ktr_room)
   (case ku => ktr_units)
   intro r9 tl9 h9 tk9 F9 N9 hl9 ht9 ho9
   obtain ⟨x9, y9, z9, e9, b9, ⟨p9⟩⟩ := ho9
   obtain ⟨bx0, bx1, by0, by1, bz0, bz1⟩ := b9
   (try dsimp only at e9)
   (try dsimp only)
   (try k_fold))))

theorem m_fdiv2 {prog : Program} {w : World} {A : Around} {E : Value → Shared → Prop} {s : Shared} {a : Int} {t u : Tok} {Q : Value → Shared → Prop} (ha : 2 ≤ a)
    (h : ∀ r, Eqn r (a.fdiv 2) → 0 ≤ r → r < a → Q (.int r s.toks) { s with toks := s.toks + 1 }) : wpAny (model prog w) A (binaryOp .FloorDiv (.int a t) (.int 2 u)) Q E s := by
  have e := Int.fdiv_eq_ediv_of_nonneg a (b := 2) (by omega)
  refine floordiv_int (by omega) (h _ rfl ?_ ?_) (Or.inl (PyProof.noPylong_small (by omega)))
  · rw [e]; omega
  · rw [e]; omega
local macro_rules | `(tactic| walk_at "binaryOp FloorDiv int int") => `(tactic| (k_here; (refine m_fdiv2 (by omega) ?_); intro r' e' lo' hi'))
structure JD where
  cv : Cv
  (x y z n : Int)
inductive JRel (news : List (Addr × Obj)) : List Value → JD → Prop
  | mk {p c : Value} {cv : Cv} {x y z n : Int} {t : Tok} : PtIn news p x y z → CvIn news c cv → JRel news [p, .int n t, c] ⟨cv, x, y, z, n⟩
abbrev jmulT : ToldN JD where
  Rel := JRel
  Ok := fun d => Good d.cv ∧ B3 d.x d.y d.z ∧ 0 ≤ d.n ∧ d.n < d.cv.N
  size := fun d => d.n.toNat + 3
  Tl := fun _ => True
  Out := fun news r d => PtOut news r (jmulF d.cv.P d.cv.A (d.x, d.y, d.z) (d.n.toNat + 1) d.n)
local macro_rules | `(tactic| walk_at "call ref") => `(tactic| (k_here; k_dflt (
   (rename ∀ d' : JD, jmulT.size d' < _ → TellsN _ _ _ _ _ _ _ _ _ _ d' => ih9)
   (refine' tellsN_use (c := jmulT) ?k1 ?k2 ?k3 ?k4 ?k5 ?kK ?kR (ih9 _ ?klt) ?ko ?kd ?ku ?_)
   (case k1 => k_asm)
   (case k2 => k_asm)
   (case k3 => k_asm)
   (case k4 => k_asm)
   (case k5 => k_asm)
   (case kK => first | exact rfl | assumption)
   (case kR => (refine' JRel.mk (PtIn.mk ?m0) (CvIn.mk ?m1); (case m0 => k_mem); (case m1 => k_mem)))
   (case klt => (dsimp only; omega))
   (case ko => exact ⟨by assumption, by constructor <;> assumption, by assumption, by (dsimp only; omega)⟩)
   (case kd => (dsimp only; ktr_room))
   (case ku => (dsimp only; ktr_units))
   intro r9 tl9 h9 tk9 F9 N9 hl9 ht9 ho9
   obtain ⟨x9, y9, z9, e9, b9, ⟨p9⟩⟩ := ho9
   obtain ⟨bx0, bx1, by0, by1, bz0, bz1⟩ := b9
   (try dsimp only at e9)
   (try dsimp only)
   (try k_fold))))
theorem jmul (w : World) (mean : ExcName → Option Value) (mg mb : Str → Option Value) (d : JD) : TellsN PySem.Challenge.rw_bw0037_01.row.prog w (Mine.hd.heap_39 w.params) Mine.hd.view_39 (looseW Mine.hd.view_39 []) mean mg mb 70 jmulT d := by
  have : (Mine.hd.heap_39 = Mine.hd.heap_39 ∧ PySem.Challenge.rw_bw0037_01.prog = PySem.Challenge.rw_bw0037_01.prog) → True := by k_fill; intro _; trivial
  clear this
  revert d
  refine tellsN_of fun d IH => ?_
  unfold TellsN
  intro dp un gd cn cs a ccd cl outer A₀ base h₀ L m news s vs Q E B F X N T hk hR hok hd hu hret
  obtain ⟨hp, hc⟩ := hR
  obtain ⟨hpm⟩ := hp
  obtain ⟨hcm⟩ := hc
  obtain ⟨hG, ⟨x0, x1, y0, y1, z0, z1⟩, m0, m1⟩ := hok
  obtain ⟨p0, p1, n0, n1, a0, a1⟩ := id hG
  dsimp only at hG p0 p1 n0 n1 a0 a1 x0 x1 y0 y1 z0 z1 m0 m1 hd hu
  refine wpAny_call ?_
  k_dflt ktr_enter
  k_steps
  all_goals first
    | (exfalso; unfold Eqn at *; omega)
    | (refine' hret _ _ _ _ ?e1 ?e2 ?e3 True.intro ?e5
       (case e1 => k_asm)
       (case e2 => (rename News _ _ _ _ => n9; (try simp only [List.append_assoc] at n9); first | exact n9 | exact ktn_tl1 n9 | exact ktn_tl2 n9 | exact ktn_tl0 n9))
       (case e3 => repeat' (first | assumption | exact ktn_ord0 | exact ktn_ord1 (by ktn_lt) | exact ord_weak (by assumption) | exact ord_weak (ord_weak (by assumption)) | exact ord_weak (ord_weak (ord_weak (by assumption))) | refine ktn_ord2 (by ktn_lt) ?_ | refine ord_app ?_ ?_))
       (case e5 =>
         refine' ⟨_, _, _, ?g1, ?g2, .mk (by first | exact ktn_new | k_mem | ((try simp only [← List.append_assoc]); k_mem))⟩
         (case g2 => constructor <;> omega)
         (case g1 => dsimp only; first | exact jmE (by assumption) (by assumption) (by assumption) (by assumption) (by assumption) (by assumption) (by assumption) (by assumption) (by assumption) | exact jmO (by assumption) (by assumption) (by assumption) (by assumption) (by assumption) (by omega) (by assumption) (by assumption) (by assumption) (by assumption) | exact jm1 (by assumption) (by assumption) | exact jm0 (by omega))))
end Mine
namespace Mine
inductive ToRel (news : List (Addr × Obj)) : List Value → Int × Int → Prop
  | mk {p : Value} {x y : Int} : XyIn news p x y → ToRel news [p] (x, y)
abbrev toT : ToldN (Int × Int) where
  Rel := ToRel
  Ok := fun d => 0 ≤ d.1 ∧ d.1 < 32 ∧ 0 ≤ d.2 ∧ d.2 < 32
  size := fun _ => 1
  Tl := fun _ => True
  Out := fun news r d => PtOut news r (d.1, d.2, 1)
theorem toJ (w : World) (mean : ExcName → Option Value) (mg mb : Str → Option Value) (d : Int × Int) : TellsN PySem.Challenge.rw_bw0037_01.row.prog w (Mine.hd.heap_39 w.params) Mine.hd.view_39 (looseW Mine.hd.view_39 []) mean mg mb 42 toT d := by
  have : (Mine.hd.heap_39 = Mine.hd.heap_39 ∧ PySem.Challenge.rw_bw0037_01.prog = PySem.Challenge.rw_bw0037_01.prog) → True := by k_fill; intro _; trivial
  clear this
  unfold TellsN
  intro dp un gd cn cs a ccd cl outer A₀ base h₀ L m news s vs Q E B F X N T hk hR hok hd hu hret
  obtain ⟨hp⟩ := hR
  obtain ⟨hpm⟩ := hp
  obtain ⟨x0, x1, y0, y1⟩ := hok
  dsimp only at x0 x1 y0 y1 hd hu
  refine wpAny_call ?_
  k_dflt ktr_enter
  k_steps
  all_goals (
    refine' hret _ _ _ _ ?e1 ?e2 ?e3 True.intro ?e5
    (case e1 => k_asm)
    (case e2 => exact ktn_tl1 (by k_asm))
    (case e3 => ktn_ord)
    (case e5 =>
      refine' ⟨_, _, _, ?g1, ?g2, .mk (by exact ktn_new)⟩
      (case g2 => constructor <;> omega)
      (case g1 => rfl)))
local macro_rules | `(tactic| walk_at "call ref") => `(tactic| (k_here; k_dflt (
   (refine' tellsN_use (c := toT) ?k1 ?k2 ?k3 ?k4 ?k5 ?kK ?kR (toJ _ _ _ _ _) ?ko ?kd ?ku ?_)
   (case k1 => k_asm)
   (case k2 => k_asm)
   (case k3 => k_asm)
   (case k4 => k_asm)
   (case k5 => k_asm)
   (case kK => first | exact rfl | assumption)
   (case kR => (refine' ToRel.mk (XyIn.mk ?m0); (case m0 => k_mem)))
   (case ko => exact ⟨by assumption, by assumption, by assumption, by assumption⟩)
   (case kd => ktr_room)
   (case ku => ktr_units)
   intro r9 tl9 h9 tk9 F9 N9 hl9 ht9 ho9
   obtain ⟨x9, y9, z9, e9, b9, ⟨p9⟩⟩ := ho9
   obtain ⟨bx0, bx1, by0, by1, bz0, bz1⟩ := b9
   (try dsimp only at e9)
   cases e9
   (try dsimp only)
   (try k_fold))))
local macro_rules | `(tactic| walk_at "binaryOp Mod int int") => `(tactic| (k_here; (refine m_mod (by first | decide | omega) ?_); intro r' e' lo' hi'))
local macro_rules | `(tactic| walk_at "binaryOp FloorDiv int int") => `(tactic| (k_here; (refine m_fdiv (by omega) (by omega) (by omega) ?_); intro r' e' lo' hi'))
local macro_rules | `(tactic| walk_at "binaryOp Mult int int") => `(tactic| (k_here; (first | refine m_mulL (by omega) (by omega) ?_ | refine m_mulR (by omega) (by omega) ?_); intro r' e'))
local macro_rules | `(tactic| walk_at "binaryOp Pow int int") => `(tactic| (k_here; (refine m_pow (by decide) (by decide) (by omega) (by omega) ?_); intro r' e'))
local macro_rules | `(tactic| walk_at "call ref") => `(tactic| (k_here; k_dflt (
   (refine' tellsN_use (c := jmulT) ?k1 ?k2 ?k3 ?k4 ?k5 ?kK ?kR (jmul _ _ _ _ _) ?ko ?kd ?ku ?_)
   (case k1 => k_asm)
   (case k2 => k_asm)
   (case k3 => k_asm)
   (case k4 => k_asm)
   (case k5 => k_asm)
   (case kK => first | exact rfl | assumption)
   (case kR => (refine' JRel.mk (PtIn.mk ?m0) (CvIn.mk ?m1); (case m0 => k_mem); (case m1 => k_mem)))
   (case ko => exact ⟨by assumption, by constructor <;> first | assumption | decide, by assumption, by (try dsimp only); assumption⟩)
   (case kd => ktr_room)
   (case ku => ktr_units)
   intro r9 tl9 h9 tk9 F9 N9 hl9 ht9 ho9
   obtain ⟨x9, y9, z9, e9, b9, ⟨p9⟩⟩ := ho9
   obtain ⟨bx0, bx1, by0, by1, bz0, bz1⟩ := b9
   (try dsimp only at e9)
   (try dsimp only)
   (try k_fold))))
local macro_rules | `(tactic| walk_at "call ref") => `(tactic| (k_here; k_dflt (
   (refine' tellsN_use (c := fromT) ?k1 ?k2 ?k3 ?k4 ?k5 ?kK ?kR (fromJ _ _ _ _ _) ?ko ?kd ?ku ?_)
   (case k1 => k_asm)
   (case k2 => k_asm)
   (case k3 => k_asm)
   (case k4 => k_asm)
   (case k5 => k_asm)
   (case kK => first | exact rfl | assumption)
   (case kR => (refine' DblRel.mk (PtIn.mk ?m0) (CvIn.mk ?m1); (case m0 => k_mem); (case m1 => k_mem)))
   (case ko => exact ⟨by assumption, by constructor <;> first | assumption | decide⟩)
   (case kd => ktr_room)
   (case ku => ktr_units)
   intro r9 tl9 h9 tk9 F9 N9 hl9 ht9 ho9
   obtain ⟨D9, x9, y9, tx9, ty9, n9, w9, v9, e9, bx0, bx1, by0, by1⟩ := FrOut.open ht9 ho9
   subst w9
   subst v9
   (try dsimp only at e9)
   (try dsimp only)
   (try k_fold))))
local macro_rules | `(tactic| walk_at "call ref") => `(tactic| (k_here; k_dflt (
   (refine' tellsN_use (c := addT) ?k1 ?k2 ?k3 ?k4 ?k5 ?kK ?kR (addJ _ _ _ _ _) ?ko ?kd ?ku ?_)
   (case k1 => k_asm)
   (case k2 => k_asm)
   (case k3 => k_asm)
   (case k4 => k_asm)
   (case k5 => k_asm)
   (case kK => first | exact rfl | assumption)
   (case kR => (refine' AddRel.mk (PtIn.mk ?m0) (PtIn.mk ?m1) (CvIn.mk ?m2); (case m0 => k_mem); (case m1 => k_mem); (case m2 => k_mem)))
   (case ko => exact ⟨by assumption, by constructor <;> first | assumption | decide, by constructor <;> first | assumption | decide⟩)
   (case kd => ktr_room)
   (case ku => ktr_units)
   intro r9 tl9 h9 tk9 F9 N9 hl9 ht9 ho9
   obtain ⟨x9, y9, z9, e9, b9, ⟨p9⟩⟩ := ho9
   obtain ⟨bx0, bx1, by0, by1, bz0, bz1⟩ := b9
   (try dsimp only at e9)
   (try dsimp only)
   (try k_fold))))
theorem mul_end {P A x y n : Int} {t : I3} {u : Int × Int} (e : jmulF P A (x, y, 1) (n.toNat + 1) n = t) (f : fromF P t = u) : mulF P A x y n = u := by rw [mulF, e, f]
theorem plus_end {P A x y x' y' : Int} {t : I3} {u : Int × Int} (e : addF P A (x, y, 1) (x', y', 1) = t) (f : fromF P t = u) : plusF P A x y x' y' = u := by rw [plusF, e, f]
structure MD where
  cv : Cv
  (x y n : Int)
inductive MRel (news : List (Addr × Obj)) : List Value → MD → Prop
  | mk {p c : Value} {cv : Cv} {x y n : Int} {t : Tok} : XyIn news p x y → CvIn news c cv → MRel news [p, .int n t, c] ⟨cv, x, y, n⟩
abbrev mulT : ToldN MD where
  Rel := MRel
  Ok := fun d => Good d.cv ∧ 0 ≤ d.x ∧ d.x < 32 ∧ 0 ≤ d.y ∧ d.y < 32 ∧ 0 ≤ d.n ∧ d.n < d.cv.N
  size := fun d => d.n.toNat + 8
  Tl := One
  Out := fun news r d => FrOut news r (mulF d.cv.P d.cv.A d.x d.y d.n)
theorem mulP (w : World) (mean : ExcName → Option Value) (mg mb : Str → Option Value) (d : MD) : TellsN PySem.Challenge.rw_bw0037_01.row.prog w (Mine.hd.heap_39 w.params) Mine.hd.view_39 (looseW Mine.hd.view_39 []) mean mg mb 77 mulT d := by
  have : (Mine.hd.heap_39 = Mine.hd.heap_39 ∧ PySem.Challenge.rw_bw0037_01.prog = PySem.Challenge.rw_bw0037_01.prog) → True := by k_fill; intro _; trivial
  clear this
  unfold TellsN
  intro dp un gd cn cs a ccd cl outer A₀ base h₀ L m news s vs Q E B F X N T hk hR hok hd hu hret
  obtain ⟨hp, hc⟩ := hR
  obtain ⟨hpm⟩ := hp
  obtain ⟨hcm⟩ := hc
  obtain ⟨hG, x0, x1, y0, y1, m0, m1⟩ := hok
  obtain ⟨p0, p1, n0, n1, a0, a1⟩ := id hG
  dsimp only at hG p0 p1 n0 n1 a0 a1 x0 x1 y0 y1 m0 m1 hd hu
  refine wpAny_call ?_
  k_dflt ktr_enter
  k_steps
  all_goals (
    refine' hret _ _ _ _ ?e1 ?e2 ?e3 ?e4 ?e5
    (case e1 => k_asm)
    (case e2 => (rename News _ _ _ _ => n9; first | exact news_tip n9 | exact news_top n9 | exact news_top (news_top n9) | exact news_top (news_top (news_top n9))))
    (case e4 => exact ⟨_, rfl⟩)
    (case e3 => first | exact ktn_ord1 (by ktn_lt) | exact ord_weak (ktn_ord1 (by ktn_lt)) | exact ord_weak (by assumption) | exact ord_weak (ord_weak (by assumption)) | exact ord_weak (ord_weak (ord_weak (by assumption))))
    (case e5 => (refine' FrOut.mk ?g1 ?g2 ?g3 ?g4 ?g5; (case g2 => assumption); (case g3 => first | assumption | omega); (case g4 => assumption); (case g5 => first | assumption | omega); (case g1 => exact mul_end (by assumption) (by assumption)))))
structure PD where
  cv : Cv
  (x y x' y' : Int)
inductive PRel (news : List (Addr × Obj)) : List Value → PD → Prop
  | mk {p q c : Value} {cv : Cv} {x y x' y' : Int} : XyIn news p x y → XyIn news q x' y' → CvIn news c cv → PRel news [p, q, c] ⟨cv, x, y, x', y'⟩
abbrev plusT : ToldN PD where
  Rel := PRel
  Ok := fun d => Good d.cv ∧ 0 ≤ d.x ∧ d.x < 32 ∧ 0 ≤ d.y ∧ d.y < 32 ∧ 0 ≤ d.x' ∧ d.x' < 32 ∧ 0 ≤ d.y' ∧ d.y' < 32
  size := fun _ => 8
  Tl := One
  Out := fun news r d => FrOut news r (plusF d.cv.P d.cv.A d.x d.y d.x' d.y')
theorem plusP (w : World) (mean : ExcName → Option Value) (mg mb : Str → Option Value) (d : PD) : TellsN PySem.Challenge.rw_bw0037_01.row.prog w (Mine.hd.heap_39 w.params) Mine.hd.view_39 (looseW Mine.hd.view_39 []) mean mg mb 84 plusT d := by
  have : (Mine.hd.heap_39 = Mine.hd.heap_39 ∧ PySem.Challenge.rw_bw0037_01.prog = PySem.Challenge.rw_bw0037_01.prog) → True := by k_fill; intro _; trivial
  clear this
  unfold TellsN
  intro dp un gd cn cs a ccd cl outer A₀ base h₀ L m news s vs Q E B F X N T hk hR hok hd hu hret
  obtain ⟨hp, hq, hc⟩ := hR
  obtain ⟨hpm⟩ := hp
  obtain ⟨hqm⟩ := hq
  obtain ⟨hcm⟩ := hc
  obtain ⟨hG, x0, x1, y0, y1, x0', x1', y0', y1'⟩ := hok
  obtain ⟨p0, p1, n0, n1, a0, a1⟩ := id hG
  dsimp only at hG p0 p1 n0 n1 a0 a1 x0 x1 y0 y1 x0' x1' y0' y1' hd hu
  refine wpAny_call ?_
  k_dflt ktr_enter
  k_steps
  all_goals (
    refine' hret _ _ _ _ ?e1 ?e2 ?e3 ?e4 ?e5
    (case e1 => k_asm)
    (case e2 => (rename News _ _ _ _ => n9; first | exact news_tip n9 | exact news_top n9 | exact news_top (news_top n9) | exact news_top (news_top (news_top n9))))
    (case e4 => exact ⟨_, rfl⟩)
    (case e3 => first | exact ktn_ord1 (by ktn_lt) | exact ord_weak (ktn_ord1 (by ktn_lt)) | exact ord_weak (by assumption) | exact ord_weak (ord_weak (by assumption)) | exact ord_weak (ord_weak (ord_weak (by assumption))))
    (case e5 => (refine' FrOut.mk ?g1 ?g2 ?g3 ?g4 ?g5; (case g2 => assumption); (case g3 => first | assumption | omega); (case g4 => assumption); (case g5 => first | assumption | omega); (case g1 => exact plus_end (by assumption) (by assumption)))))
end Mine
namespace Mine
local macro_rules | `(tactic| walk_at "binaryOp Mod int int") => `(tactic| (k_here; (refine m_mod (by first | decide | omega) ?_); intro r' e' lo' hi'))
local macro_rules | `(tactic| walk_at "binaryOp FloorDiv int int") => `(tactic| (k_here; (refine m_fdiv (by omega) (by omega) (by omega) ?_); intro r' e' lo' hi'))
local macro_rules | `(tactic| walk_at "binaryOp Mult int int") => `(tactic| (k_here; (first | refine m_mulL (by omega) (by omega) ?_ | refine m_mulR (by omega) (by omega) ?_); intro r' e'))
local macro_rules | `(tactic| walk_at "binaryOp Pow int int") => `(tactic| (k_here; (refine m_pow (by decide) (by decide) (by omega) (by omega) ?_); intro r' e'))
local macro_rules | `(tactic| walk_at "call ref") => `(tactic| (k_here; k_dflt (
   (refine' tellsN_use (c := mulT) ?k1 ?k2 ?k3 ?k4 ?k5 ?kK ?kR (mulP _ _ _ _ _) ?ko ?kd ?ku ?_)
   (case k1 => k_asm)
   (case k2 => k_asm)
   (case k3 => k_asm)
   (case k4 => k_asm)
   (case k5 => k_asm)
   (case kK => first | exact rfl | assumption)
   (case kR => (refine' MRel.mk (XyIn.mk ?m0) (CvIn.mk ?m1); (case m0 => k_mem); (case m1 => k_mem)))
   (case ko => exact ⟨by assumption, by assumption, by assumption, by assumption, by assumption, by assumption, by (try dsimp only); first | assumption | omega⟩)
   (case kd => ktr_room)
   (case ku => ktr_units)
   intro r9 tl9 h9 tk9 F9 N9 hl9 ht9 ho9
   obtain ⟨D9, x9, y9, tx9, ty9, n9, w9, v9, e9, bx0, bx1, by0, by1⟩ := FrOut.open ht9 ho9
   subst w9
   subst v9
   (try dsimp only at e9)
   (try dsimp only)
   (try k_fold))))
theorem byte_ints {v : Int} (h0 : 0 ≤ v) (h1 : v < 256) : KBw.bInts #[v.toNat.toUInt8] = [v] := by
  have e : v.toNat.toUInt8.toNat = v.toNat := by
    rw [Nat.toUInt8_eq, UInt8.toNat_ofNat']
    exact Nat.mod_eq_of_lt (by omega)
  simp only [KBw.bInts, List.map_cons, List.map_nil, e]
  rw [Int.toNat_of_nonneg h0]
local macro_rules | `(tactic| walk_at "pyIter bytes") => `(tactic| (k_here; (with_reducible show wpAny _ _ (pyIter (Value.bytes _ _)) (fun it s₂ => LoopAtV _ _ _ _ _ _ _ _ _ it s₂) _ _); ((rename Fr _ _ _ _ => lF'); (rename News _ _ _ _ => lN'); (with_unfolding_all refine iter_bytesUnr (by rfl) lF' lN' (byte_ints (by assumption) (by assumption)) ?_); clear lF' lN'; intro i' l1; (try k_lt l1))))
inductive SoRel : List Value → Int → Prop
  | mk {v : Int} {t : Tok} : SoRel [.int v t] v
abbrev soT : ToldN Int where
  Rel := fun _ => SoRel
  Ok := fun _ => True
  size := fun _ => 1
  Tl := fun tl => tl = []
  Out := fun _ r d => ∃ t, r = .int d t
theorem soI (w : World) (mean : ExcName → Option Value) (mg mb : Str → Option Value) (d : Int) : TellsN PySem.Challenge.rw_bw0037_01.row.prog w (Mine.hd.heap_39 w.params) Mine.hd.view_39 (looseW Mine.hd.view_39 []) mean mg mb 21 soT d := by
  have : (Mine.hd.heap_39 = Mine.hd.heap_39 ∧ PySem.Challenge.rw_bw0037_01.prog = PySem.Challenge.rw_bw0037_01.prog) → True := by k_fill; intro _; trivial
  clear this
  unfold TellsN
  intro dp un gd cn cs a ccd cl outer A₀ base h₀ L m news s vs Q E B F X N T hk hR hok hd hu hret
  obtain ⟨⟩ := hR
  refine wpAny_call ?_
  k_dflt ktr_enter
  k_steps
  all_goals (
    refine' hret _ [] _ _ ?e1 ?e2 ?e3 rfl ?e5
    (case e1 => k_asm)
    (case e2 => (refine' ktn_tl0 (cb_drop ?n9 ?m9); (case n9 => assumption); (case m9 => kcj_all)))
    (case e3 => exact ktn_ord0)
    (case e5 => exact ⟨_, rfl⟩))
local macro_rules | `(tactic| walk_at "call ref") => `(tactic| (k_here; k_dflt (
   (refine' tellsN_use (c := soT) ?k1 ?k2 ?k3 ?k4 ?k5 ?kK ?kR (soI _ _ _ _ _) ?ko ?kd ?ku ?_)
   (case k1 => k_asm)
   (case k2 => k_asm)
   (case k3 => k_asm)
   (case k4 => k_asm)
   (case k5 => k_asm)
   (case kK => first | exact rfl | assumption)
   (case kR => exact .mk)
   (case ko => exact True.intro)
   (case kd => ktr_room)
   (case ku => ktr_units)
   intro r9 tl9 h9 tk9 F9 N9 hl9 ht9 ho9
   obtain ⟨t9, v9⟩ := ho9
   subst v9
   subst ht9
   (try simp only [List.append_nil] at N9)
   (try dsimp only)
   (try k_fold))))
theorem unr_one {h₀ h' : Heap} {L I : Addr} {m' : Str → Option Value} {s₁ : Shared} {it : Obj} {rest : (Str → Option Value) → List (Addr × Obj) → Prop} {news : List (Addr × Obj)} {tk : Nat}
    (F : Fr h₀ L h' m') (N : News h₀ L h' ((I, it) :: news)) (l : AllLt I news) (r : rest m' news) : UnrEnd h₀ L s₁ I it rest { s₁ with heap := h', toks := tk } :=
  ⟨h', tk, m', news, rfl, F, N, fun p hp => Nat.ne_of_lt (ktn_ltOf l p hp), r⟩
local macro_rules | `(tactic| walk_at "UnrEnd") => `(tactic| (k_here; (refine' unr_one ?u1 ?u2 ?u3 ?u4); (case u1 => k_asm); (case u2 => k_asm); (case u3 => ktn_lt); k_whole))
inductive ByRel : List Value → Int → Prop
  | mk {v : Int} {t : Tok} : ByRel [.bytes #[v.toNat.toUInt8] t] v
abbrev byT : ToldN Int where
  Rel := fun _ => ByRel
  Ok := fun d => 0 ≤ d ∧ d < 256
  size := fun _ => 3
  Tl := fun tl => tl = []
  Out := fun _ r d => IntOut r 256 d
theorem byI (w : World) (mean : ExcName → Option Value) (mg mb : Str → Option Value) (d : Int) : TellsN PySem.Challenge.rw_bw0037_01.row.prog w (Mine.hd.heap_39 w.params) Mine.hd.view_39 (looseW Mine.hd.view_39 []) mean mg mb 28 byT d := by
  have : (Mine.hd.heap_39 = Mine.hd.heap_39 ∧ PySem.Challenge.rw_bw0037_01.prog = PySem.Challenge.rw_bw0037_01.prog) → True := by k_fill; intro _; trivial
  clear this
  unfold TellsN
  intro dp un gd cn cs a ccd cl outer A₀ base h₀ L m news s vs Q E B F X N T hk hR hok hd hu hret
  obtain ⟨⟩ := hR
  obtain ⟨x0, x1⟩ := hok
  refine wpAny_call ?_
  k_dflt ktr_enter
  k_steps
  all_goals (
    refine' hret _ [] _ _ ?e1 ?e2 ?e3 rfl ?e5
    (case e1 => k_asm)
    (case e2 => (refine' ktn_tl0 (cb_drop ?n9 ?m9); (case n9 => assumption); (case m9 => kcj_all)))
    (case e3 => exact ktn_ord0)
    (case e5 => exact ⟨_, _, rfl, by unfold Eqn; omega, by omega, by omega⟩))
end Mine
namespace Mine
local macro_rules | `(tactic| k_mem) => `(tactic| (first | exact List.mem_cons_of_mem _ (by assumption) | exact List.mem_cons_of_mem _ (List.mem_cons_of_mem _ (by assumption))))
local macro_rules | `(tactic| walk_at "binaryOp Mod int int") => `(tactic| (k_here; (refine m_mod (by first | decide | omega) ?_); intro r' e' lo' hi'))
local macro_rules | `(tactic| walk_at "binaryOp FloorDiv int int") => `(tactic| (k_here; (refine m_fdiv (by omega) (by omega) (by omega) ?_); intro r' e' lo' hi'))
local macro_rules | `(tactic| walk_at "binaryOp Mult int int") => `(tactic| (k_here; (first | refine m_mulL (by omega) (by omega) ?_ | refine m_mulR (by omega) (by omega) ?_); intro r' e'))
local macro_rules | `(tactic| walk_at "binaryOp Pow int int") => `(tactic| (k_here; (refine m_pow (by decide) (by decide) (by omega) (by omega) ?_); intro r' e'))
local macro_rules | `(tactic| walk_at "call ref") => `(tactic| (k_here; k_dflt (
   (refine' tellsN_use (c := mulT) ?k1 ?k2 ?k3 ?k4 ?k5 ?kK ?kR (mulP _ _ _ _ _) ?ko ?kd ?ku ?_)
   (case k1 => k_asm)
   (case k2 => k_asm)
   (case k3 => k_asm)
   (case k4 => k_asm)
   (case k5 => k_asm)
   (case kK => first | exact rfl | assumption)
   (case kR => (refine' MRel.mk (XyIn.mk ?m0) (CvIn.mk ?m1); (case m0 => k_mem); (case m1 => k_mem)))
   (case ko => exact ⟨by assumption, by assumption, by assumption, by assumption, by assumption, by assumption, by (try dsimp only); first | assumption | omega⟩)
   (case kd => ktr_room)
   (case ku => ktr_units)
   intro r9 tl9 h9 tk9 F9 N9 hl9 ht9 ho9
   obtain ⟨D9, x9, y9, tx9, ty9, n9, w9, v9, e9, bx0, bx1, by0, by1⟩ := FrOut.open ht9 ho9
   subst w9
   subst v9
   (try dsimp only at e9)
   (try dsimp only)
   (try k_fold))))
local macro_rules | `(tactic| walk_at "call ref") => `(tactic| (k_here; k_dflt (
   (refine' tellsN_use (c := byT) ?k1 ?k2 ?k3 ?k4 ?k5 ?kK ?kR (byI _ _ _ _ _) ?ko ?kd ?ku ?_)
   (case k1 => k_asm)
   (case k2 => k_asm)
   (case k3 => k_asm)
   (case k4 => k_asm)
   (case k5 => k_asm)
   (case kK => first | exact rfl | assumption)
   (case kR => exact .mk)
   (case ko => exact ⟨by assumption, by omega⟩)
   (case kd => ktr_room)
   (case ku => ktr_units)
   intro r9 tl9 h9 tk9 F9 N9 hl9 ht9 ho9
   obtain ⟨x9, t9, v9, e9, lo9, hi9⟩ := ho9
   subst v9
   (try dsimp only at e9 hi9)
   unfold Eqn at e9
   subst e9
   subst ht9
   (try simp only [List.append_nil] at N9)
   (try dsimp only)
   (try k_fold))))
theorem news_skip {h₀ h : Heap} {L : Addr} {q q₀ : Addr × Obj} {news : List (Addr × Obj)} (N : News h₀ L h (q₀ :: news ++ [q])) : News h₀ L h (news ++ [q]) := fun p hp => N p (.tail _ hp)
theorem ord_tail {q₀ : Addr × Obj} {news tl : List (Addr × Obj)} (h : ∀ q ∈ q₀ :: news, ∀ p ∈ tl, q.1 < p.1) : ∀ q ∈ news, ∀ p ∈ tl, q.1 < p.1 := fun q hq => h q (.tail _ hq)
structure VD where
  cv : Cv
  v : Int
inductive PvRel (news : List (Addr × Obj)) : List Value → VD → Prop
  | mk {c : Value} {cv : Cv} {v : Int} {t : Tok} : CvIn news c cv → PvRel news [.bytes #[v.toNat.toUInt8] t, c] ⟨cv, v⟩
abbrev privT : ToldN VD where
  Rel := PvRel
  Ok := fun d => Good d.cv ∧ 0 ≤ d.cv.G ∧ d.cv.G < 32 ∧ 0 ≤ d.cv.H ∧ d.cv.H < 32 ∧ 0 ≤ d.v ∧ d.v < d.cv.N
  size := fun d => d.v.toNat + 10
  Tl := One
  Out := fun news r d => FrOut news r (mulF d.cv.P d.cv.A d.cv.G d.cv.H d.v)
theorem privP (w : World) (mean : ExcName → Option Value) (mg mb : Str → Option Value) (d : VD) : TellsN PySem.Challenge.rw_bw0037_01.row.prog w (Mine.hd.heap_39 w.params) Mine.hd.view_39 (looseW Mine.hd.view_39 []) mean mg mb 91 privT d := by
  have : (Mine.hd.heap_39 = Mine.hd.heap_39 ∧ PySem.Challenge.rw_bw0037_01.prog = PySem.Challenge.rw_bw0037_01.prog) → True := by k_fill; intro _; trivial
  clear this
  unfold TellsN
  intro dp un gd cn cs a ccd cl outer A₀ base h₀ L m news s vs Q E B F X N T hk hR hok hd hu hret
  obtain ⟨hc⟩ := hR
  obtain ⟨hcm⟩ := hc
  obtain ⟨hG, x0, x1, y0, y1, m0, m1⟩ := hok
  obtain ⟨p0, p1, n0, n1, a0, a1⟩ := id hG
  dsimp only at hG p0 p1 n0 n1 a0 a1 x0 x1 y0 y1 m0 m1 hd hu
  refine wpAny_call ?_
  k_dflt ktr_enter
  k_steps
  all_goals (
    refine' hret _ _ _ _ ?e1 ?e2 ?e3 ?e4 ?e5
    (case e1 => k_asm)
    (case e2 => (rename News _ _ _ _ => n9; first | exact news_skip n9 | exact news_top n9 | exact news_top (news_top n9) | exact news_top (news_top (news_top n9))))
    (case e4 => exact ⟨_, rfl⟩)
    (case e3 => first | exact ord_tail (by assumption) | exact ktn_ord1 (by ktn_lt) | exact ord_weak (ktn_ord1 (by ktn_lt)) | exact ord_weak (by assumption) | exact ord_weak (ord_weak (by assumption)) | exact ord_weak (ord_weak (ord_weak (by assumption))))
    (case e5 => (refine' FrOut.mk ?g1 ?g2 ?g3 ?g4 ?g5; (case g2 => assumption); (case g3 => first | assumption | omega); (case g4 => assumption); (case g5 => first | assumption | omega); (case g1 => assumption))))
end Mine
namespace Mine
inductive Four : Cv → Prop
  | a : Four ⟨11, 13, 1, 6, 2, 4⟩
  | b : Four ⟨11, 17, 6, 5, 1, 1⟩
  | c : Four ⟨19, 13, 0, 2, 4, 16⟩
  | d : Four ⟨19, 13, 0, 3, 1, 17⟩
/-- the multiples of the base, 0 to N - 1 -/
def tab (c : Cv) : List (Int × Int) :=
  if c.P = 11 then (if c.N = 13 then [(0, 0), (2, 4), (5, 9), (8, 8), (10, 9), (3, 5), (7, 2), (7, 9), (3, 6), (10, 2), (8, 3), (5, 2), (2, 7)] else [(0, 0), (1, 1), (10, 8), (4, 4), (7, 4), (6, 2), (8, 2), (0, 7), (2, 5), (2, 6), (0, 4), (8, 9), (6, 9), (7, 7), (4, 7), (10, 3), (1, 10)])
  else (if c.B = 2 then [(0, 0), (4, 16), (18, 1), (6, 16), (9, 3), (12, 1), (8, 1), (8, 18), (12, 18), (9, 16), (6, 3), (18, 18), (4, 3)] else [(0, 0), (1, 17), (14, 7), (11, 17), (7, 2), (3, 7), (2, 7), (2, 12), (3, 12), (7, 17), (11, 2), (14, 12), (1, 2)])
def pt (c : Cv) (i : Int) : Int × Int := (tab c).getD i.toNat (0, 0)
def ckMul (c : Cv) : Bool := (List.range c.N.toNat).all fun i => (List.range c.N.toNat).all fun n => decide (mulF c.P c.A (pt c i).1 (pt c i).2 n = pt c ((i * n : Int) % c.N))
def ckPlus (c : Cv) : Bool := (List.range c.N.toNat).all fun i => (List.range c.N.toNat).all fun n => decide (plusF c.P c.A (pt c i).1 (pt c i).2 (pt c n).1 (pt c n).2 = pt c ((i + n : Int) % c.N))
def ckInj (c : Cv) : Bool := (List.range c.N.toNat).all fun i => (List.range c.N.toNat).all fun n => decide (pt c i = pt c n → i = n)
def ckOne (c : Cv) : Bool := decide (pt c 1 = (c.G, c.H))
theorem ckMul_a : ckMul ⟨11, 13, 1, 6, 2, 4⟩ = true := by decide +kernel
theorem ckMul_b : ckMul ⟨11, 17, 6, 5, 1, 1⟩ = true := by decide +kernel
theorem ckMul_c : ckMul ⟨19, 13, 0, 2, 4, 16⟩ = true := by decide +kernel
theorem ckMul_d : ckMul ⟨19, 13, 0, 3, 1, 17⟩ = true := by decide +kernel
theorem ckPlus_a : ckPlus ⟨11, 13, 1, 6, 2, 4⟩ = true := by decide +kernel
theorem ckPlus_b : ckPlus ⟨11, 17, 6, 5, 1, 1⟩ = true := by decide +kernel
theorem ckPlus_c : ckPlus ⟨19, 13, 0, 2, 4, 16⟩ = true := by decide +kernel
theorem ckPlus_d : ckPlus ⟨19, 13, 0, 3, 1, 17⟩ = true := by decide +kernel
theorem ckInj_all {c : Cv} (h : Four c) : ckInj c = true := by cases h <;> decide +kernel
theorem ckOne_all {c : Cv} (h : Four c) : ckOne c = true := by cases h <;> decide +kernel
theorem all2 {f : Nat → Nat → Bool} {m : Nat} (h : ((List.range m).all fun i => (List.range m).all fun n => f i n) = true) {i n : Nat} (hi : i < m) (hn : n < m) : f i n = true :=
  List.all_eq_true.mp (List.all_eq_true.mp h i (List.mem_range.mpr hi)) n (List.mem_range.mpr hn)
theorem int_nat {i : Int} (h : 0 ≤ i) : ((i.toNat : Nat) : Int) = i := Int.toNat_of_nonneg h
theorem pt_mul {c : Cv} {i n x y : Int} {t : Int × Int} (hF : Four c) (e : pt c i = (x, y)) (h0 : 0 ≤ i) (h1 : i < c.N) (h2 : 0 ≤ n) (h3 : n < c.N) (h : mulF c.P c.A x y n = t) : pt c (i * n % c.N) = t := by
  have k : ckMul c = true := by cases hF; exact ckMul_a; exact ckMul_b; exact ckMul_c; exact ckMul_d
  have := of_decide_eq_true (all2 k (i := i.toNat) (n := n.toNat) (by omega) (by omega))
  rw [int_nat h0, int_nat h2, e] at this
  rw [← this, h]
theorem pt_plus {c : Cv} {i n x y x' y' : Int} {t : Int × Int} (hF : Four c) (e : pt c i = (x, y)) (e' : pt c n = (x', y')) (h0 : 0 ≤ i) (h1 : i < c.N) (h2 : 0 ≤ n) (h3 : n < c.N) (h : plusF c.P c.A x y x' y' = t) : pt c ((i + n) % c.N) = t := by
  have k : ckPlus c = true := by cases hF; exact ckPlus_a; exact ckPlus_b; exact ckPlus_c; exact ckPlus_d
  have := of_decide_eq_true (all2 k (i := i.toNat) (n := n.toNat) (by omega) (by omega))
  rw [int_nat h0, int_nat h2, e, e'] at this
  rw [← this, h]
theorem pt_inj {c : Cv} {i n : Int} (hF : Four c) (h0 : 0 ≤ i) (h1 : i < c.N) (h2 : 0 ≤ n) (h3 : n < c.N) (h : pt c i = pt c n) : i = n := by
  have := of_decide_eq_true (all2 (ckInj_all hF) (i := i.toNat) (n := n.toNat) (by omega) (by omega))
  rw [int_nat h0, int_nat h2] at this
  have := this h
  omega
theorem pt_one {c : Cv} (hF : Four c) : pt c 1 = (c.G, c.H) := of_decide_eq_true (ckOne_all hF)
end Mine
section
open PySem PySem.Calls PyProof.Rows PyProof
namespace Mine
theorem gives_pow3 (a : Int) (t : Tok) (b : Int) (u : Tok) (c : Int) (v : Tok) (hc0 : ¬(c == 0) = true) (hc1 : ¬(c.natAbs == 1) = true) (hb : ¬ b < 0) (hc : ¬ c < 0) :
    Gives (Builtin.«int.__pow__» ⟨[.int a t, .int b u, .int c v], []⟩) (.int (Builtin.powMod (a % (c.natAbs : Int)).toNat b.natAbs c.natAbs : Nat)) :=
  .of_wp fun M A E s Q h => by
    obtain ⟨hp, g, d, tk, os⟩ := s
    wp_walk
    refine ⟨_, rfl, ?_⟩
    rw [decide_eq_false hc, Bool.false_and, if_neg Bool.false_ne_true]
    exact h
theorem kind_pow : builtinKind "pow" = none := by decide +kernel
theorem plain_pow : plainId "pow" = true := by decide +kernel
theorem entry_pow : entryFor table "pow" = some Builtin.«pow» := entryFor_of_fast (by kernel_rfl)
theorem slot_pow : Slot "int" (Str.ofString "__pow__") "int.__pow__" := F.slot_int_pow
theorem args_pow (a b c : Value) : argsOk "pow" ⟨[a, b, c], []⟩ := by unfold argsOk; kernel_rfl
theorem args_intpow (a b c : Value) : argsOk "int.__pow__" ⟨[a, b, c], []⟩ := by unfold argsOk; kernel_rfl
theorem call_pow3 {prog : Program} {w : World} {A : Around} {E : Value → Shared → Prop} {s : Shared} {a b c : Int} {t u v : Tok} {Q : Value → Shared → Prop} (hb : 0 ≤ b) (hc : 1 < c)
    (h : Q (.int (Builtin.powMod (a % (c.natAbs : Int)).toNat b.natAbs c.natAbs : Nat) s.toks) { s with toks := s.toks + 1 }) : wpAny (model prog w) A (call (.builtin "pow") [.int a t, .int b u, .int c v]) Q E s := by
  refine call_function_entry kind_pow plain_pow entry_pow (args_pow _ _ _) ?_
  have hg := gives_pow3 a t b u c v (by simp; omega) (by simp; omega) (by omega) (by omega)
  obtain ⟨hp, g, d, tk, os⟩ := s
  have hT : (⟨hp, g, d, tk, os⟩ : Shared).TypeIs (.int a t) "int" := rfl
  have f3 := slot_pow.lookup
  have f4 := slot_pow.bind (.int a t)
  repeat (any_goals (first | assumption | ((with_reducible show wpAny _ _ (call (Value.builtin "int.__pow__") _ _) _ _ _); refine call_gives slot_pow hT F.entry_int_pow (args_intpow _ _ _) hg ?_; dsimp only [Made.post]) | wp_step))
  exact ⟨_, rfl, h⟩
end Mine
end
namespace Mine
open PySem
theorem one_eq {r k N : Int} (e : Eqn r (1 * k % N)) (h0 : 0 ≤ k) (h1 : k < N) : r = k := by
  unfold Eqn at e
  rw [e, Int.one_mul, Int.emod_eq_of_lt h0 h1]
theorem w_j {N sec k q a b c j : Int} (s0 : 0 ≤ sec) (s1 : sec < N) (k0 : 0 ≤ k) (k1 : k < N) (ea : Eqn a (1 * sec % N)) (eb : Eqn b (1 * k % N)) (ec : Eqn c (a * q % N)) (ej : Eqn j ((b + c) % N)) : j = (k + q * sec) % N := by
  have ha := one_eq ea s0 s1
  have hb := one_eq eb k0 k1
  unfold Eqn at *
  rw [ej, ec, Int.add_emod_emod, ha, hb, Int.mul_comm sec q]
theorem w0 {N sec k q a b c j m z : Int} (s0 : 0 ≤ sec) (s1 : sec < N) (k0 : 0 ≤ k) (k1 : k < N) (ea : Eqn a (1 * sec % N)) (eb : Eqn b (1 * k % N)) (ec : Eqn c (a * q % N)) (ej : Eqn j ((b + c) % N)) (em : Eqn m (q * sec)) (ez : Eqn z ((k + m) % N)) : j = z := by
  rw [w_j s0 s1 k0 k1 ea eb ec ej]
  unfold Eqn at *
  rw [ez, em]
def powI (x y n : Int) : Int := (Builtin.powMod (x % (n.natAbs : Int)).toNat y.natAbs n.natAbs : Nat)
def ckPow (N : Int) : Bool := (List.range (2 * N.toNat)).all fun i => decide ((i : Int) - N = 0 ∨ (i : Int) - N = -N ∨ (((i : Int) - N) * powI ((i : Int) - N) (N - 2) N) % N = 1)
theorem ckPow_13 : ckPow 13 = true := by decide +kernel
theorem ckPow_17 : ckPow 17 = true := by decide +kernel
theorem pow_inv {c : Cv} {d : Int} (hF : Four c) (h0 : -c.N < d) (h1 : d < c.N) (hd : d ≠ 0) : (d * powI d (c.N - 2) c.N) % c.N = 1 := by
  have hN : 0 < c.N := by cases hF <;> decide
  have k : ckPow c.N = true := by cases hF; exact ckPow_13; exact ckPow_17; exact ckPow_13; exact ckPow_13
  have := of_decide_eq_true (List.all_eq_true.mp k (d + c.N).toNat (List.mem_range.mpr (by omega)))
  have e : (((d + c.N).toNat : Nat) : Int) - c.N = d := by omega
  rw [e] at this
  rcases this with h | h | h
  · exact absurd h hd
  · omega
  · exact h
theorem later_ne {c : Cv} {q u l : Int} (hF : Four c) (q0 : 0 ≤ q) (q1 : q < c.N) (u0 : 0 ≤ u) (u1 : u < c.N - 1) (el : Eqn l ((q + 1 + u) % c.N)) : q - l ≠ 0 := by
  unfold Eqn at el
  cases hF <;> (dsimp only at *; omega)
theorem w1 {c : Cv} {sec k q u l a b c1 c2 j1 j2 p m r : Int} (hF : Four c) (s0 : 0 ≤ sec) (s1 : sec < c.N) (k0 : 0 ≤ k) (k1 : k < c.N) (q0 : 0 ≤ q) (q1 : q < c.N) (u0 : 0 ≤ u) (u1 : u < c.N - 1)
    (ea : Eqn a (1 * sec % c.N)) (eb : Eqn b (1 * k % c.N)) (e1 : Eqn c1 (a * q % c.N)) (ej1 : Eqn j1 ((b + c1) % c.N)) (el : Eqn l ((q + 1 + u) % c.N)) (l0 : 0 ≤ l) (l1 : l < c.N) (e2 : Eqn c2 (a * l % c.N)) (ej2 : Eqn j2 ((b + c2) % c.N))
    (ep : Eqn p (powI (q - l) (c.N - 2) c.N)) (em : Eqn m ((j1 - j2) * p)) (er : Eqn r (m % c.N)) : r = sec := by
  have hd := later_ne hF q0 q1 u0 u1 el
  have hp := pow_inv hF (d := q - l) (by omega) (by omega) hd
  have h1 := w_j s0 s1 k0 k1 ea eb e1 ej1
  have h2 := w_j s0 s1 k0 k1 ea eb e2 ej2
  unfold Eqn at ep em er
  rw [← ep] at hp
  have h3 : (j1 - j2) % c.N = ((q - l) * sec) % c.N := by
    rw [h1, h2, Int.emod_sub_emod, Int.sub_emod_emod, Int.sub_mul]
    congr 1
    omega
  rw [er, em, Int.mul_emod, h3, ← Int.mul_emod, Int.mul_right_comm, Int.mul_emod, hp, Int.one_mul, Int.emod_emod, Int.emod_eq_of_lt s0 s1]
theorem w2a {N sec k q an a o b1 c j m t b2 : Int} (s0 : 0 ≤ sec) (s1 : sec < N) (an0 : 0 ≤ an) (an1 : an < N) (t0 : 0 ≤ t) (t1 : t < N)
    (ea : Eqn a (1 * sec % N)) (eo : Eqn o ((N - q) % N)) (eb1 : Eqn b1 (1 * an % N)) (ec : Eqn c (a * o % N)) (ej : Eqn j ((b1 + c) % N)) (em : Eqn m (q * sec)) (et : Eqn t ((an - m) % N)) (eb2 : Eqn b2 (1 * t % N)) : j = b2 := by
  have h1 := one_eq ea s0 s1
  have h2 := one_eq eb1 an0 an1
  have h3 := one_eq eb2 t0 t1
  unfold Eqn at eo ec ej em et
  have h4 : (sec * o) % N = (-(q * sec)) % N := by
    rw [eo, Int.mul_emod, Int.emod_emod, ← Int.mul_emod, Int.mul_sub, Int.mul_comm sec q, Int.sub_eq_add_neg, Int.add_comm, Int.add_mul_emod_self_right]
  rw [h3, et, em, ej, h2, ec, Int.add_emod_emod, h1, Int.add_emod, h4, ← Int.add_emod, Int.sub_eq_add_neg]
theorem w2b {N sec q an a b1 c j o c2 j2 b3 : Int} (s0 : 0 ≤ sec) (s1 : sec < N) (an0 : 0 ≤ an) (an1 : an < N)
    (ea : Eqn a (1 * sec % N)) (eo : Eqn o ((N - q) % N)) (eb1 : Eqn b1 (1 * an % N)) (ec : Eqn c (a * o % N)) (ej : Eqn j ((b1 + c) % N)) (ec2 : Eqn c2 (a * q % N)) (ej2 : Eqn j2 ((j + c2) % N)) (eb3 : Eqn b3 (1 * an % N)) : j2 = b3 := by
  have h1 := one_eq ea s0 s1
  have h2 := one_eq eb1 an0 an1
  have h3 := one_eq eb3 an0 an1
  unfold Eqn at eo ec ej ec2 ej2
  have h4 : (sec * o) % N = (-(q * sec)) % N := by
    rw [eo, Int.mul_emod, Int.emod_emod, ← Int.mul_emod, Int.mul_sub, Int.mul_comm sec q, Int.sub_eq_add_neg, Int.add_comm, Int.add_mul_emod_self_right]
  rw [h3, ej2, ec2, Int.add_emod_emod, ej, ec, h1, h2, h4, Int.add_emod_emod, Int.emod_add_emod, Int.mul_comm sec q]
  have : an + -(q * sec) + q * sec = an := by omega
  rw [this, Int.emod_eq_of_lt an0 an1]
def ckNz (N : Int) : Bool := (List.range N.toNat).all fun i => (List.range (2 * N.toNat)).all fun n => decide ((i : Int) = 0 ∨ (n : Int) - N = 0 ∨ (n : Int) - N = -N ∨ ((i : Int) * ((n : Int) - N)) % N ≠ 0)
theorem ckNz_13 : ckNz 13 = true := by decide +kernel
theorem ckNz_17 : ckNz 17 = true := by decide +kernel
theorem nz {c : Cv} {x y : Int} (hF : Four c) (x0 : 0 < x) (x1 : x < c.N) (y0 : -c.N < y) (y1 : y < c.N) (hy : y ≠ 0) : (x * y) % c.N ≠ 0 := by
  have hN : 0 < c.N := by cases hF <;> decide
  have k : ckNz c.N = true := by cases hF; exact ckNz_13; exact ckNz_17; exact ckNz_13; exact ckNz_13
  have := of_decide_eq_true (List.all_eq_true.mp (List.all_eq_true.mp k x.toNat (List.mem_range.mpr (by omega))) (y + c.N).toNat (List.mem_range.mpr (by omega)))
  have e : (((y + c.N).toNat : Nat) : Int) - c.N = y := by omega
  rw [e, Int.toNat_of_nonneg (by omega)] at this
  rcases this with h | h | h | h
  · omega
  · exact absurd h hy
  · omega
  · exact h
theorem w3 {c : Cv} {sec k q b i2 o c1 c2 c3 j3 j c4 : Int} (hF : Four c) (s0 : 0 ≤ sec) (s1 : sec < c.N) (q0 : 0 ≤ q) (q1 : q < c.N) (b0 : 0 < b) (b1 : b < c.N) (o0 : 0 ≤ o) (o1 : o < c.N)
    (ei : Eqn i2 (1 * b % c.N)) (e1 : Eqn c1 (i2 * k % c.N)) (e2 : Eqn c2 (i2 * o % c.N)) (e3 : Eqn c3 (c2 * q % c.N)) (ej3 : Eqn j3 ((c1 + c3) % c.N)) (ej : j = (k + q * sec) % c.N) (e4 : Eqn c4 (i2 * j % c.N)) :
    c4 = j3 ↔ o = sec ∨ q = 0 := by
  have hi := one_eq ei (by omega) b1
  unfold Eqn at *
  have l4 : c4 = (b * (k + q * sec)) % c.N := by rw [e4, hi, ej, Int.mul_emod, Int.emod_emod, ← Int.mul_emod]
  have l3 : j3 = (b * k + b * o * q) % c.N := by
    rw [ej3, e1, e3, e2, hi, Int.emod_add_emod, Int.add_emod_emod, Int.add_emod, Int.mul_emod (b * o % c.N), Int.emod_emod, ← Int.mul_emod, ← Int.add_emod]
  rw [l4, l3, Int.emod_eq_emod_iff_emod_sub_eq_zero]
  have l5 : b * (k + q * sec) - (b * k + b * o * q) = b * (q * (sec - o)) := by
    rw [Int.mul_add, Int.mul_sub, Int.mul_sub, Int.mul_assoc b o q, Int.mul_comm o q]
    omega
  rw [l5]
  constructor
  · intro h
    by_cases hq : q = 0
    · exact .inr hq
    · by_cases hd : sec - o = 0
      · exact .inl (by omega)
      · have h1 := nz hF (x := q) (y := sec - o) (by omega) q1 (by omega) (by omega) hd
        have h2 := Int.emod_nonneg (q * (sec - o)) (b := c.N) (by omega)
        have h3 := Int.emod_lt_of_pos (q * (sec - o)) (b := c.N) (by omega)
        have h4 := nz hF (x := b) (y := (q * (sec - o)) % c.N) b0 b1 (by omega) h3 h1
        rw [Int.mul_emod, Int.emod_emod, ← Int.mul_emod] at h4
        exact absurd h h4
  · rintro (h | h)
    · have : sec - o = 0 := by omega
      rw [this, Int.mul_zero, Int.mul_zero, Int.zero_emod]
    · rw [h, Int.zero_mul, Int.mul_zero, Int.zero_emod]
end Mine
namespace Mine
structure Big (P N A : Int) : Prop where
  p0 : 0 < P
  p1 : P < 32
  n0 : 12 < N
  n1 : N < 32
  a0 : 0 ≤ A
  a1 : A < 32
theorem Four.good {P N A B G H : Int} (h : Four ⟨P, N, A, B, G, H⟩) : Big P N A := by
  cases h <;> constructor <;> decide
theorem Four.goodC {P N A B G H : Int} (h : Four ⟨P, N, A, B, G, H⟩) : Good ⟨P, N, A, B, G, H⟩ := by
  cases h <;> constructor <;> decide
theorem Four.gh {P N A B G H : Int} (h : Four ⟨P, N, A, B, G, H⟩) : 0 ≤ G ∧ G < 32 ∧ 0 ≤ H ∧ H < 32 := by
  cases h <;> decide
theorem pt_let {P N A B G H e : Int} {t : Int × Int} (h : pt ⟨P, N, A, B, G, H⟩ (e % N) = t) (hN : 12 < N) : ∃ j, Eqn j (e % N) ∧ 0 ≤ j ∧ j < N ∧ pt ⟨P, N, A, B, G, H⟩ j = t :=
  ⟨_, rfl, Int.emod_nonneg _ (by omega), Int.emod_lt_of_pos _ (by omega), h⟩
section
variable {prog : Program} {w : World} {A : Around} {E : Value → Shared → Prop} {s : Shared} {h₀ : Heap} {L a b : Addr} {news : List (Addr × Obj)} {c : Cv} {i j x y x' y' : Int} {tx ty tx' ty' : Tok} {n n' : Nat} {Q : Value → Shared → Prop}
theorem eqv_pt (hF : Four c) (e : pt c i = (x, y)) (e' : pt c j = (x', y')) (h0 : 0 ≤ i) (h1 : i < c.N) (h2 : 0 ≤ j) (h3 : j < c.N) : PyData.eqv (.tuple [.int x, .int y]) (.tuple [.int x', .int y']) = decide (i = j) := by
  simp only [PyData.eqv, PyData.eqvAll, Bool.and_true]
  by_cases h : i = j
  · subst h
    rw [e] at e'
    cases e'
    simp
  · rw [decide_eq_false h]
    by_cases hx : x = x'
    · by_cases hy : y = y'
      · subst hx; subst hy
        exact absurd (pt_inj hF h0 h1 h2 h3 (e.trans e'.symm)) h
      · simp [hy]
    · simp [hx]
theorem m_eqpt (N : News h₀ L s.heap news) (ha : (a, ({ cls := .type "tuple", data := .seq #[.int x tx, .int y ty] n } : Obj)) ∈ news) (hb : (b, ({ cls := .type "tuple", data := .seq #[.int x' tx', .int y' ty'] n' } : Obj)) ∈ news)
    (hF : Four c) (e : pt c i = (x, y)) (e' : pt c j = (x', y')) (h0 : 0 ≤ i) (h1 : i < c.N) (h2 : 0 ≤ j) (h3 : j < c.N) (hu : A.units + 64 < cLine) (h : Q (.bool (decide (i = j))) s) :
    wpAny (model prog w) A (compareOp .Eq (.ref a) (.ref b)) Q E s :=
  eq_dataH (reads_tuple_at (News.get N ha) rfl rfl (.cons (.int _ _) (.cons (.int _ _) .nil))) (reads_tuple_at (News.get N hb) rfl rfl (.cons (.int _ _) (.cons (.int _ _) .nil))) rfl rfl hu
    (by rw [eqv_pt hF e e' h0 h1 h2 h3]; exact h)
theorem m_nept (N : News h₀ L s.heap news) (ha : (a, ({ cls := .type "tuple", data := .seq #[.int x tx, .int y ty] n } : Obj)) ∈ news) (hb : (b, ({ cls := .type "tuple", data := .seq #[.int x' tx', .int y' ty'] n' } : Obj)) ∈ news)
    (hF : Four c) (e : pt c i = (x, y)) (e' : pt c j = (x', y')) (h0 : 0 ≤ i) (h1 : i < c.N) (h2 : 0 ≤ j) (h3 : j < c.N) (hu : A.units + 64 < cLine) (h : Q (.bool (!decide (i = j))) s) :
    wpAny (model prog w) A (compareOp .NotEq (.ref a) (.ref b)) Q E s :=
  ne_dataH (reads_tuple_at (News.get N ha) rfl rfl (.cons (.int _ _) (.cons (.int _ _) .nil))) (reads_tuple_at (News.get N hb) rfl rfl (.cons (.int _ _) (.cons (.int _ _) .nil))) rfl rfl hu
    (by rw [eqv_pt hF e e' h0 h1 h2 h3]; exact h)
end
theorem m_menu {prog : Program} {w : World} {A : Around} {E : Value → Shared → Prop} {s : Shared} {h₀ : Heap} {L : Addr} {news : List (Addr × Obj)} {value slice : PySem.Expr} {l : Addr} {a1 a2 a3 a4 : Addr} {k : Int} {u : Tok} {Q : Value → Shared → Prop} {n n1 n2 n3 n4 : Nat}
    {t11 t12 t13 t14 t15 t16 t21 t22 t23 t24 t25 t26 t31 t32 t33 t34 t35 t36 t41 t42 t43 t44 t45 t46 : Tok}
    (N : News h₀ L s.heap ((l, listOf #[.ref a1, .ref a2, .ref a3, .ref a4] n) ::
      (a4, ({ cls := .type "tuple", data := .seq #[.int 19 t41, .int 13 t42, .int 0 t43, .int 3 t44, .int 1 t45, .int 17 t46] n4 } : Obj)) ::
      (a3, ({ cls := .type "tuple", data := .seq #[.int 19 t31, .int 13 t32, .int 0 t33, .int 2 t34, .int 4 t35, .int 16 t36] n3 } : Obj)) ::
      (a2, ({ cls := .type "tuple", data := .seq #[.int 11 t21, .int 17 t22, .int 6 t23, .int 5 t24, .int 1 t25, .int 1 t26] n2 } : Obj)) ::
      (a1, ({ cls := .type "tuple", data := .seq #[.int 11 t11, .int 13 t12, .int 1 t13, .int 6 t14, .int 2 t15, .int 4 t16] n1 } : Obj)) :: news))
    (l1 : AllLt a1 news) (l2 : AllLt a2 news) (l3 : AllLt a3 news) (l4 : AllLt a4 news)
    (h0 : 0 ≤ k) (h4 : k < 4)
    (h : ∀ (a : Addr) (P N A B G H : Int) (t1 t2 t3 t4 t5 t6 : Tok) (m : Nat), Four ⟨P, N, A, B, G, H⟩ → News h₀ L s.heap ((a, ({ cls := .type "tuple", data := .seq #[.int P t1, .int N t2, .int A t3, .int B t4, .int G t5, .int H t6] m } : Obj)) :: news) → AllLt a news → Q (.ref a) s)
    (hs : subscripted slice false (.ref l) (.int k u) = operate [.ref l, .int k u] (getItem (.ref l) (.int k u)) := by with_unfolding_all rfl) :
    wpAny (model prog w) A (subscriptTail value slice (.ref l) (.int k u)) Q E s := by
  have hL : s.heap.IsList l #[.ref a1, .ref a2, .ref a3, .ref a4] := ⟨_, (N _ (.head _)).1, rfl, n, rfl⟩
  have key : ∀ v, #[Value.ref a1, .ref a2, .ref a3, .ref a4][k.toNat]? = some v → Q v s → wpAny (model prog w) A (subscriptTail value slice (.ref l) (.int k u)) Q E s := fun v hv hq =>
    tail_any hL.typeIs slot_list_getitem.lookup (wpAny_getItem_list hL h0 (by omega) hv hq) hs
  have hk : k = 0 ∨ k = 1 ∨ k = 2 ∨ k = 3 := by omega
  rcases hk with rfl | rfl | rfl | rfl
  · exact key _ rfl (h a1 11 13 1 6 2 4 t11 t12 t13 t14 t15 t16 n1 .a (cb_drop N (by intro p hp; rcases List.mem_cons.mp hp with rfl | hp <;> simp_all)) l1)
  · exact key _ rfl (h a2 11 17 6 5 1 1 t21 t22 t23 t24 t25 t26 n2 .b (cb_drop N (by intro p hp; rcases List.mem_cons.mp hp with rfl | hp <;> simp_all)) l2)
  · exact key _ rfl (h a3 19 13 0 2 4 16 t31 t32 t33 t34 t35 t36 n3 .c (cb_drop N (by intro p hp; rcases List.mem_cons.mp hp with rfl | hp <;> simp_all)) l3)
  · exact key _ rfl (h a4 19 13 0 3 1 17 t41 t42 t43 t44 t45 t46 n4 .d (cb_drop N (by intro p hp; rcases List.mem_cons.mp hp with rfl | hp <;> simp_all)) l4)
section
variable {prog : Program} {w : World} {A : Around} {E : Value → Shared → Prop} {s : Shared} {h₀ : Heap} {L : Addr} {m : Str → Option Value} {news : List (Addr × Obj)}
theorem m_slice {value slice : PySem.Expr} {t : Addr} {items : Array Value} {a : Nat} {u : Tok} {Q : Value → Shared → Prop}
    (F : Fr h₀ L s.heap m) (N : News h₀ L s.heap news) (ht : IsTup s.heap t items) (h1 : 1 ≤ a) (ha : a ≤ items.size)
    (h : ∀ (D : Addr) h', Fr h₀ L h' m → News h₀ L h' ((D, ({ cls := .type "tuple", data := .seq (items.toList.drop a).toArray 0 } : Obj)) :: news) → (∀ p ∈ news, p.1 < D) → Q (.ref D) { s with heap := h' })
    (hs : subscripted slice false (.ref t) (.ref s.heap.objs.size) = operate [.ref s.heap.objs.size, .ref t] (getItem (.ref t) (.ref s.heap.objs.size)))
    (hg : ∀ r, letTemporaryGo value (.ref t) r = pure ())
    (hsz : items.size ≤ sizeLine) :
    wpAny (model prog w) A (subscriptTail value slice (.ref t) (.ref s.heap.objs.size)) Q E { s with heap := s.heap.push { cls := .type "slice", data := .fields #[.int a u, .none, .none] } } :=
  slice_tuple_from F N ht h1 ha (fun h' F' N' => h _ h' F' N' fun p hp => Nat.lt_succ_of_lt (Heap.lt_size (N p hp).1)) hs hg hsz
end
theorem m_modE {prog : Program} {w : World} {A : Around} {E : Value → Shared → Prop} {s : Shared} {a b : Int} {t u : Tok} {Q : Value → Shared → Prop} (hb : 0 < b) (h : ∀ r, Eqn r (a % b) → 0 ≤ r → r < b → Q (.int r s.toks) { s with toks := s.toks + 1 }) : wpAny (model prog w) A (binaryOp .Mod (.int a t) (.int b u)) Q E s :=
  mod_int' (by omega) (by rw [Int.fmod_eq_emod_of_nonneg _ (by omega)]; exact h _ rfl (Int.emod_nonneg _ (by omega)) (Int.emod_lt_of_pos _ hb))
end Mine
namespace Mine
local macro_rules | `(tactic| k_mem) => `(tactic| (first | (refine List.mem_cons_of_mem _ ?_; assumption) | (refine List.mem_cons_of_mem _ (List.mem_cons_of_mem _ ?_); assumption)))
local macro_rules | `(tactic| walk_at "binaryOp Mod int int") => `(tactic| (k_here; (fail_if_success (with_reducible show wpAny _ _ (binaryOp _ _ (Value.int 1000003 _)) _ _ _)); (refine m_modE (by first | decide | omega) ?_); intro r' e' lo' hi'))
local macro_rules | `(tactic| walk_at "binaryOp FloorDiv int int") => `(tactic| (k_here; (refine m_fdiv (by omega) (by omega) (by omega) ?_); intro r' e' lo' hi'))
local macro_rules | `(tactic| walk_at "binaryOp Mult int int") => `(tactic| (k_here; (fail_if_success (with_reducible show wpAny _ _ (binaryOp _ (Value.int 5 _) _) _ _ _)); (first | refine m_mulL (by omega) (by omega) ?_ | refine m_mulR (by omega) (by omega) ?_); intro r' e'))
local macro_rules | `(tactic| walk_at "binaryOp Pow int int") => `(tactic| (k_here; (refine m_pow (by decide) (by decide) (by omega) (by omega) ?_); intro r' e'))
local macro_rules | `(tactic| walk_at "call ref") => `(tactic| (k_here; k_dflt (
   (refine' tellsN_use (c := mulT) ?k1 ?k2 ?k3 ?k4 ?k5 ?kK ?kR (mulP _ _ _ _ _) ?ko ?kd ?ku ?_)
   (case k1 => k_asm)
   (case k2 => k_asm)
   (case k3 => k_asm)
   (case k4 => k_asm)
   (case k5 => k_asm)
   (case kK => first | exact rfl | assumption)
   (case kR => (refine' MRel.mk (XyIn.mk ?m0) (CvIn.mk ?m1); (case m0 => k_mem); (case m1 => k_mem)))
   (case ko => exact ⟨Four.goodC (by assumption), by assumption, by assumption, by assumption, by assumption, by assumption, by (try dsimp only); first | assumption | omega⟩)
   (case kd => ktr_room)
   (case ku => ktr_units)
   intro r9 tl9 h9 tk9 F9 N9 hl9 ht9 ho9
   obtain ⟨D9, x9, y9, tx9, ty9, n9, w9, v9, e9, bx0, bx1, by0, by1⟩ := FrOut.open ht9 ho9
   subst w9
   subst v9
   (try dsimp only at e9)
   replace N9 := news_front N9
   have l9 := ord_front hl9
   clear hl9 ht9
   (rename Four _ => hF9)
   have f9 := pt_mul hF9 (by assumption) (by first | assumption | omega) (by first | assumption | (dsimp only; omega)) (by assumption) (by first | assumption | (dsimp only; omega)) e9
   obtain ⟨j9, g9, jo9, jh9, q9⟩ := pt_let f9 (by assumption)
   clear f9 e9
   (try dsimp only at l9)
   (try k_lt l9)
   (try dsimp only)
   (try k_fold))))
local macro_rules | `(tactic| walk_at "compareOp Eq ref ref") => `(tactic| (k_here; (with_reducible show wpAny _ _ (compareOp CmpOp.Eq (Value.ref _) (Value.ref _)) _ _ _); k_dflt (
   (refine' m_eqpt ?q1 ?q2 ?q3 ?q4 ?q5 ?q6 ?q7 ?q8 ?q9 ?qa ?qb ?_)
   (case q1 => k_asm)
   (case q2 => k_mem)
   (case q3 => k_mem)
   (case q4 => assumption)
   (case q5 => assumption)
   (case q6 => assumption)
   (case q7 => first | assumption | omega)
   (case q8 => first | assumption | (dsimp only; omega))
   (case q9 => first | assumption | omega)
   (case qa => first | assumption | (dsimp only; omega))
   (case qb => first | ke_room | (simp only [units_in1, units_deeper, Around.mark_units, units_caller, cLine] at *; omega))
   k_whole
   (try k_fold))))
local macro_rules | `(tactic| walk_at "compareOp NotEq ref ref") => `(tactic| (k_here; (with_reducible show wpAny _ _ (compareOp CmpOp.NotEq (Value.ref _) (Value.ref _)) _ _ _); k_dflt (
   (refine' m_nept ?q1 ?q2 ?q3 ?q4 ?q5 ?q6 ?q7 ?q8 ?q9 ?qa ?qb ?_)
   (case q1 => k_asm)
   (case q2 => k_mem)
   (case q3 => k_mem)
   (case q4 => assumption)
   (case q5 => assumption)
   (case q6 => assumption)
   (case q7 => first | assumption | omega)
   (case q8 => first | assumption | (dsimp only; omega))
   (case q9 => first | assumption | omega)
   (case qa => first | assumption | (dsimp only; omega))
   (case qb => first | ke_room | (simp only [units_in1, units_deeper, Around.mark_units, units_caller, cLine] at *; omega))
   k_whole
   (try k_fold))))
local macro_rules | `(tactic| walk_at "call type:tuple") => `(tactic| (k_here; (with_reducible show wpAny _ _ (call (Value.type _) [Value.ref _]) _ _ _); k_dflt (
   (refine' call_tuple_tup ?q1 ?_)
   (case q1 => exact News.isTup (by k_asm) (by k_mem))
   (try k_fold))))
structure AD where
  cv : Cv
  (x y x' y' j : Int)
inductive ARel (news : List (Addr × Obj)) : List Value → AD → Prop
  | mk {p q c : Value} {cv : Cv} {x y x' y' j : Int} : XyIn news p x y → XyIn news q x' y' → CvIn news c cv → ARel news [p, q, c] ⟨cv, x, y, x', y', j⟩
def AOk (d : AD) : Prop := Four d.cv ∧ (0 ≤ d.x ∧ d.x < 32 ∧ 0 ≤ d.y ∧ d.y < 32) ∧ pt d.cv 1 = (d.x, d.y) ∧ pt d.cv d.j = (d.x', d.y') ∧ 0 ≤ d.j ∧ d.j < d.cv.N
theorem aok {cv : Cv} {x y x' y' j : Int} (hF : Four cv) (h1 : 0 ≤ x) (h2 : x < 32) (h3 : 0 ≤ y) (h4 : y < 32) (e1 : pt cv 1 = (x, y)) (e2 : pt cv j = (x', y')) (j0 : 0 ≤ j) (j1 : j < cv.N) : AOk ⟨cv, x, y, x', y', j⟩ := ⟨hF, ⟨h1, h2, h3, h4⟩, e1, e2, j0, j1⟩
def Answers (w : World) (mean : ExcName → Option Value) (mg mb : Str → Option Value) (d : AD) : Prop :=
  ∀ (dp un : Nat) (gd : Option (List Code)) (cn : Str) (cs : Scope) (a : Addr) (ccd : Value) (cl : List (Str × Addr)) (outer : List Env) (A₀ : Around) (base h₀ : Heap) (L : Addr) (m : Str → Option Value) (news : List (Addr × Obj)) (s : Shared) (vs : List Value)
    (Q E : Value → Shared → Prop),
    Below A₀ base outer h₀ → Fr h₀ L s.heap m → (Mine.hd.heap_39 w.params).In h₀ → News h₀ L s.heap news → Top Mine.hd.view_39 (looseW Mine.hd.view_39 []) mean mg mb h₀ → cs.kind = .function → ARel news vs d → AOk d → dp + 60 < recursionLimit → un + 800 < cLine →
    (∀ (D : Addr) (t : Tok) (n : Nat) h' tk', Fr h₀ L h' m → News h₀ L h' ((D, listOf #[.int d.j t] n) :: news) → LCg.Off1 D news → Q (.ref D) { s with heap := h', toks := tk' }) →
    wpAny (model PySem.Challenge.rw_bw0037_01.row.prog w) (ktrTop dp un gd cn cs L a ccd cl outer) (call (.ref 110) vs) Q E s
theorem lt_range {k N : Int} (h : k < 0 + ((N - 0).toNat : Int)) (hN : 0 ≤ N) : k < N := by omega
theorem ans_yes {l : List Int} {j k r N : Int} (e : Eqn r (1 * k % N)) (h0 : 0 ≤ k) (h1 : k < N) (h : r = j) : (if k = j then l ++ [k] else l) = l ++ [k] := by
  rw [if_pos ((one_eq e h0 h1).symm.trans h)]
theorem ans_no {l : List Int} {j k r N : Int} (e : Eqn r (1 * k % N)) (h0 : 0 ≤ k) (h1 : k < N) (h : r ≠ j) : (if k = j then l ++ [k] else l) = l :=
  if_neg fun q => h ((one_eq e h0 h1).trans q)
theorem ans_fold (j : Int) : ∀ (n : Nat) (a : Int), (rangeKs a n).foldl (fun l k => if k = j then l ++ [k] else l) [] = if a ≤ j ∧ j < a + n then [j] else [] := by
  intro n a
  induction n with
  | zero => rw [if_neg (by omega)]; rfl
  | succ n ih =>
    have e : rangeKs a (n + 1) = rangeKs a n ++ [a + (n : Int)] := by
      unfold rangeKs
      rw [List.range_succ, List.map_append]
      rfl
    rw [e, List.foldl_append, ih]
    simp only [List.foldl_cons, List.foldl_nil]
    by_cases h : a + (n : Int) = j
    · rw [if_pos h, if_neg (by omega), if_pos (by omega), h]; rfl
    · rw [if_neg h]
      by_cases h' : a ≤ j ∧ j < a + (n : Int)
      · rw [if_pos h', if_pos (by omega)]
      · rw [if_neg h', if_neg (by omega)]
theorem ans_one {ys : List Value} {j N : Int} (h : IntsAre ys ((rangeKs 0 (N - 0).toNat).foldl (fun l k => if k = j then l ++ [k] else l) [])) (h0 : 0 ≤ j) (h1 : j < N) : ∃ t, ys = [.int j t] := by
  rw [ans_fold, if_pos (by omega)] at h
  cases h with
  | cons _ t r => cases r; exact ⟨t, rfl⟩
def Stop (P : Prop) : Prop := P
theorem stop_here {P : Prop} (h : Stop P) : P := h
local macro_rules | `(tactic| walk_at "CompSrcT") => `(tactic| (k_here; refine stop_here ?_))
theorem ansP (w : World) (mean : ExcName → Option Value) (mg mb : Str → Option Value) (d : AD) : Answers w mean mg mb d := by
  have : (Mine.hd.heap_39 = Mine.hd.heap_39 ∧ PySem.Challenge.rw_bw0037_01.prog = PySem.Challenge.rw_bw0037_01.prog) → True := by k_fill; intro _; trivial
  clear this
  unfold Answers
  intro dp un gd cn cs a ccd cl outer A₀ base h₀ L m news s vs Q E B F X N T hk hR hok hd hu hret
  obtain ⟨hp, hq, hc⟩ := hR
  rename_i p q c cv x y x' y' j
  obtain ⟨hpm⟩ := hp
  obtain ⟨hqm⟩ := hq
  obtain ⟨hcm⟩ := hc
  obtain ⟨hF, ⟨x0, x1, y0, y1⟩, e1, e2, j0, j1⟩ := hok
  dsimp only at hF x0 x1 y0 y1 e1 e2 j0 j1 hd hu hret
  obtain ⟨p0', p1', n0', n1', a0', a1'⟩ := Four.good hF
  refine wpAny_call ?_
  k_dflt (
    (refine' code_defC ?k1 ?k2 ?k3 ?k4 ?k5 ?kA ?kF ?kK ?k6 ?k7 ?k8 ?k9 ?kB ?kD ?_ ?c2 ?c3 ?c4)
    (case kA => exact rfl)
    (case kF => exact rfl)
    (case kK => assumption)
    (case k1 => k_asm)
    (case k2 => k_asm)
    (case k3 => k_asm)
    (case k4 => k_asm)
    (case k5 => k_asm)
    (case k6 => k_is)
    (case k7 => k_is)
    (case k8 => ktr_room)
    (case k9 => exact BindsTo.of_eq rfl)
    (case kB => exact rfl)
    (case kD => decide +kernel)
    (case c2 => exact rfl)
    (case c3 => exact rfl)
    (case c4 => exact rfl)
    k_whole
    intro g' L' h' tk' cells' FG' F' N' Y' B' X' T' l1
    (try k_lt l1)
    k_cells Y'
    (try simp only [List.cons_append, List.nil_append] at N')
    (try dsimp only)
    (try k_lift B')
    (try k_fold))
  k_steps
  unfold Stop
  k_dflt (refine LCt.CompSrcT.range (by rfl) (by k_asm) (by k_asm) (by assumption) (small_one (by omega) (by omega) (by omega) (by omega)) (rangeSize_nat _ _) (by rw [PySem.sizeLine_eq]; omega) ?_)
  intro g9
  k_dflt (refine' kci_range (fun l k => if k = j then l ++ [k] else l) (fun k' t' I' oI' C' oC' D' m' ys' ls' h' tk' E' hlo' hhi' hI' hC' hx' F' N' off' ne' hMark' => ?_) ?_ ?_)
  all_goals (try k_fold)
  · have hk9 := lt_range hhi' (by omega)
    k_steps
    all_goals first
      | exact LCg.CompEnd.intro (by assumption) (by assumption) _ (fun _ hp => List.mem_cons_of_mem _ hp) off' True.intro (kci_el (ans_yes (by assumption) hlo' hk9 (by assumption)) rfl rfl)
      | exact LCg.CompEnd.intro (by assumption) (by assumption) _ (fun _ hp => List.mem_cons_of_mem _ hp) off' True.intro (kci_no (ans_no (by assumption) hlo' hk9 (by assumption)) rfl)
  · unfold KPfDone
    intro ys hys _
    obtain ⟨t, rfl⟩ := ans_one hys j0 j1
    clear hys
    unfold LCg.FinE
    intro D' h' tk' F' N' o1'
    (try dsimp only)
    k_steps
    (rename News _ _ _ _ => n9)
    exact hret D' t _ h' _ (by k_asm) (cb_drop n9 (by kcj_all)) o1'.2.2.2
  · intro l k
    by_cases h : k = j
    · simp only [if_pos h, List.length_append, List.length_cons, List.length_nil]; omega
    · simp only [if_neg h]; omega
end Mine
namespace Mine
theorem law_raises (args : List WData) (cls) : PySem.Challenge.rw_bw0037_01.row.claim.raises args cls = false := by rfl
theorem law_post (ns : List Int) : PySem.Challenge.rw_bw0037_01.row.claim.post [ofPy (PyData.list (List.map PyData.int ns))] (.bool true) [ofPy (PyData.list (List.map PyData.int ns))] = true :=
  postW_of (r := PySem.Challenge.rw_bw0037_01.row.toRowW) (X := true == true) rfl (w_eq_bool (w_res rfl) w_lit) rfl
theorem law_true {cl : Str → Option Addr} {mean : ExcName → Option Value} {ns : List Int} {s₁ s' : Shared} {L : Addr} {m : Str → Option Value} {b : Bool} (hb : b = true) (F : Fr s₁.heap L s'.heap m) (hg : s'.gens = #[]) (hos : s'.os = s₁.os) :
    GoodW PySem.Challenge.rw_bw0037_01.row.claim cl mean [ofPy (PyData.list (List.map PyData.int ns))] s₁ (.ok (.ret (.bool b))) s' := by
  subst hb
  exact goodW_bool F hg (law_raises _) (law_post ns) hos
end Mine
namespace Mine
theorem ans_use {w : World} {mean : ExcName → Option Value} {mg mb : Str → Option Value} {cv : Cv} {x y x' y' j : Int} {p q c : Value} {dp un : Nat} {gd : Option (List Code)} {cn : Str} {cs : Scope} {a : Addr} {ccd : Value} {cl : List (Str × Addr)} {outer : List Env} {A₀ : Around} {base h₀ : Heap} {L : Addr} {m : Str → Option Value} {news : List (Addr × Obj)} {s : Shared}
    {Q E : Value → Shared → Prop} (B : Below A₀ base outer h₀) (F : Fr h₀ L s.heap m) (X : (Mine.hd.heap_39 w.params).In h₀) (N : News h₀ L s.heap news) (T : Top Mine.hd.view_39 (looseW Mine.hd.view_39 []) mean mg mb h₀) (hk : cs.kind = .function)
    (r1 : XyIn news p x y) (r2 : XyIn news q x' y') (r3 : CvIn news c cv) (hF : Four cv) (h1 : 0 ≤ x) (h2 : x < 32) (h3 : 0 ≤ y) (h4 : y < 32) (e1 : pt cv 1 = (x, y)) (e2 : pt cv j = (x', y')) (j0 : 0 ≤ j) (j1 : j < cv.N)
    (hd : dp + 60 < recursionLimit) (hu : un + 800 < cLine)
    (ret : ∀ (D : Addr) (t : Tok) (n : Nat) h' tk', Fr h₀ L h' m → News h₀ L h' ((D, listOf #[.int j t] n) :: news) → LCg.Off1 D news → Q (.ref D) { s with heap := h', toks := tk' }) :
    wpAny (model PySem.Challenge.rw_bw0037_01.row.prog w) (ktrTop dp un gd cn cs L a ccd cl outer) (call (.ref 110) [p, q, c]) Q E s := ansP w mean mg mb ⟨cv, x, y, x', y', j⟩ _ _ _ _ _ _ _ _ _ _ _ _ _ _ _ _ _ _ _ B F X N T hk (.mk r1 r2 r3) (aok hF h1 h2 h3 h4 e1 e2 j0 j1) hd hu ret
theorem m_pow3 {prog : Program} {w : World} {A : Around} {E : Value → Shared → Prop} {s : Shared} {a b c : Int} {t u v : Tok} {Q : Value → Shared → Prop} (hb : 0 ≤ b) (hc : 1 < c)
    (h : ∀ p, Eqn p (powI a b c) → Q (.int p s.toks) { s with toks := s.toks + 1 }) : wpAny (model prog w) A (call (.builtin "pow") [.int a t, .int b u, .int c v]) Q E s := call_pow3 hb hc (h _ rfl)
theorem stopW {c : ClaimW} {cl : Str → Option Addr} {mean : ExcName → Option Value} {args : List WData} {s₁ : Shared} {res : Result} {s' : Shared} (h : Stop (GoodW c cl mean args s₁ res s')) : GoodW c cl mean args s₁ res s' := h
theorem end_true {c : ClaimW} {cl : Str → Option Addr} {mean : ExcName → Option Value} {args : List WData} {s₁ : Shared} {s' : Shared} {p : Prop} [Decidable p] (h : p) (g : GoodW c cl mean args s₁ (.ok (.ret (.bool true))) s') : GoodW c cl mean args s₁ (.ok (.ret (.bool (decide p)))) s' := by rw [decide_eq_true h]; exact g
theorem end0 {N sec k q a b c j m z : Int} (ej : Eqn j ((b + c) % N)) (ec : Eqn c (a * q % N)) (ea : Eqn a (1 * sec % N)) (eb : Eqn b (1 * k % N)) (ez : Eqn z ((k + m) % N)) (em : Eqn m (q * sec)) (s0 : 0 ≤ sec) (s1 : sec < N) (k0 : 0 ≤ k) (k1 : k < N) : [j] = [z] := by
  rw [w0 s0 s1 k0 k1 ea eb ec ej em ez]
theorem end1 {P N A B G H sec k q u l a b c1 c2 j1 j2 p m r : Int} (er : Eqn r (m % N)) (em : Eqn m ((j1 - j2) * p)) (ep : Eqn p (powI (q - l) (N - 2) N)) (ej1 : Eqn j1 ((b + c1) % N)) (e1 : Eqn c1 (a * q % N)) (ej2 : Eqn j2 ((b + c2) % N)) (e2 : Eqn c2 (a * l % N))
    (ea : Eqn a (1 * sec % N)) (eb : Eqn b (1 * k % N)) (el : Eqn l ((q + 1 + u) % N)) (hF : Four ⟨P, N, A, B, G, H⟩) (s0 : 0 ≤ sec) (s1 : sec < N) (k0 : 0 ≤ k) (k1 : k < N) (q0 : 0 ≤ q) (q1 : q < N) (u0 : 0 ≤ u) (u1 : u < N - 1) (l0 : 0 ≤ l) (l1 : l < N) : r = sec :=
  w1 hF s0 s1 k0 k1 q0 q1 u0 u1 ea eb e1 ej1 el l0 l1 e2 ej2 ep em er
theorem end2a {N sec q an a o b1 c j m t b2 : Int} (em : Eqn m (q * sec)) (et : Eqn t ((an - m) % N)) (eb2 : Eqn b2 (1 * t % N)) (h : j ≠ b2) (ej : Eqn j ((b1 + c) % N)) (eb1 : Eqn b1 (1 * an % N)) (ec : Eqn c (a * o % N)) (eo : Eqn o ((N - q) % N)) (ea : Eqn a (1 * sec % N))
    (s0 : 0 ≤ sec) (s1 : sec < N) (an0 : 0 ≤ an) (an1 : an < N) (t0 : 0 ≤ t) (t1 : t < N) : False := h (w2a (k := 0) s0 s1 an0 an1 t0 t1 ea eo eb1 ec ej em et eb2)
theorem end2b {N sec q an a b1 c j o c2 j2 b3 : Int} (eb3 : Eqn b3 (1 * an % N)) (ej2 : Eqn j2 ((j + c2) % N)) (ec2 : Eqn c2 (a * q % N)) (ej : Eqn j ((b1 + c) % N)) (eb1 : Eqn b1 (1 * an % N)) (ec : Eqn c (a * o % N)) (eo : Eqn o ((N - q) % N)) (ea : Eqn a (1 * sec % N))
    (s0 : 0 ≤ sec) (s1 : sec < N) (an0 : 0 ≤ an) (an1 : an < N) : j2 = b3 := w2b s0 s1 an0 an1 ea eo eb1 ec ej ec2 ej2 eb3
theorem end3 {P N A B G H sec k q u i2 o c1 c2 c3 j3 j c4 a b c : Int} (ei : Eqn i2 (1 * (2 + u) % N)) (e4 : Eqn c4 (i2 * j % N)) (ej : Eqn j ((b + c) % N)) (ec : Eqn c (a * q % N)) (ea : Eqn a (1 * sec % N)) (eb : Eqn b (1 * k % N)) (e1 : Eqn c1 (i2 * k % N)) (e3 : Eqn c3 (c2 * q % N)) (e2 : Eqn c2 (i2 * o % N)) (ej3 : Eqn j3 ((c1 + c3) % N))
    (hF : Four ⟨P, N, A, B, G, H⟩) (s0 : 0 ≤ sec) (s1 : sec < N) (k0 : 0 ≤ k) (k1 : k < N) (q0 : 0 ≤ q) (q1 : q < N) (u0 : 0 ≤ u) (u1 : u < N - 2) (o0 : 0 ≤ o) (o1 : o < N) : c4 = j3 ↔ o = sec ∨ q = 0 :=
  w3 (c := ⟨P, N, A, B, G, H⟩) hF s0 s1 q0 q1 (by omega) (by show 2 + u < N; omega) o0 o1 ei e1 e2 e3 ej3 (w_j s0 s1 k0 k1 ea eb ec ej) e4
theorem ab1 {a b o s q : Int} (h : a = b ↔ o = s ∨ q = 0) (n : ¬ a = b) (e : o = s) : False := n (h.mpr (Or.inl e))
theorem ab2 {a b o s q : Int} (h : a = b ↔ o = s ∨ q = 0) (n : ¬ a = b) (e : q = 0) : False := n (h.mpr (Or.inr e))
theorem ab3 {a b o s q : Int} (h : a = b ↔ o = s ∨ q = 0) (e : a = b) (n : ¬ o = s) (m : ¬ q = 0) : False := (h.mp e).elim n m
local macro_rules | `(tactic| walk_at "subscriptTail") => `(tactic| (k_here; (with_reducible show wpAny _ _ (subscriptTail (PySem.Expr.Call _ _ _ _) _ (Value.ref _) (Value.int _ _)) _ _ _); k_dflt (
  (rename News _ _ _ (_ :: _) => nM')
  (refine' m_menu nM' ?m1 ?m2 ?m3 ?m4 ?lo ?hi ?_ ?hs)
  (case m1 => ((simp only [AllLt, and_true]); omega))
  (case m2 => ((simp only [AllLt, and_true]); omega))
  (case m3 => ((simp only [AllLt, and_true]); omega))
  (case m4 => ((simp only [AllLt, and_true]); omega))
  (case lo => omega)
  (case hi => omega)
  (case hs => with_unfolding_all rfl)
  clear nM'
  intro a' P' N' A' B' G' H' t1' t2' t3' t4' t5' t6' m' hF' hN' l1
  (try simp only [AllLt, and_true] at l1)
  obtain ⟨p0', p1', n0', n1', a0', a1'⟩ := Four.good hF'
  obtain ⟨g0', g1', h0', h1'⟩ := Four.gh hF'
  have o9' := pt_one hF'
  (try dsimp only at o9')
  (try k_fold))))
local macro_rules | `(tactic| walk_at "subscriptTail Name Slice ref ref") => `(tactic| (k_here; k_dflt (
  (refine' m_slice (a := 4) ?sF ?sN ?st ?sa ?sb ?_ ?ss ?sg ?sz)
  (case sF => k_asm)
  (case sN => k_asm)
  (case st => exact News.isTup (by k_asm) (by k_mem))
  (case sa => decide)
  (case sb => exact Nat.le_of_ble_eq_true rfl)
  (case ss => with_unfolding_all rfl)
  (case sg => intro _; with_unfolding_all rfl)
  (case sz => exact Nat.le_of_ble_eq_true rfl)
  intro D' h' F' N' l1
  (try dsimp only [List.drop, Array.toList] at N')
  (try k_lt l1)
  (try k_fold))))
local macro_rules | `(tactic| k_mem) => `(tactic| (first | (refine List.mem_cons_of_mem _ ?_; assumption) | (refine List.mem_cons_of_mem _ (List.mem_cons_of_mem _ ?_); assumption)))
local macro_rules | `(tactic| walk_at "binaryOp Mod int int") => `(tactic| (k_here; (fail_if_success (with_reducible show wpAny _ _ (binaryOp _ _ (Value.int 1000003 _)) _ _ _)); (refine m_modE (by first | decide | omega) ?_); intro r' e' lo' hi'))
local macro_rules | `(tactic| walk_at "binaryOp FloorDiv int int") => `(tactic| (k_here; (refine m_fdiv (by omega) (by omega) (by omega) ?_); intro r' e' lo' hi'))
local macro_rules | `(tactic| walk_at "binaryOp Mult int int") => `(tactic| (k_here; (fail_if_success (with_reducible show wpAny _ _ (binaryOp _ (Value.int 5 _) _) _ _ _)); (first | refine m_mulL (by omega) (by omega) ?_ | refine m_mulR (by omega) (by omega) ?_); intro r' e'))
local macro_rules | `(tactic| walk_at "binaryOp Pow int int") => `(tactic| (k_here; (refine m_pow (by decide) (by decide) (by omega) (by omega) ?_); intro r' e'))
local macro_rules | `(tactic| walk_at "call ref") => `(tactic| (k_here; k_dflt (
   (refine' tellsN_use (c := mulT) ?k1 ?k2 ?k3 ?k4 ?k5 ?kK ?kR (mulP _ _ _ _ _) ?ko ?kd ?ku ?_)
   (case k1 => k_asm)
   (case k2 => k_asm)
   (case k3 => k_asm)
   (case k4 => k_asm)
   (case k5 => k_asm)
   (case kK => first | exact rfl | assumption)
   (case kR => (refine' MRel.mk (XyIn.mk ?m0) (CvIn.mk ?m1); (case m0 => k_mem); (case m1 => k_mem)))
   (case ko => exact ⟨Four.goodC (by assumption), by assumption, by assumption, by assumption, by assumption, by (try dsimp only); first | assumption | omega, by (try dsimp only); first | assumption | omega⟩)
   (case kd => ktr_room)
   (case ku => ktr_units)
   intro r9 tl9 h9 tk9 F9 N9 hl9 ht9 ho9
   obtain ⟨D9, x9, y9, tx9, ty9, n9, w9, v9, e9, bx0, bx1, by0, by1⟩ := FrOut.open ht9 ho9
   subst w9
   subst v9
   (try dsimp only at e9)
   replace N9 := news_front N9
   have l9 := ord_front hl9
   clear hl9 ht9
   (rename Four _ => hF9)
   have f9 := pt_mul hF9 (by assumption) (by first | assumption | omega) (by first | assumption | (dsimp only; omega)) (by first | assumption | omega) (by first | assumption | (dsimp only; omega)) e9
   obtain ⟨j9, g9, jo9, jh9, q9⟩ := pt_let f9 (by assumption)
   clear f9 e9
   (try dsimp only at l9)
   (try k_lt l9)
   (try dsimp only)
   (try k_fold))))
local macro_rules | `(tactic| walk_at "call ref") => `(tactic| (k_here; k_dflt (
   (refine' tellsN_use (c := plusT) ?k1 ?k2 ?k3 ?k4 ?k5 ?kK ?kR (plusP _ _ _ _ _) ?ko ?kd ?ku ?_)
   (case k1 => k_asm)
   (case k2 => k_asm)
   (case k3 => k_asm)
   (case k4 => k_asm)
   (case k5 => k_asm)
   (case kK => first | exact rfl | assumption)
   (case kR => (refine' PRel.mk (XyIn.mk ?m0) (XyIn.mk ?m1) (CvIn.mk ?m2); (case m0 => k_mem); (case m1 => k_mem); (case m2 => k_mem)))
   (case ko => exact ⟨Four.goodC (by assumption), by assumption, by assumption, by assumption, by assumption, by assumption, by assumption, by assumption, by assumption⟩)
   (case kd => ktr_room)
   (case ku => ktr_units)
   intro r9 tl9 h9 tk9 F9 N9 hl9 ht9 ho9
   obtain ⟨D9, x9, y9, tx9, ty9, n9, w9, v9, e9, bx0, bx1, by0, by1⟩ := FrOut.open ht9 ho9
   subst w9
   subst v9
   (try dsimp only at e9)
   replace N9 := news_front N9
   have l9 := ord_front hl9
   clear hl9 ht9
   (rename Four _ => hF9)
   have f9 := pt_plus hF9 (by assumption) (by assumption) (by first | assumption | omega) (by first | assumption | (dsimp only; omega)) (by first | assumption | omega) (by first | assumption | (dsimp only; omega)) e9
   obtain ⟨j9, g9, jo9, jh9, q9⟩ := pt_let f9 (by assumption)
   clear f9 e9
   (try dsimp only at l9)
   (try k_lt l9)
   (try dsimp only)
   (try k_fold))))
local macro_rules | `(tactic| walk_at "call ref") => `(tactic| (k_here; k_dflt (
   (refine' tellsN_use (c := privT) ?k1 ?k2 ?k3 ?k4 ?k5 ?kK ?kR (privP _ _ _ _ _) ?ko ?kd ?ku ?_)
   (case k1 => k_asm)
   (case k2 => k_asm)
   (case k3 => k_asm)
   (case k4 => k_asm)
   (case k5 => k_asm)
   (case kK => first | exact rfl | assumption)
   (case kR => (refine' PvRel.mk (CvIn.mk ?m0); (case m0 => k_mem)))
   (case ko => exact ⟨Four.goodC (by assumption), by assumption, by assumption, by assumption, by assumption, by (try dsimp only); first | assumption | omega, by (try dsimp only); first | assumption | omega⟩)
   (case kd => ktr_room)
   (case ku => ktr_units)
   intro r9 tl9 h9 tk9 F9 N9 hl9 ht9 ho9
   obtain ⟨D9, x9, y9, tx9, ty9, n9, w9, v9, e9, bx0, bx1, by0, by1⟩ := FrOut.open ht9 ho9
   subst w9
   subst v9
   (try dsimp only at e9)
   replace N9 := news_front N9
   have l9 := ord_front hl9
   clear hl9 ht9
   (rename Four _ => hF9)
   have f9 := pt_mul hF9 (pt_one hF9) (by omega) (by dsimp only; omega) (by first | assumption | omega) (by first | assumption | (dsimp only; omega)) e9
   obtain ⟨j9, g9, jo9, jh9, q9⟩ := pt_let f9 (by assumption)
   clear f9 e9
   (try dsimp only at l9)
   (try k_lt l9)
   (try dsimp only)
   (try k_fold))))
local macro_rules | `(tactic| walk_at "call ref") => `(tactic| (k_here; k_dflt (
   (refine' ans_use ?k1 ?k2 ?k3 ?k4 ?k5 ?kK ?r1 ?r2 ?r3 ?rF ?h1 ?h2 ?h3 ?h4 ?e1 ?e2 ?j0 ?j1 ?kd ?ku ?_)
   (case k1 => k_asm)
   (case k2 => k_asm)
   (case k3 => k_asm)
   (case k4 => k_asm)
   (case k5 => k_asm)
   (case kK => first | exact rfl | assumption)
   (case r1 => (refine' XyIn.mk ?m0; (case m0 => k_mem)))
   (case r2 => (refine' XyIn.mk ?m0; (case m0 => k_mem)))
   (case r3 => (refine' CvIn.mk ?m0; (case m0 => k_mem)))
   (case rF => assumption)
   (case h1 => assumption)
   (case h2 => assumption)
   (case h3 => assumption)
   (case h4 => assumption)
   (case e1 => assumption)
   (case e2 => assumption)
   (case j0 => assumption)
   (case j1 => assumption)
   (case kd => ktr_room)
   (case ku => ktr_units)
   intro D9 t9 n9 h9 tk9 F9 N9 l9
   (try dsimp only at N9)
   (try simp only [LCg.Off1, and_true] at l9)
   (try dsimp only)
   (try k_fold))))
local macro_rules | `(tactic| walk_at "compareOp Eq ref ref") => `(tactic| (k_here; (with_reducible show wpAny _ _ (compareOp CmpOp.Eq (Value.ref _) (Value.ref _)) _ _ _); k_dflt (
   (refine' m_eqpt ?q1 ?q2 ?q3 ?q4 ?q5 ?q6 ?q7 ?q8 ?q9 ?qa ?qb ?_)
   (case q1 => k_asm)
   (case q2 => k_mem)
   (case q3 => k_mem)
   (case q4 => assumption)
   (case q5 => assumption)
   (case q6 => assumption)
   (case q7 => first | assumption | omega)
   (case q8 => first | assumption | (dsimp only; omega))
   (case q9 => first | assumption | omega)
   (case qa => first | assumption | (dsimp only; omega))
   (case qb => first | ke_room | (simp only [units_in1, units_deeper, Around.mark_units, units_caller, cLine] at *; omega))
   k_whole
   (try k_fold))))
local macro_rules | `(tactic| walk_at "compareOp NotEq ref ref") => `(tactic| (k_here; (with_reducible show wpAny _ _ (compareOp CmpOp.NotEq (Value.ref _) (Value.ref _)) _ _ _); k_dflt (
   (refine' m_nept ?q1 ?q2 ?q3 ?q4 ?q5 ?q6 ?q7 ?q8 ?q9 ?qa ?qb ?_)
   (case q1 => k_asm)
   (case q2 => k_mem)
   (case q3 => k_mem)
   (case q4 => assumption)
   (case q5 => assumption)
   (case q6 => assumption)
   (case q7 => first | assumption | omega)
   (case q8 => first | assumption | (dsimp only; omega))
   (case q9 => first | assumption | omega)
   (case qa => first | assumption | (dsimp only; omega))
   (case qb => first | ke_room | (simp only [units_in1, units_deeper, Around.mark_units, units_caller, cLine] at *; omega))
   k_whole
   (try k_fold))))
theorem m_first {prog : Program} {w : World} {A : Around} {E : Value → Shared → Prop} {s : Shared} {h₀ : Heap} {L : Addr} {news : List (Addr × Obj)} {value slice : PySem.Expr} {l : Addr} {v : Value} {u : Tok} {Q : Value → Shared → Prop} {n : Nat}
    (N : News h₀ L s.heap news) (hl : (l, listOf #[v] n) ∈ news) (h : Q v s)
    (hs : subscripted slice false (.ref l) (.int 0 u) = operate [.ref l, .int 0 u] (getItem (.ref l) (.int 0 u)) := by with_unfolding_all rfl) :
    wpAny (model prog w) A (subscriptTail value slice (.ref l) (.int 0 u)) Q E s :=
  have hL : s.heap.IsList l #[v] := ⟨_, (N _ hl).1, rfl, n, rfl⟩
  tail_any hL.typeIs slot_list_getitem.lookup (wpAny_getItem_list hL (by decide) (by decide) rfl h) hs
local macro_rules | `(tactic| walk_at "subscriptTail Name Constant ref int") => `(tactic| (k_here; (with_reducible show wpAny _ _ (subscriptTail (PySem.Expr.Name _ _) (PySem.Expr.Constant (PySem.Const.int 0) _ _) (Value.ref _) (Value.int _ _)) _ _ _); k_dflt (
  (refine' m_first ?qN ?ql ?_ ?qs)
  (case qN => k_asm)
  (case ql => k_mem)
  (case qs => with_unfolding_all rfl)
  (try k_fold))))
local macro_rules | `(tactic| walk_at "call type:tuple") => `(tactic| (k_here; (with_reducible show wpAny _ _ (call (Value.type _) [Value.ref _]) _ _ _); k_dflt (
   (refine' call_tuple_tup ?q1 ?_)
   (case q1 => exact News.isTup (by k_asm) (by k_mem))
   (try k_fold))))
local macro_rules | `(tactic| walk_at "CompEnd") => `(tactic| (k_here; k_dflt (
  (refine LCg.CompEnd.intro (by assumption) (by assumption) _ (fun _ hp => List.mem_cons_of_mem _ hp) (by first | assumption | (simp only [LCg.Off3, and_true]; assumption)) (Or.inr ⟨_, by k_mem, rfl, _, rfl⟩) ?_)
  (try k_fold))))
local macro_rules | `(tactic| walk_at "call builtin:pow") => `(tactic| (k_here; (refine m_pow3 (by omega) (by omega) ?_); intro p' e'))
local macro_rules | `(tactic| walk_at "ite") => `(tactic| (k_here; k_openite; first
  | (refine ite_pos (by with_reducible assumption) ?_; walk_say "PRUNED")
  | (refine ite_neg (by with_reducible assumption) ?_; walk_say "PRUNED")
  | (refine ite_isFalse (by with_reducible assumption) ?_; walk_say "PRUNED")
  | with_reducible refine ite_tt ?_
  | with_reducible refine ite_ff ?_
  | (with_reducible refine split_ine ?_ ?_ <;> intro _)
  | (with_reducible refine split_ieq ?_ ?_ <;> intro _)
  | with_reducible refine split_not ?_
  | (refine split_dec ?_ ?_ <;> intro _)
  | (refine split_bool ?_ ?_ <;> intro _)))
theorem law_holds : PySem.Challenge.rw_bw0037_01.Holds := Mine.hd (by
  k_go0
  (all_goals try k_fold)
  (repeat' (first | (with_reducible refine stopW ?_) | (k_unfold; (try dsimp only)) | (k_end; wrow_close) | walk1 | (dsimp only; walk1) | (leave1; walk_say "STEP leave1"; try dsimp only) | fail "no step"))
  all_goals (unfold Stop; try dsimp only)
  · refine law_true (decide_eq_true ?_) (by k_asm) (by assumption) rfl; exact end0 (by assumption) (by assumption) (by assumption) (by assumption) (by assumption) (by assumption) (by first | assumption | omega) (by first | assumption | omega) (by first | assumption | omega) (by first | assumption | omega)
  · refine law_true (beq_iff_eq.mpr ?_) (by k_asm) (by assumption) rfl; exact end1 (by assumption) (by assumption) (by assumption) (by assumption) (by assumption) (by assumption) (by assumption) (by assumption) (by assumption) (by assumption) (by assumption) (by first | assumption | omega) (by first | assumption | omega) (by first | assumption | omega) (by first | assumption | omega) (by first | assumption | omega) (by first | assumption | omega) (by first | assumption | omega) (by first | assumption | omega) (by first | assumption | omega) (by first | assumption | omega)
  · refine law_true (decide_eq_true ?_) (by k_asm) (by assumption) rfl; exact end2b (by assumption) (by assumption) (by assumption) (by assumption) (by assumption) (by assumption) (by assumption) (by assumption) (by first | assumption | omega) (by first | assumption | omega) (by first | assumption | omega) (by first | assumption | omega)
  · exfalso; exact end2a (by assumption) (by assumption) (by assumption) (by assumption) (by assumption) (by assumption) (by assumption) (by assumption) (by assumption) (by first | assumption | omega) (by first | assumption | omega) (by first | assumption | omega) (by first | assumption | omega) (by first | assumption | omega) (by first | assumption | omega)
  all_goals (have h3 := end3 (by assumption) (by assumption) (by assumption) (by assumption) (by assumption) (by assumption) (by assumption) (by assumption) (by assumption) (by assumption) (by assumption) (by first | assumption | omega) (by first | assumption | omega) (by first | assumption | omega) (by first | assumption | omega) (by first | assumption | omega) (by first | assumption | omega) (by first | assumption | omega) (by first | assumption | omega) (by first | assumption | omega) (by first | assumption | omega))
  all_goals first | (refine law_true (decide_eq_true ?_) (by k_asm) (by assumption) rfl; exact end0 (by assumption) (by assumption) (by assumption) (by assumption) (by assumption) (by assumption) (by first | assumption | omega) (by first | assumption | omega) (by first | assumption | omega) (by first | assumption | omega)) | (exfalso; first | exact ab1 h3 (by assumption) (by assumption) | exact ab2 h3 (by assumption) (by assumption) | exact ab3 h3 (by assumption) (by assumption) (by assumption)) | exact law_true rfl (by k_asm) (by assumption) rfl | (exfalso; omega))
end Mine
theorem PySem.Challenge.cw_bw0037_01_holds : PySem.Challenge.rw_bw0037_01.Holds := by
  exact Mine.law_holds
