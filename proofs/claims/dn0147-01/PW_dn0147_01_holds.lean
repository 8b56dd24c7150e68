import PyProof.Rows.All
import Wide.All
import OpenK.AllK
import Wide.FinOn
import PySem.Challenge.RW_dn0147_01
open PySem PySem.W PyProof.Rows
set_option Elab.async false
namespace Mine
def bitOf (k : PySem.Str) : Int := if k = PySem.Str.ofString "a" then 256 else if k = PySem.Str.ofString "u" then 32 else if k = PySem.Str.ofString "L" then 4 else 0
def InvS (f o : Int) (k : PySem.Str) : Prop := f = Builtin.bitOr o (bitOf k) ∧ Builtin.bitAnd o 292 = 0 ∧ (k = PySem.Str.ofString "" ∨ k = PySem.Str.ofString "a" ∨ k = PySem.Str.ofString "u")
def InvB (f o : Int) (k : PySem.Str) : Prop := f = Builtin.bitOr o (bitOf k) ∧ Builtin.bitAnd o 292 = 0 ∧ (k = PySem.Str.ofString "" ∨ k = PySem.Str.ofString "a" ∨ k = PySem.Str.ofString "L")
theorem invS0 : InvS 0 0 (PySem.Str.ofString "") := ⟨by decide +kernel, by decide +kernel, Or.inl rfl⟩
theorem invB0 : InvB 0 0 (PySem.Str.ofString "") := ⟨by decide +kernel, by decide +kernel, Or.inl rfl⟩
/-- the inner loop's body, read off the law's own -/
def innerOf : List Stmt → List Stmt
  | .For _ _ (_ :: _ :: _ :: .For _ _ b _ _ :: _) _ _ :: _ => b
  | _ => []
def stored : List PySem.Str := [Str.ofString "v", Str.ofString "flags", Str.ofString "others", Str.ofString "kind", Str.ofString "src", Str.ofString "brings", Str.ofString "more", Str.ofString "bit", Str.ofString "words", Str.ofString "e", Str.ofString "want"]
/-- what is known behind a turn -/
def TurnEnd (Inv : Int → Int → PySem.Str → Prop) (srcV : Value) (h₀ : Heap) (L : Addr) (s : Shared) (news : List (Addr × Obj)) (u : PySem.Str → Option Value) (Q : Flow → Shared → Prop) : Prop :=
  ∀ f' o' k' t1 t2 t3 m' h' c' news', Inv f' o' k' → Fr h₀ L h' m' → News h₀ L h' news' → (∀ p ∈ news, p ∈ news') →
      m' (Str.ofString "flags") = some (.int f' t1) → m' (Str.ofString "others") = some (.int o' t2) → m' (Str.ofString "kind") = some (.str k' t3) → m' (Str.ofString "src") = some srcV → (∀ y, stored.contains y = false → m' y = u y) →
      Q .next { s with heap := h', toks := c' }
/-- a turn of the inner loop keeps the word -/
def TurnOK (Inv : Int → Int → PySem.Str → Prop) (srcV : Value) (prog : Program) (w : World) (A : Around) (h₀ : Heap) (env : Env) (body : List Stmt) (s : Shared) : Prop :=
  ∀ (f o n : Int) (k : PySem.Str) (tf to tk tn : Tok) (u : PySem.Str → Option Value) (h : Heap) (c : Nat) (news : List (Addr × Obj)) (Q : Flow → Shared → Prop) (E : Value → Shared → Prop),
    Inv f o k →
    Fr h₀ env.locals h (fun y => if y = Str.ofString "v" then some (.int n tn) else if y = Str.ofString "flags" then some (.int f tf) else if y = Str.ofString "others" then some (.int o to) else if y = Str.ofString "kind" then some (.str k tk) else if y = Str.ofString "src" then some srcV else u y) →
    News h₀ env.locals h news →
    TurnEnd Inv srcV h₀ env.locals s news u Q →
    wpAny (model prog w) A (execs body env) Q E { s with heap := h, toks := c }
theorem TurnEnd.fin {Inv : Int → Int → PySem.Str → Prop} {srcV : Value} {h₀ : Heap} {L : Addr} {s : Shared} {news news' : List (Addr × Obj)} {u m' : PySem.Str → Option Value} {Q : Flow → Shared → Prop}
    {f' o' : Int} {k' : PySem.Str} {t1 t2 t3 : Tok} {h' : Heap} {c' : Nat}
    (hQ : TurnEnd Inv srcV h₀ L s news u Q) (F : Fr h₀ L h' m') (N : News h₀ L h' news')
    (e1 : m' (Str.ofString "flags") = some (.int f' t1)) (e2 : m' (Str.ofString "others") = some (.int o' t2)) (e3 : m' (Str.ofString "kind") = some (.str k' t3)) (e4 : m' (Str.ofString "src") = some srcV)
    (hI : Inv f' o' k') (hn : ∀ p ∈ news, p ∈ news') (e5 : ∀ y, stored.contains y = false → m' y = u y) :
    Q .next { s with heap := h', toks := c' } := hQ _ _ _ _ _ _ _ _ _ _ hI F N hn e1 e2 e3 e4 e5
theorem cut_turn {prog : Program} {w : World} {A : Around} {h₀ : Heap} {env : Env} {body : List Stmt} {s : Shared} {m : PySem.Str → Option Value} {Q : Flow → Shared → Prop} {E : Value → Shared → Prop}
    (_F : Fr h₀ env.locals s.heap m)
    (h1 : ∀ x t, TurnOK InvS (.str x t) prog w A h₀ env (innerOf body) s) (h2 : ∀ x t, TurnOK InvB (.bytes x t) prog w A h₀ env (innerOf body) s)
    (h3 : (∀ x t, TurnOK InvS (.str x t) prog w A h₀ env (innerOf body) s) → (∀ x t, TurnOK InvB (.bytes x t) prog w A h₀ env (innerOf body) s) → wpAny (model prog w) A (execs body env) Q E s) :
    wpAny (model prog w) A (execs body env) Q E s := h3 h1 h2
/-- bit i of x -/
def tb (x : Int) : Nat → Bool
  | 0 => decide (x % 2 = 1)
  | i + 1 => tb (x / 2) i
theorem tb_and (i : Nat) : ∀ x y : Int, tb (Builtin.bitAnd x y) i = (tb x i && tb y i) := by
  induction i with
  | zero =>
    intro x y
    have h := kbt_halves x y
    unfold tb
    rw [h]
    by_cases h1 : x % 2 = 1 <;> by_cases h2 : y % 2 = 1 <;> simp [h1, h2] <;> omega
  | succ i ih =>
    intro x y
    have h := kbt_halves x y
    unfold tb
    have e : Builtin.bitAnd x y / 2 = Builtin.bitAnd (x / 2) (y / 2) := by
      rw [h]; split <;> omega
    rw [e, ih]
theorem tb_not (i : Nat) : ∀ x : Int, tb (Builtin.bitNot x) i = !tb x i := by
  induction i with
  | zero =>
    intro x
    unfold tb Builtin.bitNot
    by_cases h1 : x % 2 = 1
    · have : ¬ (-x - 1) % 2 = 1 := by omega
      simp [h1, this]
    · have : (-x - 1) % 2 = 1 := by omega
      simp [h1, this]
  | succ i ih =>
    intro x
    unfold tb
    have e : Builtin.bitNot x / 2 = Builtin.bitNot (x / 2) := by unfold Builtin.bitNot; omega
    rw [e, ih]
theorem tb_or (i : Nat) (x y : Int) : tb (Builtin.bitOr x y) i = (tb x i || tb y i) := by
  unfold Builtin.bitOr
  rw [tb_not, tb_and, tb_not, tb_not]
  cases tb x i <;> cases tb y i <;> rfl
theorem tb_zero (i : Nat) : tb 0 i = false := by
  induction i with
  | zero => rfl
  | succ i ih => unfold tb; exact ih
theorem tb_ext_in (m : Nat) : ∀ x y : Int, -(2 ^ m : Nat) ≤ x → x < (2 ^ m : Nat) → -(2 ^ m : Nat) ≤ y → y < (2 ^ m : Nat) → (∀ i, tb x i = tb y i) → x = y := by
  induction m with
  | zero =>
    intro x y h1 h2 h3 h4 h
    have h0 := h 0
    unfold tb at h0
    simp only [Nat.pow_zero] at h1 h2 h3 h4
    have hx : x = -1 ∨ x = 0 := by omega
    have hy : y = -1 ∨ y = 0 := by omega
    rcases hx with rfl | rfl <;> rcases hy with rfl | rfl <;> first | rfl | (revert h0; decide)
  | succ m ih =>
    intro x y h1 h2 h3 h4 h
    rw [Nat.pow_succ] at h1 h2 h3 h4
    have hd : x / 2 = y / 2 := ih (x / 2) (y / 2) (by omega) (by omega) (by omega) (by omega) (fun i => h (i + 1))
    have h0 := h 0
    unfold tb at h0
    have hm : x % 2 = 1 ↔ y % 2 = 1 := by simpa using h0
    omega
theorem tb_ext {x y : Int} (h : ∀ i, tb x i = tb y i) : x = y := by
  have hx := Nat.lt_two_pow_self (n := x.natAbs + y.natAbs)
  exact tb_ext_in (x.natAbs + y.natAbs) x y (by omega) (by omega) (by omega) (by omega) h
theorem or_shuffle (o a m b : Int) : Builtin.bitOr (Builtin.bitOr (Builtin.bitOr o a) m) b = Builtin.bitOr (Builtin.bitOr o m) (Builtin.bitOr a b) := by
  refine tb_ext fun i => ?_
  simp only [tb_or]
  cases tb o i <;> cases tb a i <;> cases tb m i <;> cases tb b i <;> rfl
theorem or_assoc3 (x y z : Int) : Builtin.bitOr (Builtin.bitOr x y) z = Builtin.bitOr x (Builtin.bitOr y z) := by
  refine tb_ext fun i => ?_
  simp only [tb_or]
  cases tb x i <;> cases tb y i <;> cases tb z i <;> rfl
/-- what is clear of c, laid aside by a mask within c -/
theorem and_clear {x c d : Int} (g : Int) (hx : Builtin.bitAnd x c = 0) (hd : Builtin.bitAnd c d = d) : Builtin.bitAnd (Builtin.bitOr x g) d = Builtin.bitAnd g d := by
  refine tb_ext fun i => ?_
  have h1 := congrArg (fun z => tb z i) hx
  have h2 := congrArg (fun z => tb z i) hd
  simp only [tb_and, tb_zero] at h1 h2
  simp only [tb_and, tb_or]
  revert h1 h2
  cases tb x i <;> cases tb c i <;> cases tb d i <;> cases tb g i <;> simp
theorem more_clear (q : Int) : Builtin.bitAnd (Builtin.bitAnd q (Builtin.bitNot 292)) 292 = 0 := by
  refine tb_ext fun i => ?_
  simp only [tb_and, tb_not, tb_zero]
  cases tb q i <;> cases tb 292 i <;> rfl
theorem or_clear {x y : Int} (hx : Builtin.bitAnd x 292 = 0) (hy : Builtin.bitAnd y 292 = 0) : Builtin.bitAnd (Builtin.bitOr x y) 292 = 0 := by
  refine tb_ext fun i => ?_
  have h1 := congrArg (fun z => tb z i) hx
  have h2 := congrArg (fun z => tb z i) hy
  simp only [tb_and, tb_zero] at h1 h2
  simp only [tb_and, tb_or, tb_zero]
  revert h1 h2
  cases tb x i <;> cases tb y i <;> cases tb 292 i <;> simp
abbrev tblS : List PySem.Str := [Str.ofString "", Str.ofString "a", Str.ofString "u", Str.ofString "au", Str.ofString "L", Str.ofString "aL", Str.ofString "uL", Str.ofString "auL"]
abbrev tblI : List Int := [0, 256, 32, 288, 4, 260, 36, 292]
abbrev moreOf (n : Int) : Int := Builtin.bitAnd (n.fdiv 8) (Builtin.bitNot 292)
abbrev allOf (f n : Int) : Int := Builtin.bitOr (Builtin.bitOr f (Builtin.bitAnd (n.fdiv 8) (Builtin.bitNot 292))) (List.getD [0, 256, 32, 288, 4, 260, 36, 292] (n.fmod 8).toNat 0)
abbrev brings (k : PySem.Str) (n : Int) : PySem.Str := k ++ List.getD [Str.ofString "", Str.ofString "a", Str.ofString "u", Str.ofString "au", Str.ofString "L", Str.ofString "aL", Str.ofString "uL", Str.ofString "auL"] (n.fmod 8).toNat Str.empty
def inB (c B : PySem.Str) : Bool := !(Builtin.Str.occurrences B c 0 B.length 1).isEmpty
def gOf (k : PySem.Str) (r : Nat) : Int := Builtin.bitOr (bitOf k) (tblI.getD r 0)
def bOf (k : PySem.Str) (r : Nat) : PySem.Str := k ++ tblS.getD r Str.empty
def WayS (g : Int) (b : PySem.Str) : Prop :=
  (Builtin.bitAnd g 4 = 4 ∧ inB (Str.ofString "L") b = true) ∨
  (Builtin.bitAnd g 4 = 0 ∧ inB (Str.ofString "L") b = false ∧ Builtin.bitAnd g 256 = 0 ∧ inB (Str.ofString "a") b = false ∧ Builtin.bitOr g 32 = 32) ∨
  (Builtin.bitAnd g 4 = 0 ∧ inB (Str.ofString "L") b = false ∧ Builtin.bitAnd g 256 = 256 ∧ inB (Str.ofString "a") b = true ∧ Builtin.bitAnd g 32 = 32 ∧ inB (Str.ofString "u") b = true) ∨
  (Builtin.bitAnd g 4 = 0 ∧ inB (Str.ofString "L") b = false ∧ Builtin.bitAnd g 256 = 256 ∧ inB (Str.ofString "a") b = true ∧ Builtin.bitAnd g 32 = 0 ∧ inB (Str.ofString "u") b = false ∧ g = 256)
def wayDecS (g : Int) (b : PySem.Str) : Decidable (WayS g b) := by unfold WayS; infer_instance
theorem wayS_k {k : PySem.Str} (h : (List.range 8).all (fun r => @decide (WayS (gOf k r) (bOf k r)) (wayDecS _ _)) = true) {r : Nat} (hr : r < 8) : WayS (gOf k r) (bOf k r) :=
  @of_decide_eq_true _ (wayDecS _ _) (List.all_eq_true.mp h r (List.mem_range.mpr hr))
theorem wayS_fin {k : PySem.Str} (h : k = Str.ofString "" ∨ k = Str.ofString "a" ∨ k = Str.ofString "u") {r : Nat} (hr : r < 8) : WayS (gOf k r) (bOf k r) := by
  rcases h with rfl | rfl | rfl
  · exact wayS_k (by decide +kernel) hr
  · exact wayS_k (by decide +kernel) hr
  · exact wayS_k (by decide +kernel) hr
theorem fmod8 (n : Int) : (n.fmod 8).toNat < 8 := by
  rw [Int.fmod_eq_emod_of_nonneg _ (by decide)]; omega
theorem all_eq {f o : Int} {k : PySem.Str} (h : f = Builtin.bitOr o (bitOf k)) (n : Int) : allOf f n = Builtin.bitOr (Builtin.bitOr o (moreOf n)) (gOf k (n.fmod 8).toNat) := by
  subst h
  exact or_shuffle _ _ _ _
theorem om_clear {o : Int} (h : Builtin.bitAnd o 292 = 0) (n : Int) : Builtin.bitAnd (Builtin.bitOr o (moreOf n)) 292 = 0 := or_clear h (more_clear _)
/-- the four ways of a turn over a text -/
theorem waysS {f o : Int} {k : PySem.Str} (h : InvS f o k) (n : Int) :
    (Builtin.bitAnd (allOf f n) 4 = 4 ∧ inB (Str.ofString "L") (brings k n) = true) ∨
    (Builtin.bitAnd (allOf f n) 4 = 0 ∧ inB (Str.ofString "L") (brings k n) = false ∧ Builtin.bitAnd (allOf f n) 256 = 0 ∧ inB (Str.ofString "a") (brings k n) = false ∧ InvS (Builtin.bitOr (allOf f n) 32) (Builtin.bitOr o (moreOf n)) (Str.ofString "u")) ∨
    (Builtin.bitAnd (allOf f n) 4 = 0 ∧ inB (Str.ofString "L") (brings k n) = false ∧ Builtin.bitAnd (allOf f n) 256 = 256 ∧ inB (Str.ofString "a") (brings k n) = true ∧ Builtin.bitAnd (allOf f n) 32 = 32 ∧ inB (Str.ofString "u") (brings k n) = true) ∨
    (Builtin.bitAnd (allOf f n) 4 = 0 ∧ inB (Str.ofString "L") (brings k n) = false ∧ Builtin.bitAnd (allOf f n) 256 = 256 ∧ inB (Str.ofString "a") (brings k n) = true ∧ Builtin.bitAnd (allOf f n) 32 = 0 ∧ inB (Str.ofString "u") (brings k n) = false ∧ InvS (allOf f n) (Builtin.bitOr o (moreOf n)) (Str.ofString "a")) := by
  obtain ⟨h1, h2, h3⟩ := h
  have hc := om_clear h2 n
  have e := all_eq h1 n
  have eb : brings k n = bOf k (n.fmod 8).toNat := rfl
  rw [e, eb]
  rw [and_clear (gOf k (n.fmod 8).toNat) hc (d := 4) (by decide +kernel), and_clear (gOf k (n.fmod 8).toNat) hc (d := 256) (by decide +kernel), and_clear (gOf k (n.fmod 8).toNat) hc (d := 32) (by decide +kernel)]
  have w := wayS_fin h3 (fmod8 n)
  rcases w with w | ⟨a1, a2, a3, a4, a5⟩ | w | ⟨a1, a2, a3, a4, a5, a6, a7⟩
  · exact .inl w
  · refine .inr (.inl ⟨a1, a2, a3, a4, ?_, hc, .inr (.inr rfl)⟩)
    rw [or_assoc3, a5]; rfl
  · exact .inr (.inr (.inl w))
  · refine .inr (.inr (.inr ⟨a1, a2, a3, a4, a5, a6, ?_, hc, .inr (.inl rfl)⟩))
    rw [a7]; rfl
def Cut1 (x z : PySem.Str) : Prop := x.length ≤ sizeLine ∧ Txt.slice x none (some 1) = z
theorem cut_nil {b : PySem.Str} (h : b = Str.ofString "") : Cut1 b (Str.ofString "") := by
  subst h; exact ⟨by rw [sizeLine_eq]; decide +kernel, by decide +kernel⟩
theorem cut_a {b : PySem.Str} (h : b = Str.ofString "a" ∨ b = Str.ofString "aa") : Cut1 b (Str.ofString "a") := by
  rcases h with rfl | rfl <;> exact ⟨by rw [sizeLine_eq]; decide +kernel, by decide +kernel⟩
theorem cut_L {b : PySem.Str} (h : b = Str.ofString "L" ∨ b = Str.ofString "LL") : Cut1 b (Str.ofString "L") := by
  rcases h with rfl | rfl <;> exact ⟨by rw [sizeLine_eq]; decide +kernel, by decide +kernel⟩
def WayB (g : Int) (b : PySem.Str) : Prop :=
  (Builtin.bitAnd g 32 = 32 ∧ inB (Str.ofString "u") b = true) ∨
  (Builtin.bitAnd g 32 = 0 ∧ inB (Str.ofString "u") b = false ∧ Builtin.bitAnd g 4 = 4 ∧ Builtin.bitAnd g 256 = 256 ∧ inB (Str.ofString "a") b = true ∧ inB (Str.ofString "L") b = true) ∨
  (Builtin.bitAnd g 32 = 0 ∧ inB (Str.ofString "u") b = false ∧ Builtin.bitAnd g 4 = 0 ∧ inB (Str.ofString "a") b = false ∧ b = Str.ofString "" ∧ g = 0) ∨
  (Builtin.bitAnd g 32 = 0 ∧ inB (Str.ofString "u") b = false ∧ Builtin.bitAnd g 4 = 0 ∧ inB (Str.ofString "a") b = true ∧ inB (Str.ofString "L") b = false ∧ (b = Str.ofString "a" ∨ b = Str.ofString "aa") ∧ g = 256) ∨
  (Builtin.bitAnd g 32 = 0 ∧ inB (Str.ofString "u") b = false ∧ Builtin.bitAnd g 4 = 4 ∧ Builtin.bitAnd g 256 = 0 ∧ inB (Str.ofString "a") b = false ∧ (b = Str.ofString "L" ∨ b = Str.ofString "LL") ∧ g = 4)
def wayDecB (g : Int) (b : PySem.Str) : Decidable (WayB g b) := by unfold WayB; infer_instance
theorem wayB_k {k : PySem.Str} (h : (List.range 8).all (fun r => @decide (WayB (gOf k r) (bOf k r)) (wayDecB _ _)) = true) {r : Nat} (hr : r < 8) : WayB (gOf k r) (bOf k r) :=
  @of_decide_eq_true _ (wayDecB _ _) (List.all_eq_true.mp h r (List.mem_range.mpr hr))
theorem wayB_fin {k : PySem.Str} (h : k = Str.ofString "" ∨ k = Str.ofString "a" ∨ k = Str.ofString "L") {r : Nat} (hr : r < 8) : WayB (gOf k r) (bOf k r) := by
  rcases h with rfl | rfl | rfl
  · exact wayB_k (by decide +kernel) hr
  · exact wayB_k (by decide +kernel) hr
  · exact wayB_k (by decide +kernel) hr
/-- the five ways of a turn over octets -/
theorem waysB {f o : Int} {k : PySem.Str} (h : InvB f o k) (n : Int) :
    (Builtin.bitAnd (allOf f n) 32 = 32 ∧ inB (Str.ofString "u") (brings k n) = true) ∨
    (Builtin.bitAnd (allOf f n) 32 = 0 ∧ inB (Str.ofString "u") (brings k n) = false ∧ Builtin.bitAnd (allOf f n) 4 = 4 ∧ Builtin.bitAnd (allOf f n) 256 = 256 ∧ inB (Str.ofString "a") (brings k n) = true ∧ inB (Str.ofString "L") (brings k n) = true) ∨
    (Builtin.bitAnd (allOf f n) 32 = 0 ∧ inB (Str.ofString "u") (brings k n) = false ∧ Builtin.bitAnd (allOf f n) 4 = 0 ∧ inB (Str.ofString "a") (brings k n) = false ∧ Cut1 (brings k n) (Str.ofString "") ∧ InvB (allOf f n) (Builtin.bitOr o (moreOf n)) (Str.ofString "")) ∨
    (Builtin.bitAnd (allOf f n) 32 = 0 ∧ inB (Str.ofString "u") (brings k n) = false ∧ Builtin.bitAnd (allOf f n) 4 = 0 ∧ inB (Str.ofString "a") (brings k n) = true ∧ inB (Str.ofString "L") (brings k n) = false ∧ Cut1 (brings k n) (Str.ofString "a") ∧ InvB (allOf f n) (Builtin.bitOr o (moreOf n)) (Str.ofString "a")) ∨
    (Builtin.bitAnd (allOf f n) 32 = 0 ∧ inB (Str.ofString "u") (brings k n) = false ∧ Builtin.bitAnd (allOf f n) 4 = 4 ∧ Builtin.bitAnd (allOf f n) 256 = 0 ∧ inB (Str.ofString "a") (brings k n) = false ∧ Cut1 (brings k n) (Str.ofString "L") ∧ InvB (allOf f n) (Builtin.bitOr o (moreOf n)) (Str.ofString "L")) := by
  obtain ⟨h1, h2, h3⟩ := h
  have hc := om_clear h2 n
  have e := all_eq h1 n
  have eb : brings k n = bOf k (n.fmod 8).toNat := rfl
  rw [e, eb]
  rw [and_clear (gOf k (n.fmod 8).toNat) hc (d := 4) (by decide +kernel), and_clear (gOf k (n.fmod 8).toNat) hc (d := 256) (by decide +kernel), and_clear (gOf k (n.fmod 8).toNat) hc (d := 32) (by decide +kernel)]
  have w := wayB_fin h3 (fmod8 n)
  rcases w with w | w | ⟨a1, a2, a3, a4, a5, a6⟩ | ⟨a1, a2, a3, a4, a5, a6, a7⟩ | ⟨a1, a2, a3, a4, a5, a6, a7⟩
  · exact .inl w
  · exact .inr (.inl w)
  · refine .inr (.inr (.inl ⟨a1, a2, a3, a4, cut_nil a5, ?_, hc, .inl rfl⟩))
    rw [a6]; rfl
  · refine .inr (.inr (.inr (.inl ⟨a1, a2, a3, a4, a5, cut_a a6, ?_, hc, .inr (.inl rfl)⟩)))
    rw [a7]; rfl
  · refine .inr (.inr (.inr (.inr ⟨a1, a2, a3, a4, a5, cut_L a6, ?_, hc, .inr (.inr rfl)⟩)))
    rw [a7]; rfl
/-- what holds between two turns -/
def Between (Inv : Int → Int → PySem.Str → Prop) (srcV : Value) (m₀ : PySem.Str → Option Value) (news : List (Addr × Obj)) (m : PySem.Str → Option Value) (nx : List (Addr × Obj)) : Prop :=
  nx = news ∧ ∃ f o k t1 t2 t3, Inv f o k ∧ m (Str.ofString "flags") = some (.int f t1) ∧ m (Str.ofString "others") = some (.int o t2) ∧ m (Str.ofString "kind") = some (.str k t3) ∧ m (Str.ofString "src") = some srcV ∧ ∀ y, stored.contains y = false → m y = m₀ y
section
variable {Inv : Int → Int → PySem.Str → Prop} {srcV : Value} {prog : Program} {w : World} {A : Around} {h₀ : Heap} {env : Env} {body : List Stmt} {s s₀ : Shared} {Q : Flow → Shared → Prop} {E : Value → Shared → Prop} {m₀ m₁ : PySem.Str → Option Value} {news own : List (Addr × Obj)}
theorem turn_of {n : Int} {t : Tok} {h : Heap} {tk : Nat} {Q' : Flow → Shared → Prop} (T : TurnOK Inv srcV prog w A h₀ env body s₀) (hs : ∀ h tk, ({ s with heap := h, toks := tk } : Shared) = { s₀ with heap := h, toks := tk })
    (hJ : Between Inv srcV m₀ news m₁ news) (F : Fr h₀ env.locals h (fun y => if y = Str.ofString "v" then some (.int n t) else m₁ y)) (N : News h₀ env.locals h (news ++ own))
    (hQ : ∀ h' tk' m' news', Fr h₀ env.locals h' m' → News h₀ env.locals h' news' → (∀ p ∈ news, p ∈ news') → (∀ p ∈ own, p ∈ news') → Between Inv srcV m₀ news m' news → Q' .next { s with heap := h', toks := tk' }) :
    wpAny (model prog w) A (execs body env) Q' E { s with heap := h, toks := tk } := by
  obtain ⟨_, f, o, k, t1, t2, t3, hI, e1, e2, e3, e4, e5⟩ := hJ
  rw [hs]
  have em : (fun y => if y = Str.ofString "v" then some (Value.int n t) else m₁ y) = (fun y => if y = Str.ofString "v" then some (.int n t) else if y = Str.ofString "flags" then some (.int f t1) else if y = Str.ofString "others" then some (.int o t2) else if y = Str.ofString "kind" then some (.str k t3) else if y = Str.ofString "src" then some srcV else m₁ y) := by
    funext y
    split
    · rfl
    · split
      · next q => rw [q]; exact e1
      · split
        · next q => rw [q]; exact e2
        · split
          · next q => rw [q]; exact e3
          · split
            · next q => rw [q]; exact e4
            · rfl
  rw [em] at F
  refine T f o n k t1 t2 t3 t m₁ h tk (news ++ own) Q' E hI F N ?_
  intro f' o' k' u1 u2 u3 m' h' c' news' hI' F' N' hn g1 g2 g3 g4 g5
  rw [← hs]
  refine hQ h' c' m' news' F' N' (fun p hp => hn p (List.mem_append_left _ hp)) (fun p hp => hn p (List.mem_append_right _ hp)) ⟨rfl, f', o', k', u1, u2, u3, hI', g1, g2, g3, g4, fun y hy => ?_⟩
  rw [g5 y hy, e5 y hy]
theorem end_map {m₁ : PySem.Str → Option Value} (e5 : ∀ y, stored.contains y = false → m₁ y = m₀ y) : m₁ = fun y => if [Str.ofString "v", Str.ofString "flags", Str.ofString "others", Str.ofString "kind", Str.ofString "src", Str.ofString "brings", Str.ofString "more", Str.ofString "bit", Str.ofString "words", Str.ofString "e", Str.ofString "want"].contains y then m₁ y else m₀ y := by
  funext y
  cases h : stored.contains y with
  | true =>
    unfold stored at h
    rw [h]; rfl
  | false =>
    rw [e5 y h]
    unfold stored at h
    rw [h]; rfl
theorem loop_script {l : Addr} {vs : List Value} {ns : List Int} {t1 t2 t3 : Tok} (T : TurnOK Inv srcV prog w A h₀ env body s₀) (hs : ∀ h tk, ({ s with heap := h, toks := tk } : Shared) = { s₀ with heap := h, toks := tk })
    (hI : Inv 0 0 (Str.ofString "")) (hh : A.handled = none) (hl : h₀.IsList l vs.toArray) (hi : IntsAre vs ns) (F : Fr h₀ env.locals s.heap m₀) (N : News h₀ env.locals s.heap news)
    (e1 : m₀ (Str.ofString "flags") = some (.int 0 t1)) (e2 : m₀ (Str.ofString "others") = some (.int 0 t2)) (e3 : m₀ (Str.ofString "kind") = some (.str (Str.ofString "") t3)) (e4 : m₀ (Str.ofString "src") = some srcV)
    (done : ∀ (u : PySem.Str → Option Value) h tk, Fr h₀ env.locals h (fun y => if [Str.ofString "v", Str.ofString "flags", Str.ofString "others", Str.ofString "kind", Str.ofString "src", Str.ofString "brings", Str.ofString "more", Str.ofString "bit", Str.ofString "words", Str.ofString "e", Str.ofString "want"].contains y then u y else m₀ y) → News h₀ env.locals h news → Q .next { s with heap := h, toks := tk }) :
    wpAny (model prog w) A (pyIter (.ref l)) (fun it s₂ => LoopAtV prog w A h₀ env (Str.ofString "v") body Q E it s₂) E s := by
  refine iter_invN (fun _ m nx => Between Inv srcV m₀ news m nx) hh hl hi F N ⟨rfl, 0, 0, Str.ofString "", t1, t2, t3, hI, e1, e2, e3, e4, fun _ _ => rfl⟩ ?_ ?_
  · intro i n t m₁ nx h tk own _ _ _ hJ F₁ N₁
    obtain rfl := hJ.1
    refine turn_of T hs hJ F₁ N₁ ?_
    intro h' tk' m' news' F' N' hn ho hJ'
    exact InvEndN.intro F' N' hJ' rfl hn ho
  · intro m₁ nx h tk hJ F₁ N₁
    obtain rfl := hJ.1
    obtain ⟨_, _, _, _, _, _, _, _, _, _, _, _, e5⟩ := hJ
    rw [end_map e5] at F₁
    exact done m₁ h tk F₁ N₁
theorem loop_made {l : Addr} {vs : List Value} {ns : List Int} {nn : Nat} {t1 t2 t3 : Tok} (T : TurnOK Inv srcV prog w A h₀ env body s₀) (hs : ∀ h tk, ({ s with heap := h, toks := tk } : Shared) = { s₀ with heap := h, toks := tk })
    (hI : Inv 0 0 (Str.ofString "")) (hh : A.handled = none) (hl : (l, W.listOf vs.toArray nn) ∈ news) (hi : IntsAre vs ns) (F : Fr h₀ env.locals s.heap m₀) (N : News h₀ env.locals s.heap news)
    (e1 : m₀ (Str.ofString "flags") = some (.int 0 t1)) (e2 : m₀ (Str.ofString "others") = some (.int 0 t2)) (e3 : m₀ (Str.ofString "kind") = some (.str (Str.ofString "") t3)) (e4 : m₀ (Str.ofString "src") = some srcV)
    (done : ∀ (u : PySem.Str → Option Value) h tk, Fr h₀ env.locals h (fun y => if [Str.ofString "v", Str.ofString "flags", Str.ofString "others", Str.ofString "kind", Str.ofString "src", Str.ofString "brings", Str.ofString "more", Str.ofString "bit", Str.ofString "words", Str.ofString "e", Str.ofString "want"].contains y then u y else m₀ y) → News h₀ env.locals h news → Q .next { s with heap := h, toks := tk }) :
    wpAny (model prog w) A (pyIter (.ref l)) (fun it s₂ => LoopAtV prog w A h₀ env (Str.ofString "v") body Q E it s₂) E s := by
  refine iter_invNL (fun _ m nx => Between Inv srcV m₀ news m nx) hh hl hi F N ⟨rfl, 0, 0, Str.ofString "", t1, t2, t3, hI, e1, e2, e3, e4, fun _ _ => rfl⟩ ?_ ?_
  · intro i n t m₁ nx h tk own _ _ _ _ hJ F₁ N₁
    obtain rfl := hJ.1
    refine turn_of T hs hJ F₁ N₁ ?_
    intro h' tk' m' news' F' N' hn ho hJ'
    exact InvEndN.intro F' N' ⟨hl, hJ'⟩ rfl hn ho
  · intro m₁ nx h tk _ hJ F₁ N₁
    obtain rfl := hJ.1
    obtain ⟨_, _, _, _, _, _, _, _, _, _, _, _, e5⟩ := hJ
    rw [end_map e5] at F₁
    exact done m₁ h tk F₁ N₁
end
theorem tbl_len (i : Nat) : (tblS.getD i Str.empty).length ≤ 3 := by
  by_cases h : i < 8
  · revert i; decide +kernel
  · have : tblS[i]? = none := List.getElem?_eq_none (by show 8 ≤ i; omega)
    rw [List.getD_eq_getElem?_getD, this]
    decide +kernel
theorem kind_lenS {f o : Int} {k : PySem.Str} (h : InvS f o k) : k.length ≤ 1 := by
  rcases h.2.2 with rfl | rfl | rfl <;> decide +kernel
theorem sz_S {f o : Int} {k : PySem.Str} (h : InvS f o k) (i : Nat) : k.length + (tblS.getD i Str.empty).length ≤ sizeLine := by
  have h1 := tbl_len i
  have h2 := kind_lenS h
  rw [sizeLine_eq]
  omega
theorem kind_lenB {f o : Int} {k : PySem.Str} (h : InvB f o k) : k.length ≤ 1 := by
  rcases h.2.2 with rfl | rfl | rfl <;> decide +kernel
theorem sz_B {f o : Int} {k : PySem.Str} (h : InvB f o k) (i : Nat) : k.length + (tblS.getD i Str.empty).length ≤ sizeLine := by
  have h1 := tbl_len i
  have h2 := kind_lenB h
  rw [sizeLine_eq]
  omega
section
variable {prog : Program} {w : World} {A : Around} {E : Value → Shared → Prop} {s : Shared} {Q : Value → Shared → Prop}
theorem and_val {a b z : Int} {t u : Tok} (hz : Builtin.bitAnd a b = z) (h : Q (.int z s.toks) { s with toks := s.toks + 1 }) : wpAny (model prog w) A (binaryOp .BitAnd (.int a t) (.int b u)) Q E s := by
  subst hz; exact and_int h
theorem in_val {c B : PySem.Str} {t u : Tok} {b : Bool} (hb : inB c B = b) (h : Q (.bool b) s) : wpAny (model prog w) A (compareOp .In (.str c t) (.str B u)) Q E s := by
  subst hb; exact in_str h
theorem ne_S {f o : Int} {k : PySem.Str} {t u : Tok} (hb : InvS f o k) (h : Q (.bool false) s) : wpAny (model prog w) A (compareOp .NotEq (.int f t) (.int (Builtin.bitOr o (bitOf k)) u)) Q E s := by
  have e := hb.1
  subst e
  exact ne_int (by simpa using h)
theorem ne_B {f o : Int} {k : PySem.Str} {t u : Tok} (hb : InvB f o k) (h : Q (.bool false) s) : wpAny (model prog w) A (compareOp .NotEq (.int f t) (.int (Builtin.bitOr o (bitOf k)) u)) Q E s := by
  have e := hb.1
  subst e
  exact ne_int (by simpa using h)
theorem cut_one {value slice : PySem.Expr} {x z : PySem.Str} {t uj : Tok} {h₀ : Heap} {L : Addr} {m : PySem.Str → Option Value} {news : List (Addr × Obj)} (hF : Fr h₀ L s.heap m) (hN : News h₀ L s.heap news) (hz : Cut1 x z)
    (h : ∀ h' t' k, Fr h₀ L h' m → News h₀ L h' news → Q (.str z t') { s with heap := h', toks := k })
    (hs : subscripted slice false (.str x t) (.ref s.heap.objs.size) = operate [.ref s.heap.objs.size, .str x t] (getItem (.str x t) (.ref s.heap.objs.size)) := by with_unfolding_all rfl)
    (ht : ∀ r, letTemporaryGo value (.str x t) r = pure () := by intro _; with_unfolding_all rfl) :
    wpAny (model prog w) A (subscriptTail value slice (.str x t) (.ref s.heap.objs.size)) Q E { s with heap := s.heap.push { cls := .type "slice", data := .fields #[.none, .int 1 uj, .none] } } := by
  obtain ⟨h1, h2⟩ := hz
  subst h2
  exact slice_strN_ns hF hN h hs ht h1
theorem isi_bytes_str {y : Array UInt8} {u : Tok} (h : ∀ tk, Q (.bool false) { s with toks := tk }) : wpAny (model prog w) A (call (.builtin "isinstance") [.bytes y u, .type "str"]) Q E s :=
  kia_one (K := []) kitx_bytes (fun _ _ e => nomatch e) trivial (by kernel_rfl) (by intro q; cases q) h
def Four (k : PySem.Str) : Prop := k = Str.ofString "" ∨ k = Str.ofString "a" ∨ k = Str.ofString "u" ∨ k = Str.ofString "L"
theorem four_look {k : PySem.Str} (h : Four k) : Spec.lookup (.str k) [(.str (Str.ofString ""), .int 0), (.str (Str.ofString "a"), .int 256), (.str (Str.ofString "u"), .int 32), (.str (Str.ofString "L"), .int 4)] = some (.int (bitOf k)) := by
  rcases h with rfl | rfl | rfl | rfl <;> kernel_rfl
theorem get_kind {d : Addr} {k : PySem.Str} {t : Tok} (T : StrTab prog w s.heap d [(.str (Str.ofString ""), .int 0), (.str (Str.ofString "a"), .int 256), (.str (Str.ofString "u"), .int 32), (.str (Str.ofString "L"), .int 4)]) (hk : Four k)
    (h : ∀ t', Q (.int (bitOf k) t') { s with toks := s.toks + 1 }) : wpAny (model prog w) A (getItem (.ref d) (.str k t)) Q E s :=
  kys_getItem PyProof.V.same_str (strKind_is prog w k t) T (by
    unfold KysD; rw [four_look hk]
    exact fun v hv => by obtain ⟨t', rfl⟩ := PyProof.V.Flat.int_inv hv; exact h t')
theorem fourS {f o : Int} {k : PySem.Str} (h : InvS f o k) : Four k := by
  rcases h.2.2 with h | h | h
  · exact .inl h
  · exact .inr (.inl h)
  · exact .inr (.inr (.inl h))
theorem fourB {f o : Int} {k : PySem.Str} (h : InvB f o k) : Four k := by
  rcases h.2.2 with h | h | h
  · exact .inl h
  · exact .inr (.inl h)
  · exact .inr (.inr (.inr h))
theorem four_a : Four (Str.ofString "a") := .inr (.inl rfl)
theorem four_u : Four (Str.ofString "u") := .inr (.inr (.inl rfl))
end
end Mine
open Mine
local macro_rules | `(tactic| walk_at "binaryOp Add str str") => `(tactic| (k_here; (with_reducible show wpAny _ _ (binaryOp Operator.Add (Value.str _ _) (Value.str _ _)) _ _ _); (first | refine PyProof.Rows.add_str (hsz := sz_S (by assumption) _) ?_ | refine PyProof.Rows.add_str (hsz := sz_B (by assumption) _) ?_); intro _ _))
local macro_rules | `(tactic| walk_at "binaryOp BitAnd int int") => `(tactic| (with_reducible refine and_val (by with_reducible assumption) ?_))
local macro_rules | `(tactic| walk_at "compareOp In str str") => `(tactic| (with_reducible refine in_val (by with_reducible assumption) ?_))
local macro_rules | `(tactic| walk_at "compareOp NotEq int int") => `(tactic| (first | with_reducible refine ne_S (by with_reducible assumption) ?_ | with_reducible refine ne_B (by with_reducible assumption) ?_))
local macro_rules | `(tactic| walk_at "subscriptTail Name Slice str ref") => `(tactic| ((with_reducible show wpAny _ _ (subscriptTail _ (Expr.Slice none (some _) none _) _ _) _ _ _); (with_reducible rename Fr _ _ _ _ => F'); (with_reducible rename News _ _ _ _ => N'); (refine cut_one (s := ⟨_, _, _, _, _⟩) F' N' (by with_reducible assumption) ?_); intro _ _ _ _ _))
local macro_rules | `(tactic| walk_at "call builtin:isinstance") => `(tactic| ((with_reducible refine isi_bytes_str ?_); intro _))
local macro_rules | `(tactic| walk_at "getItem ref str") => `(tactic| (k_here; k_dflt (refine get_kind (by k_tabat) (by first | exact four_a | exact four_u | exact fourS (by with_reducible assumption) | exact fourB (by with_reducible assumption)) ?_); intro _; dsimp only))
local macro_rules | `(tactic| walk_at "pyIter ref") => `(tactic| ((with_reducible show wpAny _ _ _ (fun it s₂ => LoopAtV _ _ _ _ _ (Str.ofString "v") _ _ _ it s₂) _ _); k_dflt (refine' loop_made ?zT ?zhs ?zhI ?zhh ?zhl ?zhi ?zF ?zN ?ze1 ?ze2 ?ze3 ?ze4 ?_; (case zF => k_asm); (case zN => k_asm); (case ze4 => with_unfolding_all rfl); (case zT => first | exact (by with_reducible assumption : ∀ x t, TurnOK InvS (Value.str x t) _ _ _ _ _ _ _) _ _ | exact (by with_reducible assumption : ∀ x t, TurnOK InvB (Value.bytes x t) _ _ _ _ _ _ _) _ _); (case zhs => (intro _ _; rfl)); (case zhI => first | exact invS0 | exact invB0); (case zhh => rfl); (case zhl => k_mem); (case zhi => (repeat constructor)); (case ze1 => with_unfolding_all rfl); (case ze2 => with_unfolding_all rfl); (case ze3 => with_unfolding_all rfl)); intro u' h' tk' F' N'; (try dsimp only)))
local macro_rules | `(tactic| walk_at "pyIter ref") => `(tactic| ((with_reducible show wpAny _ _ _ (fun it s₂ => LoopAtV _ _ _ _ _ (Str.ofString "v") _ _ _ it s₂) _ _); k_dflt (refine' loop_script ?zT ?zhs ?zhI ?zhh ?zhl ?zhi ?zF ?zN ?ze1 ?ze2 ?ze3 ?ze4 ?_; (case zF => k_asm); (case zN => k_asm); (case ze4 => with_unfolding_all rfl); (case zT => first | exact (by with_reducible assumption : ∀ x t, TurnOK InvS (Value.str x t) _ _ _ _ _ _ _) _ _ | exact (by with_reducible assumption : ∀ x t, TurnOK InvB (Value.bytes x t) _ _ _ _ _ _ _) _ _); (case zhs => (intro _ _; rfl)); (case zhI => first | exact invS0 | exact invB0); (case zhh => rfl); (case zhl => assumption); (case zhi => assumption); (case ze1 => with_unfolding_all rfl); (case ze2 => with_unfolding_all rfl); (case ze3 => with_unfolding_all rfl)); intro u' h' tk' F' N'; (try dsimp only)))
set_option maxRecDepth 100000 in
set_option maxHeartbeats 40000000 in
theorem PySem.Challenge.cw_dn0147_01_holds : PySem.Challenge.rw_dn0147_01.Holds := by
  k_with "table" => skip
  w_on
  o_law
  k_head
  case hw => w_witness2
  w_strict (k_go0; (all_goals try k_fold); (all_goals dsimp only); (refine Mine.cut_turn (by assumption) ?zS ?zB ?zR))
  case zS =>
    intro src ts f o n k tf to tk tn u h c news Q E kInv F' N' hQ
    dsimp only [Mine.innerOf]
    rcases Mine.waysS kInv n with ⟨a1, a2⟩ | ⟨a1, a2, a3, a4, a5⟩ | ⟨a1, a2, a3, a4, a5, a6⟩ | ⟨a1, a2, a3, a4, a5, a6, a7⟩
    all_goals (
      w_strict (k_steps; skip)
      refine' Mine.TurnEnd.fin hQ ?zF ?zN ?ze1 ?ze2 ?ze3 ?ze4 ?zhI ?zhn ?ze5
      case zF => k_asm
      case zN => k_asm
      case ze1 => with_unfolding_all rfl
      case ze2 => with_unfolding_all rfl
      case ze3 => with_unfolding_all rfl
      case ze4 => with_unfolding_all rfl
      case zhI => with_reducible assumption
      case zhn => intro p9 h9; kst_mem
      case ze5 => intro y hy; simp only [Mine.stored, List.contains_cons, List.contains_nil, Bool.or_false, Bool.or_eq_false_iff, beq_eq_false_iff_ne, ne_eq] at hy; simp [hy])
  case zB =>
    intro src ts f o n k tf to tk tn u h c news Q E kInv F' N' hQ
    dsimp only [Mine.innerOf]
    rcases Mine.waysB kInv n with ⟨a1, a2⟩ | ⟨a1, a2, a3, a4, a5, a6⟩ | ⟨a1, a2, a3, a4, a5, a6⟩ | ⟨a1, a2, a3, a4, a5, a6, a7⟩ | ⟨a1, a2, a3, a4, a5, a6, a7⟩
    all_goals (
      w_strict (k_steps; skip)
      refine' Mine.TurnEnd.fin hQ ?zF ?zN ?ze1 ?ze2 ?ze3 ?ze4 ?zhI ?zhn ?ze5
      case zF => k_asm
      case zN => k_asm
      case ze1 => with_unfolding_all rfl
      case ze2 => with_unfolding_all rfl
      case ze3 => with_unfolding_all rfl
      case ze4 => with_unfolding_all rfl
      case zhI => with_reducible assumption
      case zhn => intro p9 h9; kst_mem
      case ze5 => intro y hy; simp only [Mine.stored, List.contains_cons, List.contains_nil, Bool.or_false, Bool.or_eq_false_iff, beq_eq_false_iff_ne, ne_eq] at hy; simp [hy])
  case zR =>
    intro hS hB
    dsimp only [Mine.innerOf] at hS hB
    w_strict (k_steps; skip)
